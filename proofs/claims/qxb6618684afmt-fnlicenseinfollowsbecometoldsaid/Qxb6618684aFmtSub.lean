import Derived.Test.Qxb6618684aFmtTime
import Derived.Deep.RegionHeld3
namespace Go.Proofs.Qxb6618684aFmt
open Go.RowKit

theorem sub_num (d : Int) (h0 : -9223372036854775808 ≤ d) (h1 : d ≤ 9223372036854775807) : wrap64 (wrap64 (d / 1000000000 * 1000000000) + d % 1000000000) = d := by
  unfold wrap64
  omega

set_option maxRecDepth 100000 in
set_option maxHeartbeats 1000000 in
theorem sub_on (d n s m : Int) (w : World) (hn : d % 1000000000 = n) (hs : d / 1000000000 = s) (h0 : -9223372036854775808 ≤ d) (h1 : d ≤ 9223372036854775807) (hm : wrap64 (s * 1000000000) = m) (hd : wrap64 (m + n) = d) :
    Calls Tryf.prog 26 #[.agg #[.int .u64 n, .int .i64 s, .pointer none], .agg #[.int .u64 0, .int .i64 0, .pointer none]] w fun e w' => e = .returned (.int .i64 d) ∧ Below w.heap.size w w' := by
  have n0 : 0 ≤ n := by omega
  have n1 : n < 1000000000 := by omega
  have s0 : -9223372037 ≤ s := by omega
  have s1 : s ≤ 9223372037 := by omega
  have HN : Hid (d % 1000000000 = n) := hn
  have HS : Hid (d / 1000000000 = s) := hs
  clear hn hs
  have b1 := and_mono 0 (by omega) (by omega)
  have b2 : bits .and .u64 n 0 = 0 := by
    rw [u64_and n 0 n0 (by omega) (by omega) (by omega)]; simp
  go_enter Tryf.func26, Tryf.ntmps26
  go_wp2_with fail
  refine (sec_any w.heap.size n s _ (by go_simp) (by go_simp) n0 n1).mono ?_
  rintro e w' ⟨rfl, rfl⟩
  go_wp2_with fail
  refine (sec_any (w.heap.size + 1) 0 0 _ (by go_simp) (by go_simp) (by omega) (by omega)).mono ?_
  rintro e w' ⟨rfl, rfl⟩
  go_wp2_with fail
  refine (nsec_any w.heap.size n _ (by go_simp) n0 n1).mono ?_
  rintro e w' ⟨rfl, rfl⟩
  go_wp2_with fail
  refine (nsec_any (w.heap.size + 1) 0 _ (by go_simp) (by omega) (by omega)).mono ?_
  rintro e w' ⟨rfl, rfl⟩
  go_wp2_with fail
  rw [hd]
  clear hd hm b1 b2
  go_region_held3 (fun w' => w'.cell? ⟨w.heap.size, 0, none⟩ = some (.int .u64 n) ∧ w'.cell? ⟨w.heap.size, 1, none⟩ = some (.int .i64 s) ∧ w'.cell? ⟨w.heap.size, 2, none⟩ = some (.pointer none) ∧
      w'.cell? ⟨w.heap.size + 1, 0, none⟩ = some (.int .u64 0) ∧ w'.cell? ⟨w.heap.size + 1, 1, none⟩ = some (.int .i64 0) ∧ w'.cell? ⟨w.heap.size + 1, 2, none⟩ = some (.pointer none))
    (first | go_keep | (exact ⟨cell_later hb (by go_simp), cell_later hb (by go_simp), cell_later hb (by go_simp), cell_later hb (by go_simp), cell_later hb (by go_simp), cell_later hb (by go_simp)⟩) | (exact ⟨cell_later hb2 (cell_later hb (by go_simp)), cell_later hb2 (cell_later hb (by go_simp)), cell_later hb2 (cell_later hb (by go_simp)), cell_later hb2 (cell_later hb (by go_simp)), cell_later hb2 (cell_later hb (by go_simp)), cell_later hb2 (cell_later hb (by go_simp))⟩))
    (first
      | (go_at_call 18; refine (add_any d _ h0 h1).mono ?_; rw [HN.out, HS.out]; rintro e w' ⟨rfl, hb⟩)
      | (go_at_call 31; refine (equal_same n s _ n0 n1).mono ?_; rintro e w'' ⟨rfl, hb2⟩))
  all_goals
    go_wp2
    go_ret
    exact ⟨rfl, (((((Below.refl _ _).alloc (Nat.le_refl _) _).alloc (by simp) _).drew).trans (hb.mono (by simp [World.drew]; omega))).trans (hb2.mono (by have := hb.size; simp [World.drew] at this; omega))⟩

theorem sub_any (d : Int) (w : World) (h0 : -9223372036854775808 ≤ d) (h1 : d ≤ 9223372036854775807) :
    Calls Tryf.prog 26 #[.agg #[.int .u64 (d % 1000000000), .int .i64 (d / 1000000000), .pointer none], .agg #[.int .u64 0, .int .i64 0, .pointer none]] w fun e w' => e = .returned (.int .i64 d) ∧ Below w.heap.size w w' :=
  sub_on d _ _ _ w rfl rfl h0 h1 rfl (sub_num d h0 h1)
end Go.Proofs.Qxb6618684aFmt
