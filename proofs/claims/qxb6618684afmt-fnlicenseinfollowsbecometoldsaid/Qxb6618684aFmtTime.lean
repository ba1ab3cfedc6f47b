import Derived.Test.Qxb6618684aFmtBits
import Derived.WalkSpells
import Derived.Deep.RegionWith
namespace Go.Proofs.Qxb6618684aFmt
open Go.RowKit

set_option maxHeartbeats 400000 in
theorem nsec_any (tb : Nat) (n : Int) (w : World) (hc : w.cell? ⟨tb, 0, none⟩ = some (.int .u64 n)) (h0 : 0 ≤ n) (h1 : n < 1000000000) :
    Calls Tryf.prog 23 #[.pointer (some ⟨tb, 0, none⟩)] w fun e w' => e = .returned (.int .i32 n) ∧ w' = w := by
  have hb := and_mask n h0 h1
  go_enter Tryf.func23, Tryf.ntmps23
  go_wp2
  go_ret
  exact ⟨rfl, rfl⟩

set_option maxHeartbeats 400000 in
theorem sec_any (tb : Nat) (n s : Int) (w : World) (hc : w.cell? ⟨tb, 0, none⟩ = some (.int .u64 n)) (hc1 : w.cell? ⟨tb, 1, none⟩ = some (.int .i64 s)) (h0 : 0 ≤ n) (h1 : n < 1000000000) :
    Calls Tryf.prog 29 #[.pointer (some ⟨tb, 0, none⟩)] w fun e w' => e = .returned (.int .i64 s) ∧ w' = w := by
  have hb := and_mono n h0 h1
  go_enter Tryf.func29, Tryf.ntmps29
  go_wp2
  go_ret
  exact ⟨rfl, rfl⟩

set_option maxHeartbeats 400000 in
theorem addSec_zero (tb : Nat) (n d : Int) (w : World) (hc : w.cell? ⟨tb, 0, none⟩ = some (.int .u64 n)) (hc1 : w.cell? ⟨tb, 1, none⟩ = some (.int .i64 0)) (hf : w.frozen? ⟨tb, 1, none⟩ = false) (h0 : 0 ≤ n) (h1 : n < 1000000000)
    (hd0 : -10000000000 < d) (hd1 : d < 10000000000) :
    Calls Tryf.prog 24 #[.pointer (some ⟨tb, 0, none⟩), .int .i64 d] w fun e w' => e = .returned (.tuple #[]) ∧ w' = w.setCell ⟨tb, 1, none⟩ (.int .i64 d) := by
  have hb := and_mono n h0 h1
  by_cases hp : 0 < d
  · go_enter Tryf.func24, Tryf.ntmps24
    go_wp2
    go_end0
    exact ⟨rfl, rfl⟩
  · go_enter Tryf.func24, Tryf.ntmps24
    go_wp2
    go_end0
    exact ⟨rfl, rfl⟩

set_option maxRecDepth 100000 in
set_option maxHeartbeats 1000000 in
theorem add_up (d q r : Int) (w : World) (hq : d.tdiv 1000000000 = q) (hr : d.tmod 1000000000 = r) (hr0 : 0 ≤ r) (hr1 : r < 1000000000) (hq0 : -10000000000 < q) (hq1 : q < 10000000000) :
    Calls Tryf.prog 18 #[.agg #[.int .u64 0, .int .i64 0, .pointer none], .int .i64 d] w fun e w' => e = .returned (.agg #[.int .u64 r, .int .i64 q, .pointer none]) ∧ Below w.heap.size w w' := by
  have b1 := andNot_zero
  have b2 := or_zero r hr0 hr1
  have b3 := and_mono r hr0 hr1
  go_enter Tryf.func18, Tryf.ntmps18
  go_wp2_with fail
  refine (nsec_any w.heap.size 0 _ (by go_simp) (by omega) (by omega)).mono ?_
  rintro e w' ⟨rfl, rfl⟩
  go_wp2_with fail
  refine (addSec_zero w.heap.size r q _ (by go_simp) (by go_simp) (by go_simp) hr0 hr1 hq0 hq1).mono ?_
  rintro e w' ⟨rfl, rfl⟩
  go_wp2_with fail
  exact bodyPost_ret (v := .agg #[.int .u64 r, .int .i64 q, .pointer none]) (by simp [results, Tryf.results18, go_sem]) rfl ⟨rfl, ((Below.refl _ _).alloc (Nat.le_refl _) _).alloc (by simp) _⟩

set_option maxRecDepth 100000 in
set_option maxHeartbeats 1000000 in
theorem add_down (d q r : Int) (w : World) (hq : d.tdiv 1000000000 = q) (hr : d.tmod 1000000000 = r) (hr0 : r < 0) (hr1 : -1000000000 < r) (hq0 : -9000000000 - 999999999 < q) (hq1 : q < 10000000000) :
    Calls Tryf.prog 18 #[.agg #[.int .u64 0, .int .i64 0, .pointer none], .int .i64 d] w fun e w' => e = .returned (.agg #[.int .u64 (r + 1000000000), .int .i64 (q - 1), .pointer none]) ∧ Below w.heap.size w w' := by
  have b1 := andNot_zero
  have b2 := or_zero (r + 1000000000) (by omega) (by omega)
  have b3 := and_mono (r + 1000000000) (by omega) (by omega)
  go_enter Tryf.func18, Tryf.ntmps18
  go_wp2_with fail
  refine (nsec_any w.heap.size 0 _ (by go_simp) (by omega) (by omega)).mono ?_
  rintro e w' ⟨rfl, rfl⟩
  go_wp2_with fail
  refine (addSec_zero w.heap.size (r + 1000000000) (q - 1) _ (by go_simp) (by go_simp) (by go_simp) (by omega) (by omega) (by omega) (by omega)).mono ?_
  rintro e w' ⟨rfl, rfl⟩
  go_wp2_with fail
  exact bodyPost_ret (v := .agg #[.int .u64 (r + 1000000000), .int .i64 (q - 1), .pointer none]) (by simp [results, Tryf.results18, go_sem]) rfl ⟨rfl, ((Below.refl _ _).alloc (Nat.le_refl _) _).alloc (by simp) _⟩

/-- time.Time{}.Add(d), for whatever d. -/
theorem add_any (d : Int) (w : World) (h0 : -9223372036854775808 ≤ d) (h1 : d ≤ 9223372036854775807) :
    Calls Tryf.prog 18 #[.agg #[.int .u64 0, .int .i64 0, .pointer none], .int .i64 d] w fun e w' => e = .returned (.agg #[.int .u64 (d % 1000000000), .int .i64 (d / 1000000000), .pointer none]) ∧ Below w.heap.size w w' := by
  have hdm := Int.tdiv_mul_add_tmod d 1000000000
  by_cases hr : 0 ≤ d.tmod 1000000000
  · have hlt : d.tmod 1000000000 < 1000000000 := by
      have := Int.tmod_lt_of_pos d (show (0 : Int) < 1000000000 by omega)
      exact this
    have e1 : d % 1000000000 = d.tmod 1000000000 := by omega
    have e2 : d / 1000000000 = d.tdiv 1000000000 := by omega
    rw [e1, e2]
    exact add_up d _ _ w rfl rfl hr hlt (by omega) (by omega)
  · have hgt : -1000000000 < d.tmod 1000000000 := by
      have := Int.lt_tmod_of_pos d (show (0 : Int) < 1000000000 by omega)
      exact this
    have e1 : d % 1000000000 = d.tmod 1000000000 + 1000000000 := by omega
    have e2 : d / 1000000000 = d.tdiv 1000000000 - 1 := by omega
    rw [e1, e2]
    exact add_down d _ _ w rfl rfl (by omega) hgt (by omega) (by omega)

set_option maxRecDepth 100000 in
set_option maxHeartbeats 1000000 in
theorem equal_same (n s : Int) (w : World) (h0 : 0 ≤ n) (h1 : n < 1000000000) :
    Calls Tryf.prog 31 #[.agg #[.int .u64 n, .int .i64 s, .pointer none], .agg #[.int .u64 n, .int .i64 s, .pointer none]] w fun e w' => e = .returned (.bool true) ∧ Below w.heap.size w w' := by
  have b1 := and_mono n h0 h1
  have b2 : bits .and .u64 n n = n := by
    rw [u64_and n n h0 (by omega) h0 (by omega), Nat.and_self]; omega
  go_enter Tryf.func31, Tryf.ntmps31
  go_wp2_with fail
  refine (sec_any w.heap.size n s _ (by go_simp) (by go_simp) h0 h1).mono ?_
  rintro e w' ⟨rfl, rfl⟩
  go_wp2_with fail
  refine (sec_any (w.heap.size + 1) n s _ (by go_simp) (by go_simp) h0 h1).mono ?_
  rintro e w' ⟨rfl, rfl⟩
  go_wp2_with fail
  refine (nsec_any w.heap.size n _ (by go_simp) h0 h1).mono ?_
  rintro e w' ⟨rfl, rfl⟩
  go_wp2_with fail
  refine (nsec_any (w.heap.size + 1) n _ (by go_simp) h0 h1).mono ?_
  rintro e w' ⟨rfl, rfl⟩
  go_wp2
  go_ret
  exact ⟨rfl, ((Below.refl _ _).alloc (Nat.le_refl _) _).alloc (by simp) _⟩
end Go.Proofs.Qxb6618684aFmt
