import Derived.Test.Qxb6618684aFmtSub
import Derived.Test.Qxb6618684aFmtRec
import Derived.Test.Qxb6618684aFmtAsk
import Derived.Deep.RegionLaw
namespace Go.Proofs.Qxb6618684aFmt
open Go.RowKit

set_option maxHeartbeats 400000 in
theorem atNanos (d : Int) (st rs : ByteArray) (w : World) (h0 : -9223372036854775808 ≤ d) (h1 : d ≤ 9223372036854775807) :
    Calls Tryf.prog 19 #[.agg #[.string st, .int .u64 (d % 1000000000), .int .i64 (d / 1000000000), .pointer none, .string rs]] w fun e w' => e = .returned (.int .i64 d) ∧ Below w.heap.size w w' := by
  obtain ⟨n, hn⟩ : ∃ n, n = d % 1000000000 := ⟨_, rfl⟩
  obtain ⟨s, hs⟩ : ∃ s, s = d / 1000000000 := ⟨_, rfl⟩
  have HC := sub_any d
  rw [← hn, ← hs] at HC ⊢
  have HC' : Hid _ := HC
  clear HC hn hs
  go_enter Tryf.func19, Tryf.ntmps19
  go_wp2_with fail
  refine (HC'.out _ h0 h1).mono ?_
  rintro e w' ⟨rfl, hb⟩
  go_wp2
  go_ret
  exact ⟨rfl, ((Below.refl _ _).alloc (Nat.le_refl _) _).trans (hb.mono (by simp))⟩

set_option maxRecDepth 100000 in
set_option maxHeartbeats 400000 in
theorem eventIs (d : Int) (st rs : ByteArray) (w : World) (h0 : -9223372036854775808 ≤ d) (h1 : d ≤ 9223372036854775807) :
    Calls Tryf.prog 11 #[.agg #[.string st, .int .u64 (d % 1000000000), .int .i64 (d / 1000000000), .pointer none, .string rs], .string st, .int .i64 d, .string rs] w fun e w' => e = .returned (.bool true) ∧ Below w.heap.size w w' := by
  obtain ⟨n, hn⟩ : ∃ n, n = d % 1000000000 := ⟨_, rfl⟩
  obtain ⟨s, hs⟩ : ∃ s, s = d / 1000000000 := ⟨_, rfl⟩
  have HC := atNanos d st rs
  rw [← hn, ← hs] at HC ⊢
  have HC' : Hid _ := HC
  clear HC hn hs
  go_enter Tryf.func11, Tryf.ntmps11
  go_wp2_with fail
  refine (HC'.out _ h0 h1).mono ?_
  rintro e w' ⟨rfl, hb⟩
  have hc := cell_later hb (a := ⟨w.heap.size, 4, none⟩) (v := .string rs) (by go_simp)
  go_wp2
  go_ret
  exact ⟨rfl, ((Below.refl _ _).alloc (Nat.le_refl _) _).trans (hb.mono (by simp))⟩

theorem info48 : (Tryf.prog.info? 48).map (fun i => (i.zero, i.size, i.bytes)) = some (some (.agg #[.string ByteArray.empty, .int .u64 0, .int .i64 0, .pointer none, .string ByteArray.empty]), 5, 56) := by kernel_rfl

theorem owns_none (w : World) (base : Nat) (e : TypeId) (size : Nat) : w.ownsRow base e size (.slice none 0 0) 0 [] := ⟨by simp, Or.inl ⟨rfl, rfl⟩⟩

theorem ownsRow_lower {w : World} {base base' : Nat} {e : TypeId} {size : Nat} {v : Value} {n : Nat} {xs : List Value} (h : w.ownsRow base e size v n xs) (hb : base' ≤ base) : w.ownsRow base' e size v n xs := by
  obtain ⟨h1, h2⟩ := h
  refine ⟨h1, ?_⟩
  rcases h2 with h2 | ⟨g, cap, cur, hv, hg, r⟩
  · exact Or.inl h2
  · exact Or.inr ⟨g, cap, cur, hv, Nat.le_trans hb hg, r⟩

set_option maxRecDepth 100000 in
set_option maxHeartbeats 1000000 in
theorem become (L : Nat) (v : Value) (nx rs : ByteArray) (n s : Int) (w : World) (h10 : w.cell? ⟨L, 10, none⟩ = some v) (h11 : w.cell? ⟨L, 11, none⟩ = some (.slice none 0 0))
    (f10 : w.frozen? ⟨L, 10, none⟩ = false) (f11 : w.frozen? ⟨L, 11, none⟩ = false) (i : ByteArray) (h00 : w.cell? ⟨L, 0, none⟩ = some (.string i)) :
    Calls Tryf.prog 17 #[.pointer (some ⟨L, 0, none⟩), .string nx, .agg #[.int .u64 n, .int .i64 s, .pointer none], .string rs] w fun e w' => e = .returned (.tuple #[]) ∧
      w'.cell? ⟨L, 0, none⟩ = some (.string i) ∧ w'.cell? ⟨L, 10, none⟩ = some (.string nx) ∧ (∃ g cap, w'.cell? ⟨L, 11, none⟩ = some (.slice (some ⟨g, 0, none⟩) 1 cap) ∧
        w'.ownsRow w.heap.size 48 5 (.slice (some ⟨g, 0, none⟩) 1 cap) 1 [.string nx, .int .u64 n, .int .i64 s, .pointer none, .string rs]) ∧ Turned w w' (fun b => b = L) := by
  obtain ⟨i0, hi, hz0, hz1, hz2⟩ := info_parts info48
  have lL : L < w.heap.size := World.block_lt_of_cell? _ _ h10
  have sz : ((w.setCell ⟨L, 10, none⟩ (.string nx)).alloc (.cells #[.int .u64 n, .int .i64 s, .pointer none] 46)).heap.size = w.heap.size + 1 := by simp
  have hnb : ∀ o, (((w.setCell ⟨L, 10, none⟩ (.string nx)).alloc (.cells #[.int .u64 n, .int .i64 s, .pointer none] 46)).alloc o).heap[w.heap.size + 1]? = some o := fun o => by
    rw [← sz]; exact (MapKept.heap_alloc _ _).1
  have HB : Hid _ := hnb
  clear hnb sz
  go_enter Tryf.func17, Tryf.ntmps17
  go_wp2_with fail
  go_region_law
    ((refine step_append_lies _ (by rfl) _ _ _ (by rfl) w.heap.size 48 i0 _ 5 56 Tryf.underlying28 hi hz0 hz1 hz2 rfl (by omega) (.slice none 0 0) 0 [] (by rfl) (owns_none _ _ _ _)
        ⟨w.heap.size + 1, 0, none⟩ 1 1 [.string nx, .int .u64 n, .int .i64 s, .pointer none, .string rs] (by rfl) (by rfl) (World.news_of_block (cs := #[.string nx, .int .u64 n, .int .i64 s, .pointer none, .string rs]) (t := 48) (fr := (0, 0)) (HB.out _)) (by simp [Value.oneCell'])
        (by omega) (by unfold maxLen; omega) (by omega) (by simp; omega) (w.heap.size + 1 + 1) (by simp) ?_; intro g cap w1 hown1 hgrow hat hlt
      have q11 : w1.cell? ⟨L, 11, none⟩ = some (.slice none 0 0) := by (rw [hgrow.cell_far _ (by simp; omega) (by simp [Value.ownBlock])]; go_simp)
      have q0 : w1.cell? ⟨L, 0, none⟩ = some (.string i) := by (rw [hgrow.cell_far _ (by simp; omega) (by simp [Value.ownBlock])]; go_simp)
      have q10 : w1.cell? ⟨L, 10, none⟩ = some (.string nx) := by (rw [hgrow.cell_far _ (by simp; omega) (by simp [Value.ownBlock])]; go_simp)
      have qf : w1.frozen? ⟨L, 11, none⟩ = false := by (rw [hgrow.frozen_far _ (by simp; omega) (by simp [Value.ownBlock])]; go_simp)))
  all_goals
    go_end0
    have gb : w.heap.size ≤ g := by
      obtain ⟨g', cap', e, h1, _⟩ := hown1.form (by omega)
      cases e
      exact h1
    refine ⟨rfl, by go_simp, by go_simp, ⟨g, cap, by go_simp, ownsRow_stays hown1 fun g' e => ?_⟩, ?_⟩
    · cases e
      exact Below.heap_setCell _ _ _ _ (by show g ≠ L; omega)
    · exact (((((Turned.setCell w ⟨L, 10, none⟩ (.string nx) (fun b => b = L) rfl).trans (Turned.of_below ((Below.refl _ _).alloc (Nat.le_refl _) _) _)).trans (Turned.of_below ((Below.refl _ _).alloc (Nat.le_refl _) _) _)).trans (Turned.drew _ _)).trans
        (Turned.of_grown hgrow (fun b => b = L) (fun b e => by cases e))).trans (Turned.setCell w1 ⟨L, 11, none⟩ _ (fun b => b = L) rfl)

set_option maxRecDepth 100000 in
set_option maxHeartbeats 1000000 in
theorem zbecome (L : Nat) (v : Value) (nx rs i : ByteArray) (d : Int) (w : World) (h0 : -9223372036854775808 ≤ d) (h1 : d ≤ 9223372036854775807) (h10 : w.cell? ⟨L, 10, none⟩ = some v) (h11 : w.cell? ⟨L, 11, none⟩ = some (.slice none 0 0))
    (f10 : w.frozen? ⟨L, 10, none⟩ = false) (f11 : w.frozen? ⟨L, 11, none⟩ = false) (h00 : w.cell? ⟨L, 0, none⟩ = some (.string i)) :
    Calls Tryf.prog 9 #[.pointer (some ⟨L, 0, none⟩), .string nx, .int .i64 d, .string rs] w fun e w' => e = .returned (.tuple #[]) ∧
      w'.cell? ⟨L, 0, none⟩ = some (.string i) ∧ w'.cell? ⟨L, 10, none⟩ = some (.string nx) ∧ (∃ g cap, w'.cell? ⟨L, 11, none⟩ = some (.slice (some ⟨g, 0, none⟩) 1 cap) ∧
        w'.ownsRow w.heap.size 48 5 (.slice (some ⟨g, 0, none⟩) 1 cap) 1 [.string nx, .int .u64 (d % 1000000000), .int .i64 (d / 1000000000), .pointer none, .string rs]) ∧ Turned w w' (fun b => b = L) := by
  obtain ⟨n, hn⟩ : ∃ n, n = d % 1000000000 := ⟨_, rfl⟩
  obtain ⟨s, hs⟩ : ∃ s, s = d / 1000000000 := ⟨_, rfl⟩
  have HC := add_any d
  rw [← hn, ← hs] at HC ⊢
  have HC' : Hid _ := HC
  clear HC hn hs
  have lL : L < w.heap.size := World.block_lt_of_cell? _ _ h10
  go_enter Tryf.func9, Tryf.ntmps9
  go_wp2_with fail
  refine (HC'.out _ h0 h1).mono ?_
  rintro e w1 ⟨rfl, hb⟩
  go_wp2_with fail
  refine (become L v nx rs n s w1 (cell_later hb h10) (cell_later hb h11) ((hb.frozen (p := ⟨L, 10, none⟩) lL).trans f10) ((hb.frozen (p := ⟨L, 11, none⟩) lL).trans f11) i (cell_later hb h00)).mono ?_
  rintro e w2 ⟨rfl, c0, c10, ⟨g, cap, c11, hown⟩, hT⟩
  go_wp2
  go_end0
  exact ⟨rfl, c0, c10, ⟨g, cap, c11, ownsRow_lower hown hb.size⟩, (Turned.of_below hb _).trans hT⟩

theorem answer_yes (a : Addr) (w : World) : Calls Tryf.prog 10 #[.pointer (some a), .bool false, .bool true, .pointer (some a)] w fun e w' => e = .returned (.bool true) ∧ w' = w := by
  have heq := same23
  go_enter Tryf.func10, Tryf.ntmps10
  go_wp2
  go_ret
  exact ⟨rfl, rfl⟩

theorem answer_no (v : Value) (w : World) : Calls Tryf.prog 10 #[.pointer none, .bool true, .bool false, v] w fun e w' => e = .returned (.bool true) ∧ w' = w := by
  go_enter Tryf.func10, Tryf.ntmps10
  go_wp2
  go_ret
  exact ⟨rfl, rfl⟩
end Go.Proofs.Qxb6618684aFmt
