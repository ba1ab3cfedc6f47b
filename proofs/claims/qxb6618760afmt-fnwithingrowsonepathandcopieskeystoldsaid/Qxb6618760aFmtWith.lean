import Derived.Test.Qxb6618760aFmtErr
import Derived.Deep.RegionLaw
import Derived.Deep.AppendLies
import Derived.Laws.BytesString
namespace Go.Proofs.Qxb6618760aFmt
open Go.RowKit

/-- The string that []byte zs turns into. -/
def strOf (zs : List Int) : ByteArray := zs.foldl (fun r n => r.push (UInt8.ofNat n.toNat)) ByteArray.empty

theorem run_conv {w : World} {v : Value} {zs : List Int} (h : Bytes w v zs) : (convert 22 9 v).run Tryf.prog w = .ok (.string (strOf zs)) w := by
  have h' := h
  obtain ⟨a, cap, rfl, hn, _⟩ := h'
  rw [run_convert_bytes_string w 22 9 5 a _ cap Tryf.underlying22 Tryf.underlying5 Tryf.underlying9]
  cases a with
  | none =>
    obtain ⟨rfl, rfl⟩ := hn rfl
    simp [Conv.bytesToString, strOf]
  | some ad =>
    have hl := run_loadCells_list (P := Tryf.prog) w ad (zs.map (Value.int .u8)) h.cells
    rw [List.length_map] at hl
    exact run_bytesToString w ad zs.length cap zs hl

/-- w' is w but for the blocks of which 'may' speaks, and new ones. -/
structure Turned (w w' : World) (may : Nat → Prop) : Prop where
  os : w'.os = w.os
  tape : w'.tape = w.tape
  output : w'.output = w.output
  size : w.heap.size ≤ w'.heap.size
  block : ∀ b, b < w.heap.size → ¬ may b → w'.heap[b]? = w.heap[b]?

theorem Turned.of_below {w w' : World} (h : Below w.heap.size w w') (may : Nat → Prop) : Turned w w' may := ⟨h.os, h.tape, h.output, h.size, fun b hb _ => h.block b hb⟩
theorem Turned.of_grown {w w' : World} {row : Option Nat} (h : w.grownBy w' row) (may : Nat → Prop) (hm : ∀ b, row = some b → may b) : Turned w w' may :=
  ⟨h.os, h.tape, h.output, h.size, fun b hb hn => h.block b hb (fun e => hn (hm b e.symm))⟩
theorem Turned.trans {a b c : World} {may : Nat → Prop} (h : Turned a b may) (k : Turned b c may) : Turned a c may :=
  ⟨k.os.trans h.os, k.tape.trans h.tape, k.output.trans h.output, Nat.le_trans h.size k.size, fun i hi hn => (k.block i (Nat.lt_of_lt_of_le hi h.size) hn).trans (h.block i hi hn)⟩
theorem Turned.setCell (w : World) (a : Addr) (v : Value) (may : Nat → Prop) (hm : may a.block) : Turned w (w.setCell a v) may :=
  ⟨rfl, rfl, rfl, by simp [World.setCell], fun b _ hn => Below.heap_setCell _ _ _ _ (fun e => hn (e ▸ hm))⟩
theorem Turned.drew (w : World) (may : Nat → Prop) : Turned w w.drew may := ⟨rfl, rfl, rfl, Nat.le_refl _, fun _ _ _ => rfl⟩
theorem Turned.mono {w w' : World} {may may' : Nat → Prop} (h : Turned w w' may) (hm : ∀ b, may b → may' b) : Turned w w' may' :=
  ⟨h.os, h.tape, h.output, h.size, fun b hb hn => h.block b hb (fun e => hn (hm b e))⟩
theorem Turned.below {a b : World} {may : Nat → Prop} (h : Turned a b may) (B : Nat) (hm : ∀ x, may x → B ≤ x) (hB : B ≤ a.heap.size) : Below B a b :=
  ⟨h.os, h.tape, h.output, h.size, fun k hk => h.block k (by omega) (fun e => by have := hm k e; omega)⟩
theorem ownsRow_stays {w w' : World} {base : Nat} {e : TypeId} {size : Nat} {v : Value} {n : Nat} {xs : List Value} (h : w.ownsRow base e size v n xs) (hb : ∀ g, v.ownBlock = some g → w'.heap[g]? = w.heap[g]?) : w'.ownsRow base e size v n xs := by
  obtain ⟨h1, h2⟩ := h
  refine ⟨h1, ?_⟩
  rcases h2 with h2 | ⟨g, cap, cur, hv, hg, hh, r⟩
  · exact Or.inl h2
  · exact Or.inr ⟨g, cap, cur, hv, hg, (hb g (by rw [hv]; rfl)).trans hh, r⟩
theorem owns_none (w : World) (base : Nat) (e : TypeId) (size : Nat) : w.ownsRow base e size (.slice none 0 0) 0 [] := ⟨by simp, Or.inl ⟨rfl, rfl⟩⟩

theorem info9 : (Tryf.prog.info? 9).map (fun i => (i.zero, i.size, i.bytes)) = some (some (.string ByteArray.empty), 1, 16) := by kernel_rfl

theorem ta_yes (v : Value) (w : World) : (Instr.typeAssert (.iface 29 v) 26 29 true).run Tryf.prog w = .ok (.tuple #[v, .bool true]) w := by kernel_rfl
theorem ta_no (v : Value) (w : World) : (Instr.typeAssert (.iface 42 v) 26 29 true).run Tryf.prog w = .ok (.tuple #[.pointer none, .bool false]) w := by kernel_rfl

set_option maxRecDepth 100000 in
set_option maxHeartbeats 1000000 in
/-- within over an error that is a path already. -/
theorem within_old (v : Value) (zs : List Int) (P k base : Nat) (sv : Value) (xs : List Value) (w : World) (hz : Bytes w v zs) (h1 : w.cell? ⟨P, 1, none⟩ = some sv) (hf : w.frozen? ⟨P, 1, none⟩ = false)
    (hown : w.ownsRow base 9 1 sv k xs) (hP : P < base) (hbase : base ≤ w.heap.size) (hk : k ≤ 100000) :
    Calls Tryf.prog 12 #[v, .iface 29 (.pointer (some ⟨P, 0, none⟩))] w fun e w' => e = .returned (.iface 29 (.pointer (some ⟨P, 0, none⟩))) ∧
      (∃ g cap, w'.cell? ⟨P, 1, none⟩ = some (.slice (some ⟨g, 0, none⟩) (k + 1) cap) ∧ w'.ownsRow base 9 1 (.slice (some ⟨g, 0, none⟩) (k + 1) cap) (k + 1) (xs ++ [.string (strOf zs)])) ∧
      w'.frozen? ⟨P, 1, none⟩ = false ∧ Turned w w' (fun b => b = P ∨ sv.ownBlock = some b) := by
  obtain ⟨i0, hi, hz0, hz1, hz2⟩ := info_parts info9
  have lP : P < w.heap.size := World.block_lt_of_cell? _ _ h1
  have nP : some P ≠ sv.ownBlock := fun e => by
    rcases hown.2 with ⟨e1, _⟩ | ⟨g', cap, cur, e1, hb, hh, _⟩
    · rw [e1] at e; cases e
    · rw [e1] at e
      have e2 : P = g' := by simpa [Value.ownBlock] using e
      omega
  have hcv := run_conv (w := w.drew) (v := v) (zs := zs) hz
  obtain ⟨s, hs⟩ : ∃ s, s = strOf zs := ⟨_, rfl⟩
  rw [← hs] at hcv ⊢
  clear hs
  obtain ⟨a, cap0, rfl, h2, h3⟩ := hz
  clear h2 h3
  have hta := ta_yes
  go_enter Tryf.func12, Tryf.ntmps12
  go_wp2_with fail
  go_region_law
    ((refine step_append_lies _ (by rfl) _ _ _ (by rfl) base 9 i0 _ 1 16 Tryf.underlying32 hi hz0 hz1 hz2 rfl (by omega) sv k xs (by rfl) ((hown.alloc _).drew)
        ⟨w.heap.size, 0, none⟩ 1 1 [.string s] (by rfl) (by rfl) (World.news_of_block (cs := #[.string s]) (t := 9) (fr := (0, 0)) (heap_alloc_new w _)) (by simp [Value.oneCell'])
        (by omega) (by unfold maxLen; omega) (by omega) (by simp; omega) (w.heap.size + 1) (by simp) ?_; intro g cap w1 hown1 hgrow hat hlt
      have q1 : w1.cell? ⟨P, 1, none⟩ = some sv := by (rw [hgrow.cell_far _ (by simp; omega) nP]; go_simp)
      have qf : w1.frozen? ⟨P, 1, none⟩ = false := by (rw [hgrow.frozen_far _ (by simp; omega) nP]; go_simp)))
  all_goals
    go_wp2
    go_ret
    have gb : base ≤ g := by
      obtain ⟨g', cap', e, h1, _⟩ := hown1.form (by omega)
      cases e
      exact h1
    refine ⟨rfl, ⟨g, cap, by go_simp, ownsRow_stays hown1 fun g' e => ?_⟩, by go_simp, ?_⟩
    · cases e
      exact Below.heap_setCell _ _ _ _ (by show g ≠ P; omega)
    · exact (((Turned.of_below ((Below.refl _ w).alloc (Nat.le_refl _) (.cells #[.string s] 9)) (fun b => b = P ∨ sv.ownBlock = some b)).trans (Turned.drew _ _)).trans (Turned.of_grown hgrow _ (fun b e => Or.inr e))).trans (Turned.setCell w1 ⟨P, 1, none⟩ _ _ (Or.inl rfl))

set_option maxRecDepth 100000 in
set_option maxHeartbeats 1000000 in
/-- within over an error of fmt's make: a new path. -/
theorem within_new (v x : Value) (zs : List Int) (w : World) (hz : Bytes w v zs) :
    Calls Tryf.prog 12 #[v, .iface 42 x] w fun e w' => e = .returned (.iface 29 (.pointer (some ⟨w.heap.size, 0, none⟩))) ∧
      (∃ g cap, w'.cell? ⟨w.heap.size, 1, none⟩ = some (.slice (some ⟨g, 0, none⟩) 1 cap) ∧ w'.ownsRow (w.heap.size + 1) 9 1 (.slice (some ⟨g, 0, none⟩) 1 cap) 1 [.string (strOf zs)]) ∧
      w'.frozen? ⟨w.heap.size, 1, none⟩ = false ∧ Below w.heap.size w w' := by
  obtain ⟨i0, hi, hz0, hz1, hz2⟩ := info_parts info9
  have hcv := run_conv (w := (w.alloc (.cells #[.iface 42 x, .slice none 0 0] 37)).drew) (v := v) (zs := zs) (hz.later ((Below.refl _ _).alloc (Nat.le_refl _) _).drew)
  obtain ⟨s, hs⟩ : ∃ s, s = strOf zs := ⟨_, rfl⟩
  rw [← hs] at hcv ⊢
  clear hs
  obtain ⟨a, cap0, rfl, h2, h3⟩ := hz
  clear h2 h3
  have hta := ta_no
  have sz : (w.alloc (.cells #[.iface 42 x, .slice none 0 0] 37)).heap.size = w.heap.size + 1 := by simp
  have hnb : ∀ o, ((w.alloc (.cells #[.iface 42 x, .slice none 0 0] 37)).alloc o).heap[w.heap.size + 1]? = some o := fun o => by
    rw [← sz]; exact (MapKept.heap_alloc _ _).1
  have HB : Hid _ := hnb
  clear hnb sz
  go_enter Tryf.func12, Tryf.ntmps12
  go_wp2_with fail
  go_region_law
    ((refine step_append_lies _ (by rfl) _ _ _ (by rfl) (w.heap.size + 1) 9 i0 _ 1 16 Tryf.underlying32 hi hz0 hz1 hz2 rfl (by omega) (.slice none 0 0) 0 [] (by rfl) (owns_none _ _ _ _)
        ⟨w.heap.size + 1, 0, none⟩ 1 1 [.string s] (by rfl) (by rfl) (World.news_of_block (cs := #[.string s]) (t := 9) (fr := (0, 0)) (HB.out _)) (by simp [Value.oneCell'])
        (by omega) (by unfold maxLen; omega) (by omega) (by simp) (w.heap.size + 1 + 1) (by simp) ?_; intro g cap w1 hown1 hgrow hat hlt
      have q1 : w1.cell? ⟨w.heap.size, 1, none⟩ = some (.slice none 0 0) := by (rw [hgrow.cell_far _ (by simp; omega) (by simp [Value.ownBlock])]; go_simp)
      have qf : w1.frozen? ⟨w.heap.size, 1, none⟩ = false := by (rw [hgrow.frozen_far _ (by simp; omega) (by simp [Value.ownBlock])]; go_simp)))
  all_goals
    go_wp2
    go_ret
    have gb : w.heap.size + 1 ≤ g := by
      obtain ⟨g', cap', e, h1, _⟩ := hown1.form (by omega)
      cases e
      exact h1
    refine ⟨rfl, ⟨g, cap, by go_simp, ownsRow_stays hown1 fun g' e => ?_⟩, by go_simp, ?_⟩
    · cases e
      exact Below.heap_setCell _ _ _ _ (by show g ≠ w.heap.size; omega)
    · exact (((((Below.refl _ w).alloc (Nat.le_refl _) _).alloc (by simp) _).drew).grown hgrow (by simp; omega) (fun k e => by simp [Value.ownBlock] at e)).setCell (by simp) _

theorem zwithin_new (v x : Value) (zs : List Int) (w : World) (hz : Bytes w v zs) :
    Calls Tryf.prog 6 #[v, .iface 42 x] w fun e w' => e = .returned (.iface 29 (.pointer (some ⟨w.heap.size, 0, none⟩))) ∧
      (∃ g cap, w'.cell? ⟨w.heap.size, 1, none⟩ = some (.slice (some ⟨g, 0, none⟩) 1 cap) ∧ w'.ownsRow (w.heap.size + 1) 9 1 (.slice (some ⟨g, 0, none⟩) 1 cap) 1 [.string (strOf zs)]) ∧
      w'.frozen? ⟨w.heap.size, 1, none⟩ = false ∧ Below w.heap.size w w' := by
  go_enter Tryf.func6, Tryf.ntmps6
  go_wp2_with fail
  refine (within_new v x zs w hz).mono ?_
  rintro e w' ⟨rfl, h⟩
  go_wp2
  go_ret
  exact ⟨rfl, h⟩

theorem zwithin_old (v : Value) (zs : List Int) (P k base : Nat) (sv : Value) (xs : List Value) (w : World) (hz : Bytes w v zs) (h1 : w.cell? ⟨P, 1, none⟩ = some sv) (hf : w.frozen? ⟨P, 1, none⟩ = false)
    (hown : w.ownsRow base 9 1 sv k xs) (hP : P < base) (hbase : base ≤ w.heap.size) (hk : k ≤ 100000) :
    Calls Tryf.prog 6 #[v, .iface 29 (.pointer (some ⟨P, 0, none⟩))] w fun e w' => e = .returned (.iface 29 (.pointer (some ⟨P, 0, none⟩))) ∧
      (∃ g cap, w'.cell? ⟨P, 1, none⟩ = some (.slice (some ⟨g, 0, none⟩) (k + 1) cap) ∧ w'.ownsRow base 9 1 (.slice (some ⟨g, 0, none⟩) (k + 1) cap) (k + 1) (xs ++ [.string (strOf zs)])) ∧
      w'.frozen? ⟨P, 1, none⟩ = false ∧ Turned w w' (fun b => b = P ∨ sv.ownBlock = some b) := by
  go_enter Tryf.func6, Tryf.ntmps6
  go_wp2_with fail
  refine (within_old v zs P k base sv xs w hz h1 hf hown hP hbase hk).mono ?_
  rintro e w' ⟨rfl, h⟩
  go_wp2
  go_ret
  exact ⟨rfl, h⟩

theorem path_yes (p : Value) (w : World) : Calls Tryf.prog 8 #[.iface 29 p] w fun e w' => e = .returned (.tuple #[p, .bool true]) ∧ w' = w := by
  have hta := ta_yes
  go_enter Tryf.func8, Tryf.ntmps8
  go_wp2
  go_ret2
  exact ⟨rfl, rfl⟩

theorem pathKeys (P : Nat) (sv : Value) (w : World) (h : w.cell? ⟨P, 1, none⟩ = some sv) : Calls Tryf.prog 9 #[.pointer (some ⟨P, 0, none⟩)] w fun e w' => e = .returned sv ∧ w' = w := by
  go_enter Tryf.func9, Tryf.ntmps9
  go_wp2
  go_ret
  exact ⟨rfl, rfl⟩
end Go.Proofs.Qxb6618760aFmt
