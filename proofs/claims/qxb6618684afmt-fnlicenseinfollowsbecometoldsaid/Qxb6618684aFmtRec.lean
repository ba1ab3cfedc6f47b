import Derived.Test.Qxb6618684aFmtMap
import Derived.Deep.RegionHeld3
import Derived.Deep.AppendLies
import Derived.WalkSpells
namespace Go.Proofs.Qxb6618684aFmt
open Go.RowKit Go.Maps

def stateCells (M : Nat) : Array Value := #[.string ByteArray.empty, .slice none 0 0, .map none, .map none, .map none, .slice none 0 0, .map none, .map none, .slice none 0 0, .map (some M), .slice none 0 0, .int .i64 0, .int .i64 0, .int .i64 0]

set_option maxHeartbeats 400000 in
theorem newState (w : World) : Calls Tryf.prog 6 #[] w fun e w' => e = .returned (.pointer (some ⟨w.heap.size + 1, 0, none⟩)) ∧ w' = (w.alloc (.map #[] 0)).alloc (.cells (stateCells w.heap.size) 63) := by
  have hmm := @run_makeMap Tryf.prog
  go_enter Tryf.func6, Tryf.ntmps6
  go_wp2
  go_ret
  exact ⟨rfl, rfl⟩

/-- w' is w but for the blocks of which 'may' speaks, and new ones. -/
structure Turned (w w' : World) (may : Nat → Prop) : Prop where
  os : w'.os = w.os
  tape : w'.tape = w.tape
  output : w'.output = w.output
  size : w.heap.size ≤ w'.heap.size
  block : ∀ b, b < w.heap.size → ¬ may b → w'.heap[b]? = w.heap[b]?

theorem info23 : (Tryf.prog.info? 23).map (fun i => (i.zero, i.size, i.bytes)) = some (some (.pointer none), 1, 8) := by kernel_rfl

theorem Turned.of_below {w w' : World} (h : Below w.heap.size w w') (may : Nat → Prop) : Turned w w' may := ⟨h.os, h.tape, h.output, h.size, fun b hb _ => h.block b hb⟩
theorem Turned.of_grown {w w' : World} {row : Option Nat} (h : w.grownBy w' row) (may : Nat → Prop) (hm : ∀ b, row = some b → may b) : Turned w w' may :=
  ⟨h.os, h.tape, h.output, h.size, fun b hb hn => h.block b hb (fun e => hn (hm b e.symm))⟩
theorem Turned.trans {a b c : World} {may : Nat → Prop} (h : Turned a b may) (k : Turned b c may) : Turned a c may :=
  ⟨k.os.trans h.os, k.tape.trans h.tape, k.output.trans h.output, Nat.le_trans h.size k.size, fun i hi hn => (k.block i (Nat.lt_of_lt_of_le hi h.size) hn).trans (h.block i hi hn)⟩
theorem Turned.setCell (w : World) (a : Addr) (v : Value) (may : Nat → Prop) (hm : may a.block) : Turned w (w.setCell a v) may :=
  ⟨rfl, rfl, rfl, by simp [World.setCell], fun b _ hn => Below.heap_setCell _ _ _ _ (fun e => hn (e ▸ hm))⟩
theorem Turned.drew (w : World) (may : Nat → Prop) : Turned w w.drew may := ⟨rfl, rfl, rfl, Nat.le_refl _, fun _ _ _ => rfl⟩

theorem ownsRow_stays {w w' : World} {base : Nat} {e : TypeId} {size : Nat} {v : Value} {n : Nat} {xs : List Value} (h : w.ownsRow base e size v n xs) (hb : ∀ g, v.ownBlock = some g → w'.heap[g]? = w.heap[g]?) : w'.ownsRow base e size v n xs := by
  obtain ⟨h1, h2⟩ := h
  refine ⟨h1, ?_⟩
  rcases h2 with h2 | ⟨g, cap, cur, hv, hg, hh, r⟩
  · exact Or.inl h2
  · exact Or.inr ⟨g, cap, cur, hv, hg, (hb g (by rw [hv]; rfl)).trans hh, r⟩

set_option maxRecDepth 100000 in
set_option maxHeartbeats 1000000 in
theorem record (S M Lc k base : Nat) (sv : Value) (id : ByteArray) (ps : List Value) (f : List UInt8 → Value) (w : World)
    (h8 : w.cell? ⟨S, 8, none⟩ = some sv) (hf8 : w.frozen? ⟨S, 8, none⟩ = false) (h9 : w.cell? ⟨S, 9, none⟩ = some (.map (some M))) (hL : w.cell? ⟨Lc, 0, none⟩ = some (.string id))
    (hid : id.size ≤ maxLen) (hk : k ≤ 1000000) (hown : w.ownsRow base 23 1 sv k ps) (hmap : MapIs w M k f) (hbase : base ≤ w.heap.size)
    (hSM : S ≠ M) (_hLS : Lc ≠ S) (hg : ∀ g, sv.ownBlock = some g → g ≠ S ∧ g ≠ M ∧ g ≠ Lc) (hSb : S < base) (hMb : M < base) :
    Calls Tryf.prog 7 #[.pointer (some ⟨S, 0, none⟩), .pointer (some ⟨Lc, 0, none⟩)] w fun e w' => e = .returned (.tuple #[]) ∧
      MapIs w' M (k + 1) (fun kl => if kl = id.data.toList then .pointer (some ⟨Lc, 0, none⟩) else f kl) ∧
      (∃ g cap, w'.cell? ⟨S, 8, none⟩ = some (.slice (some ⟨g, 0, none⟩) (k + 1) cap) ∧
        w'.ownsRow base 23 1 (.slice (some ⟨g, 0, none⟩) (k + 1) cap) (k + 1) (ps ++ [.pointer (some ⟨Lc, 0, none⟩)]) ∧ (sv.ownBlock = some g ∨ g = w.heap.size + 1)) ∧
      w'.frozen? ⟨S, 8, none⟩ = false ∧ w'.cell? ⟨S, 9, none⟩ = some (.map (some M)) ∧
      Turned w w' (fun b => b = S ∨ b = M ∨ sv.ownBlock = some b) := by
  obtain ⟨i0, hi, hz0, hz1, hz2⟩ := info_parts info23
  have lS : S < w.heap.size := World.block_lt_of_cell? _ _ h8
  have lL : Lc < w.heap.size := World.block_lt_of_cell? _ _ hL
  have lM : M < w.heap.size := hmap.lt
  have nS : some S ≠ sv.ownBlock := fun e => (hg S e.symm).1 rfl
  have nM : some M ≠ sv.ownBlock := fun e => (hg M e.symm).2.1 rfl
  have nL : some Lc ≠ sv.ownBlock := fun e => (hg Lc e.symm).2.2 rfl
  go_enter Tryf.func7, Tryf.ntmps7
  go_wp2_with (first
    | (at_builtin; refine wpList_append_lies _ (by rfl) _ _ _ (by rfl) base 23 i0 (.pointer none) 1 8 Tryf.underlying52 hi hz0 hz1 hz2 rfl (by omega) sv k ps (by rfl) (hown.alloc _) ⟨w.heap.size, 0, none⟩ 1 1 [.pointer (some ⟨Lc, 0, none⟩)] (by rfl) rfl (cell_one_new _ _ _) (by simp [Value.oneCell']) (by omega) (by unfold maxLen; omega) (by omega) (by simp; omega) (w.heap.size + 1) (by simp) ?_; intro g cap w1 hown1 hgrow hat hlt
       have q8 := (hgrow.cell_far ⟨S, 8, none⟩ (by simp; omega) nS).trans (cell_later ((Below.refl _ w).alloc (Nat.le_refl _) _) h8)
       have q9 := (hgrow.cell_far ⟨S, 9, none⟩ (by simp; omega) nS).trans (cell_later ((Below.refl _ w).alloc (Nat.le_refl _) _) h9)
       have qL := (hgrow.cell_far ⟨Lc, 0, none⟩ (by simp; omega) nL).trans (cell_later ((Below.refl _ w).alloc (Nat.le_refl _) _) hL)
       have qf := (hgrow.frozen_far ⟨S, 8, none⟩ (by simp; omega) nS).trans ((((Below.refl _ w).alloc (Nat.le_refl _) _).frozen (p := ⟨S, 8, none⟩) (by exact lS)).trans hf8)
       have hm1 : MapIs w1 M k f := hmap.stays ((hgrow.block M (by simp; omega) nM).trans (Below.heap_alloc _ _ _ lM)))
    | go_in)
  have lt1 : w.heap.size + 1 ≤ w1.heap.size := by have := hgrow.size; simpa using this
  obtain ⟨w2, hrun, hm2, hg2⟩ := MapIs.update (w := (w1.setCell ⟨S, 8, none⟩ (.slice (some ⟨g, 0, none⟩) (k + 1) cap)).drew) (M := M) (n := k) (f := f) (hm1.stays (Below.heap_setCell _ _ _ _ (fun e => hSM e.symm))) (by unfold maxLen; omega) hid (.pointer (some ⟨Lc, 0, none⟩))
  go_region
  go_end0
  have gb : base ≤ g ∧ g < w1.heap.size := by
    obtain ⟨g', cap', e, h1, h2⟩ := hown1.form (by omega)
    cases e
    exact ⟨h1, h2⟩
  have hX : Turned w1 w2 (fun b => b = S ∨ b = M ∨ sv.ownBlock = some b) :=
    ((Turned.setCell w1 ⟨S, 8, none⟩ (.slice (some ⟨g, 0, none⟩) (k + 1) cap) _ (Or.inl rfl)).trans (Turned.drew _ _)).trans (Turned.of_grown hg2 _ (fun b e => Or.inr (Or.inl (by cases e; rfl))))
  have lS1 : S < w1.heap.size := by omega
  have eS : w2.heap[S]? = (w1.setCell ⟨S, 8, none⟩ (.slice (some ⟨g, 0, none⟩) (k + 1) cap)).heap[S]? := hg2.block S (by simp [World.drew, World.setCell]; omega) (by simp; omega)
  refine ⟨rfl, hm2, ⟨g, cap, ?_, ?_, hat⟩, ?_, ?_, ?_⟩
  · rw [World.cell?_of_block (w := w1.setCell ⟨S, 8, none⟩ (.slice (some ⟨g, 0, none⟩) (k + 1) cap)) (a := ⟨S, 8, none⟩) eS]
    go_simp
  · refine ownsRow_stays hown1 fun g' e => ?_
    cases e
    rw [hg2.block g (by simp [World.drew, World.setCell]; omega) (by simp; omega)]
    exact Below.heap_setCell _ _ _ _ (by show g ≠ S; omega)
  · rw [World.frozen?_of_block (w := w1.setCell ⟨S, 8, none⟩ (.slice (some ⟨g, 0, none⟩) (k + 1) cap)) (a := ⟨S, 8, none⟩) eS]
    go_simp
  · rw [World.cell?_of_block (w := w1.setCell ⟨S, 8, none⟩ (.slice (some ⟨g, 0, none⟩) (k + 1) cap)) (a := ⟨S, 9, none⟩) eS]
    go_simp
  · exact ((Turned.of_below ((Below.refl _ w).alloc (Nat.le_refl _) _) _).trans (Turned.of_grown hgrow _ (fun b e => Or.inr (Or.inr e)))).trans hX
end Go.Proofs.Qxb6618684aFmt
