import Derived.Test.Qxb6618684aFmtBook
import Derived.Test.Qxb6618684aFmtSize
import Derived.Laws.MakeOwn
namespace Go.Proofs.Qxb6618684aFmt
open Go.RowKit Go.Extern.Stop Go.Stop Go.Extern

/-- The cells of a new licence. -/
def licCells (id st : ByteArray) : Array Value := #[.string id, .string ByteArray.empty, .string ByteArray.empty, .string ByteArray.empty, .string ByteArray.empty, .bool false, .bool false, .bool false, .string ByteArray.empty, .pointer none, .string st, .slice none 0 0, .string ByteArray.empty, .string ByteArray.empty]

/-- The list of licences, new. -/
def lsCells (n : Nat) : Array Value := madeCells (Value.pointer none).cells n

theorem run_ls (w : World) (n : Nat) (hn : n ≤ 1000000) : (Instr.makeSlice 52 (.int .i64 (n : Int)) (.int .i64 (n : Int))).run Tryf.prog w = .ok (.slice (some ⟨w.heap.size, 0, none⟩) n n) (w.alloc (.cells (lsCells n) 23)) := by
  obtain ⟨i0, hi, hz0, hz1, hz2⟩ := info_parts info23
  have h := run_make (P := Tryf.prog) w 52 23 i0 (.pointer none) Tryf.underlying52 hi hz0 .i64 .i64 (n : Int) (n : Int) (by omega) (by omega) (by rw [hz2]; omega) (by omega)
  rw [hz1] at h
  simpa [lsCells] using h

/-- What the first loop keeps, behind k rounds. -/
structure Inv (w wr : World) (S M B k n : Nat) (ss tt : List ByteArray) (lp : Nat → Nat) : Prop where
  book : Book wr S M B k ss tt lp
  below : Below w.heap.size w wr
  row : ∃ sv ps, wr.cell? ⟨S, 8, none⟩ = some sv ∧ wr.ownsRow (B + 1) 23 1 sv k ps ∧ ∀ g, sv.ownBlock = some g → ∀ j, j < k → g ≠ lp j
  f8 : wr.frozen? ⟨S, 8, none⟩ = false
  ls : ∀ j, j < n → (∃ v, wr.cell? ⟨B, j, none⟩ = some v) ∧ wr.frozen? ⟨B, j, none⟩ = false
  lps : ∀ j, j < k → B < lp j ∧ lp j < wr.heap.size
  lt : B < wr.heap.size

theorem Strs.cell {w : World} {a : Option Addr} {c : Nat} {ss : List ByteArray} (h : Strs w (.slice a ss.length c) ss) {k : Nat} (hk : k < ss.length) :
    ∃ b off, a = some ⟨b, off, none⟩ ∧ w.cell? ⟨b, off + k, none⟩ = some (.string (ss.getD k ByteArray.empty)) := by
  obtain ⟨a', c', e, hc⟩ := h
  cases e
  obtain ⟨b, off, rfl, hcell⟩ := hc (by omega)
  exact ⟨b, off, rfl, hcell k hk⟩

theorem ls_cell (w : World) (n j : Nat) (hj : j < n) : (w.alloc (.cells (lsCells n) 23)).cell? ⟨w.heap.size, j, none⟩ = some (.pointer none) := by
  rw [cell_of_row _ _ _ _ _ _ (MapKept.heap_alloc w _).1]
  simp [lsCells, madeCells, Value.cells, hj, Nat.mod_one]

theorem frozen_of_row {w : World} {b : Nat} {c : Array Value} {t : TypeId} (h : w.heap[b]? = some (.cells c t)) (o : Nat) : w.frozen? ⟨b, o, none⟩ = false := by
  simp only [World.frozen?, h]
  simp

theorem inv_start (w : World) (ss tt : List ByteArray) :
    Inv w (((w.alloc (.map #[] 0)).alloc (.cells (stateCells w.heap.size) 63)).alloc (.cells (lsCells ss.length) 23)) (w.heap.size + 1) w.heap.size (w.heap.size + 1 + 1) 0 ss.length ss tt (fun _ => 0) := by
  have e1 : (w.alloc (.map #[] 0)).heap.size = w.heap.size + 1 := by simp
  have e2 : ((w.alloc (.map #[] 0)).alloc (.cells (stateCells w.heap.size) 63)).heap.size = w.heap.size + 1 + 1 := by simp
  have s8 : (((w.alloc (.map #[] 0)).alloc (.cells (stateCells w.heap.size) 63)).alloc (.cells (lsCells ss.length) 23)).heap[w.heap.size + 1]? = some (.cells (stateCells w.heap.size) 63) := by
    rw [Below.heap_alloc _ _ _ (by rw [e2]; omega), ← e1]
    exact (MapKept.heap_alloc _ _).1
  refine ⟨⟨?_, ?_, fun j hj => by omega, fun j hj => by omega, fun j hj => by omega⟩, ?_, ?_, ?_, ?_, fun j hj => by omega, by simp⟩
  · rw [cell_of_row _ _ _ _ _ _ s8]; rfl
  · exact (MapIs.made w).stays (by rw [Below.heap_alloc _ _ _ (by rw [e2]; omega), Below.heap_alloc _ _ _ (by rw [e1]; omega)])
  · exact (((Below.refl _ w).alloc (Nat.le_refl _) _).alloc (by simp) _).alloc (by simp; omega) _
  · exact ⟨.slice none 0 0, [], by rw [cell_of_row _ _ _ _ _ _ s8]; rfl, ⟨rfl, Or.inl ⟨rfl, rfl⟩⟩, fun g e => by simp [Value.ownBlock] at e⟩
  · exact frozen_of_row s8 8
  · intro j hj
    have e3 : (((w.alloc (.map #[] 0)).alloc (.cells (stateCells w.heap.size) 63)).alloc (.cells (lsCells ss.length) 23)).heap[w.heap.size + 1 + 1]? = some (.cells (lsCells ss.length) 23) := by
      rw [← e2]
      exact (MapKept.heap_alloc _ _).1
    refine ⟨⟨.pointer none, ?_⟩, frozen_of_row e3 j⟩
    rw [← e2]
    exact ls_cell _ _ _ hj

/-- The world in which the k-th licence is recorded. -/
def W1 (wr : World) (B k : Nat) (id st : ByteArray) : World :=
  ((wr.setCell ⟨B, k, none⟩ (.pointer (some ⟨wr.heap.size, 0, none⟩))).alloc (.cells (licCells id st) 32)).drew

theorem W1_size (wr : World) (B k : Nat) (id st : ByteArray) : (W1 wr B k id st).heap.size = wr.heap.size + 1 := by
  simp [W1, World.drew, World.setCell, World.alloc]

theorem W1_turned (wr : World) (B k : Nat) (id st : ByteArray) : Turned wr (W1 wr B k id st) (fun b => b = B) :=
  ((Turned.setCell wr ⟨B, k, none⟩ (.pointer (some ⟨wr.heap.size, 0, none⟩)) (fun b => b = B) rfl).trans (Turned.of_below ((Below.refl _ _).alloc (Nat.le_refl _) (.cells (licCells id st) 32)) _)).trans (Turned.drew _ _)

theorem W1_new (wr : World) (B k : Nat) (id st : ByteArray) : (W1 wr B k id st).heap[wr.heap.size]? = some (.cells (licCells id st) 32) := by
  have e : (wr.setCell ⟨B, k, none⟩ (.pointer (some ⟨wr.heap.size, 0, none⟩))).heap.size = wr.heap.size := by simp [World.setCell]
  rw [← e]
  exact (MapKept.heap_alloc _ _).1

theorem W1_ls (wr : World) (B k j : Nat) (id st : ByteArray) (v : Value) (h : wr.cell? ⟨B, k, none⟩ = some v) (u : Value) (hj : wr.cell? ⟨B, j, none⟩ = some u) :
    (W1 wr B k id st).cell? ⟨B, j, none⟩ = some (if j = k then .pointer (some ⟨wr.heap.size, 0, none⟩) else u) := by
  have lB : B < wr.heap.size := World.block_lt_of_cell? _ _ h
  have e : (W1 wr B k id st).heap[B]? = (wr.setCell ⟨B, k, none⟩ (.pointer (some ⟨wr.heap.size, 0, none⟩))).heap[B]? := Below.heap_alloc _ _ _ (by simp [World.setCell]; omega)
  rw [World.cell?_of_block (w := wr.setCell ⟨B, k, none⟩ (.pointer (some ⟨wr.heap.size, 0, none⟩))) (a := ⟨B, j, none⟩) e]
  by_cases hjk : j = k
  · subst hjk
    go_simp
  · go_simp

theorem W1_frozen (wr : World) (B k j : Nat) (id st : ByteArray) (lB : B < wr.heap.size) : (W1 wr B k id st).frozen? ⟨B, j, none⟩ = wr.frozen? ⟨B, j, none⟩ := by
  have e : (W1 wr B k id st).heap[B]? = (wr.setCell ⟨B, k, none⟩ (.pointer (some ⟨wr.heap.size, 0, none⟩))).heap[B]? := Below.heap_alloc _ _ _ (by simp [World.setCell]; omega)
  rw [World.frozen?_of_block (w := wr.setCell ⟨B, k, none⟩ (.pointer (some ⟨wr.heap.size, 0, none⟩))) (a := ⟨B, j, none⟩) e]
  go_simp

theorem inv_record {w wr : World} {S M B k n : Nat} {ss tt : List ByteArray} {lp : Nat → Nat} (h : Inv w wr S M B k n ss tt lp) (hk : k < n) (hn : n ≤ 100000) (hM : w.heap.size ≤ M) (hMS : M < S) (hSB : S < B)
    (id st : ByteArray) (hid : id = ss.getD k ByteArray.empty) (hst : st = tt.getD k ByteArray.empty) (hsz : id.size ≤ maxLen) :
    Calls Tryf.prog 7 #[.pointer (some ⟨S, 0, none⟩), .pointer (some ⟨wr.heap.size, 0, none⟩)] (W1 wr B k id st) fun e w' => e = .returned (.tuple #[]) ∧ ∃ lp', Inv w w' S M B (k + 1) n ss tt lp' := by
  obtain ⟨sv, ps, h8, hrow, hsep⟩ := h.row
  obtain ⟨⟨vB, hvB⟩, hfB⟩ := h.ls k hk
  have lB := h.lt
  have hT := W1_turned wr B k id st
  have hz := W1_size wr B k id st
  have old : ∀ b, b < wr.heap.size → b ≠ B → (W1 wr B k id st).heap[b]? = wr.heap[b]? := fun b hb hne => hT.block b hb hne
  have hg : ∀ g, sv.ownBlock = some g → B < g ∧ g < wr.heap.size := by
    intro g e
    rcases hrow.2 with ⟨e1, _⟩ | ⟨g', cap, cur, e1, hb, hh, _⟩
    · rw [e1] at e; cases e
    · rw [e1] at e
      cases e
      exact ⟨hb, (Array.getElem?_eq_some_iff.1 hh).1⟩
  have hnew := W1_new wr B k id st
  refine (record S M wr.heap.size k (B + 1) sv id ps (ptrTo ss lp k) (W1 wr B k id st)
    ((World.cell?_of_block (a := ⟨S, 8, none⟩) (old S (by omega) (by omega))).trans h8)
    ((World.frozen?_of_block (a := ⟨S, 8, none⟩) (old S (by omega) (by omega))).trans h.f8)
    ((World.cell?_of_block (a := ⟨S, 9, none⟩) (old S (by omega) (by omega))).trans h.book.c9)
    (by rw [cell_of_row _ _ _ _ _ _ hnew]; rfl) hsz (by omega)
    (ownsRow_stays hrow fun g e => old g (hg g e).2 (by have := (hg g e).1; omega))
    (h.book.map.stays (old M (by omega) (by omega))) (by omega) (by omega) (by omega)
    (fun g e => by have := hg g e; omega) (by omega) (by omega)).mono ?_
  rintro e w' ⟨rfl, hmap, ⟨g', cap, hc8, hrow', hat⟩, hf8, hc9, hTu⟩
  have hz' := hTu.size
  have far : ∀ b, b < wr.heap.size + 1 → b ≠ S → b ≠ M → sv.ownBlock ≠ some b → w'.heap[b]? = (W1 wr B k id st).heap[b]? := fun b hb h1 h2 h3 =>
    hTu.block b (by omega) (fun h => h.elim h1 fun h => h.elim h2 h3)
  have hgne : ∀ b, (b ≤ B ∨ wr.heap.size ≤ b) → sv.ownBlock ≠ some b := fun b hb e => by have := hg b e; omega
  have lic : ∀ j, j < k → w'.heap[lp j]? = wr.heap[lp j]? := fun j hj => by
    have := h.lps j hj
    rw [far (lp j) (by omega) (by omega) (by omega) (fun e => hsep _ e j hj rfl), old (lp j) (by omega) (by omega)]
  have licN : w'.heap[wr.heap.size]? = some (.cells (licCells id st) 32) := by
    rw [far _ (by omega) (by omega) (by omega) (hgne _ (by omega))]
    exact hnew
  have eB : w'.heap[B]? = (W1 wr B k id st).heap[B]? := far B (by omega) (by omega) (by omega) (hgne _ (by omega))
  refine ⟨rfl, fun j => if j = k then wr.heap.size else lp j, ⟨hc9, ?_, ?_, ?_, ?_⟩, ?_, ⟨_, _, hc8, hrow', ?_⟩, hf8, ?_, ?_, by omega⟩
  · have e : ptrTo ss (fun j => if j = k then wr.heap.size else lp j) (k + 1) = fun kl => if kl = id.data.toList then .pointer (some ⟨wr.heap.size, 0, none⟩) else ptrTo ss lp k kl := by
      funext kl
      rw [ptrTo, ← hid, ptrTo_congr ss (fun j => if j = k then wr.heap.size else lp j) lp k (fun j hj => if_neg (by omega))]
      simp
    rw [e]
    exact hmap
  · intro j hj
    by_cases e : j = k
    · subst e
      simp only [if_true]
      rw [cell_of_row _ _ _ _ _ _ licN, ← hid]; rfl
    · simp only [if_neg e]
      rw [World.cell?_of_block (w := wr) (a := ⟨lp j, 0, none⟩) (lic j (by omega))]
      exact h.book.cid j (by omega)
  · intro j hj
    by_cases e : j = k
    · subst e
      simp only [if_true]
      rw [cell_of_row _ _ _ _ _ _ licN, ← hst]; rfl
    · simp only [if_neg e]
      rw [World.cell?_of_block (w := wr) (a := ⟨lp j, 10, none⟩) (lic j (by omega))]
      exact h.book.cst j (by omega)
  · intro j hj
    rw [World.cell?_of_block (w := W1 wr B k id st) (a := ⟨B, j, none⟩) eB]
    by_cases e : j = k
    · subst e
      rw [W1_ls wr B j j id st vB hvB vB hvB]
      simp
    · rw [W1_ls wr B k j id st vB hvB _ (h.book.cls j (by omega))]
      simp [e]
  · refine ⟨hTu.os.trans (hT.os.trans h.below.os), hTu.tape.trans (hT.tape.trans h.below.tape), hTu.output.trans (hT.output.trans h.below.output), by have := h.below.size; omega, fun b hb => ?_⟩
    have := h.below.size
    rw [far b (by omega) (by omega) (by omega) (hgne _ (by omega)), old b (by omega) (by omega)]
    exact h.below.block b hb
  · intro g e j hj
    cases e
    by_cases e : j = k
    · subst e
      simp only [if_true]
      rcases hat with hat | hat
      · have := hg _ hat; omega
      · omega
    · simp only [if_neg e]
      have := h.lps j (by omega)
      rcases hat with hat | hat
      · exact hsep _ hat j (by omega)
      · omega
  · intro j hj
    obtain ⟨⟨u, hu⟩, hf⟩ := h.ls j hj
    refine ⟨⟨_, (World.cell?_of_block (w := W1 wr B k id st) (a := ⟨B, j, none⟩) eB).trans (W1_ls wr B k j id st vB hvB u hu)⟩, ?_⟩
    rw [World.frozen?_of_block (w := W1 wr B k id st) (a := ⟨B, j, none⟩) eB, W1_frozen wr B k j id st lB]
    exact hf
  · intro j hj
    by_cases e : j = k
    · subst e; simp only [if_true]; omega
    · simp only [if_neg e]
      have := h.lps j (by omega)
      omega

end Go.Proofs.Qxb6618684aFmt
