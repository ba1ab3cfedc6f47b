import Derived.Test.Qxb6618760aFmtSize
import Derived.Deep.DeepCutAuto
import Derived.Laws.MakeOwn
import Derived.Laws.CopyOwn
import Derived.LaidEqlPtr
namespace Go.Proofs.Qxb6618760aFmt
open Go.RowKit

theorem info5 : (Tryf.prog.info? 5).map (fun i => (i.zero, i.size, i.bytes)) = some (some (.int .u8 0), 1, 1) := by kernel_rfl
theorem size5 : (Tryf.prog.info? 5).map (·.size) = some 1 := by kernel_rfl
theorem info22 : (Tryf.prog.info? 22).map (fun i => (i.zero, i.size, i.bytes)) = some (some (.slice none 0 0), 1, 24) := by kernel_rfl

/-- A new row of n bytes. -/
def zeros (n : Nat) : Array Value := madeCells (Value.int .u8 0).cells n
/-- A new row of n nil slices. -/
def nils (n : Nat) : Array Value := madeCells (Value.slice none 0 0).cells n

theorem run_mk5 (w : World) (n : Nat) (hn : n ≤ 10000000) : (Instr.makeSlice 22 (.int .i64 (n : Int)) (.int .i64 (n : Int))).run Tryf.prog w = .ok (.slice (some ⟨w.heap.size, 0, none⟩) n n) (w.alloc (.cells (zeros n) 5)) := by
  obtain ⟨i0, hi, hz0, hz1, hz2⟩ := info_parts info5
  have h := run_make (P := Tryf.prog) w 22 5 i0 (.int .u8 0) Tryf.underlying22 hi hz0 .i64 .i64 (n : Int) (n : Int) (by omega) (by omega) (by rw [hz2]; omega) (by omega)
  rw [hz1] at h
  simpa [zeros] using h

theorem run_mk22 (w : World) (n : Nat) (hn : n ≤ 10000000) : (Instr.makeSlice 23 (.int .i64 (n : Int)) (.int .i64 (n : Int))).run Tryf.prog w = .ok (.slice (some ⟨w.heap.size, 0, none⟩) n n) (w.alloc (.cells (nils n) 22)) := by
  obtain ⟨i0, hi, hz0, hz1, hz2⟩ := info_parts info22
  have h := run_make (P := Tryf.prog) w 23 22 i0 (.slice none 0 0) Tryf.underlying23 hi hz0 .i64 .i64 (n : Int) (n : Int) (by omega) (by omega) (by rw [hz2]; omega) (by omega)
  rw [hz1] at h
  simpa [nils] using h

theorem zeros_size (n : Nat) : (zeros n).size = n := size_madeCells _ _

/-- A block of bytes, read as a slice. -/
theorem Bytes.of_row {w : World} {g : Nat} {zs : List Int} {t : TypeId} {cap : Nat} (h : w.heap[g]? = some (.cells (zs.map (Value.int .u8)).toArray t (0, 0))) : Bytes w (.slice (some ⟨g, 0, none⟩) zs.length cap) zs := by
  refine ⟨some ⟨g, 0, none⟩, cap, rfl, fun e => (by cases e), fun _ => ⟨g, 0, rfl, fun j hj => ?_⟩⟩
  rw [Nat.zero_add, cell_of_row _ _ _ _ _ _ h]
  simp [List.getD, List.getElem?_eq_getElem hj]

theorem wrap64_in {x : Int} (h0 : 0 ≤ x) (h1 : x ≤ 9000000000000000000) : wrap64 x = x := by
  unfold wrap64
  omega

theorem frozen_of_row {w : World} {b : Nat} {c : Array Value} {t : TypeId} (h : w.heap[b]? = some (.cells c t)) (o : Nat) : w.frozen? ⟨b, o, none⟩ = false := by
  simp only [World.frozen?, h]
  simp

theorem inf37 : ∃ j, Tryf.prog.info? 37 = some j := Option.isSome_iff_exists.1 (by kernel_rfl)

theorem same29n (w : World) (a : Addr) : (binOp .neq 29 (.pointer (some a)) (.pointer (some a))).run Tryf.prog w = .ok (.bool false) w := by
  obtain ⟨j, hj⟩ := inf37
  have h : ∀ d : Nat, (Op.equalIn (d + 1) 29 (.pointer (some a)) (.pointer (some a))).run Tryf.prog w = .ok true w := fun d => by
    simp [Op.equalIn, run_underlying Tryf.underlying29, sizeOf, typeInfo, hj, run_sameAddr_same]
  simp only [binOp]
  simp [Op.equal, Op.maxDepth, h 9999]

/-- Block c holds room for zs, and its first k bytes. -/
def Part (w : World) (c k : Nat) (zs : List Int) : Prop :=
  (∀ j, j < k → w.cell? ⟨c, j, none⟩ = some (.int .u8 (zs.getD j 0))) ∧ ∀ j, j < zs.length → (∃ v, w.cell? ⟨c, j, none⟩ = some v) ∧ w.frozen? ⟨c, j, none⟩ = false

theorem Part.start (w : World) (zs : List Int) : Part (w.alloc (.cells (zeros zs.length) 5)) w.heap.size 0 zs := by
  refine ⟨fun j hj => by omega, fun j hj => ?_⟩
  have h := (MapKept.heap_alloc w (.cells (zeros zs.length) 5)).1
  refine ⟨⟨(zeros zs.length)[j]'(by rw [zeros_size]; exact hj), ?_⟩, frozen_of_row h j⟩
  rw [cell_of_row _ _ _ _ _ _ h]
  simp [zeros_size, hj]

theorem Part.step {w : World} {c k : Nat} {zs : List Int} (h : Part w c k zs) (hk : k < zs.length) : Part (w.setCell ⟨c, k, none⟩ (.int .u8 (zs.getD k 0))) c (k + 1) zs := by
  obtain ⟨⟨v, hv⟩, hf⟩ := h.2 k hk
  refine ⟨fun j hj => ?_, fun j hj => ?_⟩
  · by_cases e : j = k
    · subst e
      exact World.cell?_setCell_same _ _ _ hv
    · have := h.1 j (by omega)
      rw [World.cell?_setCell_other _ _ _ _ (fun h => e (congrArg Addr.off h).symm)]
      exact this
  · obtain ⟨⟨u, hu⟩, hfu⟩ := h.2 j hj
    refine ⟨?_, by rw [World.frozen?_setCell]; exact hfu⟩
    by_cases e : j = k
    · subst e
      exact ⟨_, World.cell?_setCell_same _ _ _ hv⟩
    · exact ⟨u, by rw [World.cell?_setCell_other _ _ _ _ (fun h => e (congrArg Addr.off h).symm)]; exact hu⟩

/-- v is nil (and zs empty), or the whole of a block c beyond B that holds zs. -/
def Own (w : World) (B : Nat) (v : Value) (zs : List Int) : Prop :=
  (v = .slice none 0 0 ∧ zs = []) ∨ ∃ c, B < c ∧ c < w.heap.size ∧ v = .slice (some ⟨c, 0, none⟩) zs.length zs.length ∧ ∀ j, j < zs.length → w.cell? ⟨c, j, none⟩ = some (.int .u8 (zs.getD j 0)) ∧ w.frozen? ⟨c, j, none⟩ = false

theorem Own.stays {w w' : World} {B : Nat} {v : Value} {zs : List Int} (h : Own w B v zs) (hs : w.heap.size ≤ w'.heap.size) (hb : ∀ b, B < b → b < w.heap.size → w'.heap[b]? = w.heap[b]?) : Own w' B v zs := by
  rcases h with h | ⟨c, h1, h2, h3, h4⟩
  · exact Or.inl h
  · refine Or.inr ⟨c, h1, by omega, h3, fun j hj => ?_⟩
    have := h4 j hj
    rw [World.cell?_of_block (w := w) (a := ⟨c, j, none⟩) (hb c h1 h2), World.frozen?_of_block (w := w) (a := ⟨c, j, none⟩) (hb c h1 h2)]
    exact this

theorem Own.bytes {w : World} {B : Nat} {v : Value} {zs : List Int} (h : Own w B v zs) : Bytes w v zs := by
  rcases h with ⟨rfl, rfl⟩ | ⟨c, _, _, rfl, h4⟩
  · exact ⟨none, 0, rfl, fun _ => ⟨rfl, rfl⟩, fun h => by simp at h⟩
  · exact ⟨some ⟨c, 0, none⟩, zs.length, rfl, fun e => (by cases e), fun _ => ⟨c, 0, rfl, fun j hj => by rw [Nat.zero_add]; exact (h4 j hj).1⟩⟩

/-- Behind i rounds of the copying loop: the list of copies lies in block B; its first i elements are copies of the keys. -/
structure Inv2 (wc wr : World) (B i n : Nat) (cp : Nat → Value) (kk : Nat → List Int) : Prop where
  below : Below B wc wr
  lt : B < wr.heap.size
  cell : ∀ j, j < n → wr.cell? ⟨B, j, none⟩ = some (cp j) ∧ wr.frozen? ⟨B, j, none⟩ = false
  key : ∀ j, j < i → Own wr B (cp j) (kk j)
  rest : ∀ j, i ≤ j → j < n → cp j = .slice none 0 0

theorem inv2_start (wc : World) (n : Nat) (kk : Nat → List Int) : Inv2 wc (wc.alloc (.cells (nils n) 22)) wc.heap.size 0 n (fun _ => .slice none 0 0) kk := by
  have h := (MapKept.heap_alloc wc (.cells (nils n) 22)).1
  refine ⟨(Below.refl _ _).alloc (Nat.le_refl _) _, by simp, fun j hj => ⟨?_, frozen_of_row h j⟩, fun j hj => by omega, fun _ _ _ => rfl⟩
  rw [cell_of_row _ _ _ _ _ _ h]
  simp [nils, madeCells, Value.cells, hj, Nat.mod_one]

/-- A key that is nil is left nil. -/
theorem Inv2.skip {wc wr : World} {B i n : Nat} {cp : Nat → Value} {kk : Nat → List Int} (h : Inv2 wc wr B i n cp kk) (hi : i < n) (hz : kk i = []) : Inv2 wc wr B (i + 1) n cp kk := by
  refine ⟨h.below, h.lt, h.cell, fun j hj => ?_, fun j h1 h2 => h.rest j (by omega) h2⟩
  by_cases e : j = i
  · subst e
    exact Or.inl ⟨h.rest j (by omega) hi, hz⟩
  · exact h.key j (by omega)

/-- A key that is not nil is copied into the block that was new, and the copy is stored. -/
theorem Inv2.store {wc wr wx : World} {B i n : Nat} {cp : Nat → Value} {kk : Nat → List Int} (h : Inv2 wc wr B i n cp kk) (hi : i < n) (hbx : Below wr.heap.size wr wx) (hlt : wr.heap.size < wx.heap.size) (hp : Part wx wr.heap.size (kk i).length (kk i)) :
    ∃ cp', Inv2 wc (wx.setCell ⟨B, i, none⟩ (.slice (some ⟨wr.heap.size, 0, none⟩) (kk i).length (kk i).length)) B (i + 1) n cp' kk := by
  have lB := h.lt
  have old : ∀ b, b < wr.heap.size → b ≠ B → (wx.setCell ⟨B, i, none⟩ (.slice (some ⟨wr.heap.size, 0, none⟩) (kk i).length (kk i).length)).heap[b]? = wr.heap[b]? := fun b hb hne => by
    rw [Below.heap_setCell _ _ _ _ hne]; exact hbx.block b hb
  have hsz : (wx.setCell ⟨B, i, none⟩ (.slice (some ⟨wr.heap.size, 0, none⟩) (kk i).length (kk i).length)).heap.size = wx.heap.size := by simp [World.setCell]
  have cB : ∀ j, j < n → wx.cell? ⟨B, j, none⟩ = some (cp j) := fun j hj => (hbx.cell (p := ⟨B, j, none⟩) lB).trans (h.cell j hj).1
  have fB : ∀ j, j < n → wx.frozen? ⟨B, j, none⟩ = false := fun j hj => (hbx.frozen (p := ⟨B, j, none⟩) lB).trans (h.cell j hj).2
  refine ⟨fun j => if j = i then .slice (some ⟨wr.heap.size, 0, none⟩) (kk i).length (kk i).length else cp j, ?_, ?_, ?_, ?_, ?_⟩
  · exact (h.below.trans (hbx.mono (by omega))).setCell (by simp) _
  · rw [hsz]; have := hbx.size; omega
  · intro j hj
    refine ⟨?_, by rw [World.frozen?_setCell]; exact fB j hj⟩
    by_cases e : j = i
    · subst e
      simp only [if_true]
      exact World.cell?_setCell_same _ _ _ (cB j hj)
    · simp only [if_neg e]
      rw [World.cell?_setCell_other _ _ _ _ (fun h => e (congrArg Addr.off h).symm)]
      exact cB j hj
  · intro j hj
    by_cases e : j = i
    · subst e
      simp only [if_true]
      refine Or.inr ⟨wr.heap.size, lB, by rw [hsz]; omega, rfl, fun t ht => ?_⟩
      rw [World.cell?_setCell_other _ _ _ _ (fun h => by have h1 : B = wr.heap.size := congrArg Addr.block h; omega), World.frozen?_setCell]
      exact ⟨hp.1 t ht, (hp.2 t ht).2⟩
    · simp only [if_neg e]
      exact (h.key j (by omega)).stays (by rw [hsz]; exact hbx.size) (fun b h1 h2 => old b h2 (by omega))
  · intro j h1 h2
    simp only [if_neg (show ¬ j = i by omega)]
    exact h.rest j (by omega) h2

/-- The path error in block P, behind i calls of within: a row of the first i keys' texts, beyond P; nothing below P has turned since w0. -/
structure Path (w0 wr : World) (P i : Nat) (kk : Nat → List Int) : Prop where
  below : Below P w0 wr
  lt : P + 1 ≤ wr.heap.size
  fro : wr.frozen? ⟨P, 1, none⟩ = false
  row : ∃ g cap, wr.cell? ⟨P, 1, none⟩ = some (.slice (some ⟨g, 0, none⟩) i cap) ∧ wr.ownsRow (P + 1) 9 1 (.slice (some ⟨g, 0, none⟩) i cap) i ((List.range i).map fun j => .string (strOf (kk j)))

theorem Path.grow {w0 wr : World} {P i : Nat} {kk : Nat → List Int} (h : Path w0 wr P i kk) (hi : i ≤ 100000) (v : Value) (hz : Bytes wr v (kk i)) :
    Calls Tryf.prog 6 #[v, .iface 29 (.pointer (some ⟨P, 0, none⟩))] wr fun e w' => e = .returned (.iface 29 (.pointer (some ⟨P, 0, none⟩))) ∧ Path w0 w' P (i + 1) kk := by
  obtain ⟨g, cap, hc, hown⟩ := h.row
  have hlt := h.lt
  refine (zwithin_old v (kk i) P i (P + 1) _ _ wr hz hc h.fro hown (by omega) hlt hi).mono ?_
  rintro e w' ⟨rfl, ⟨g', cap', hc', hown'⟩, hf', hT⟩
  have hgb : P + 1 ≤ g := by
    rcases hown.2 with ⟨e1, _⟩ | ⟨g2, c2, cur, e1, hb, _⟩
    · cases e1
    · cases e1; exact hb
  refine ⟨rfl, h.below.trans (hT.below P ?_ (by omega)), by have := hT.size; omega, hf', g', cap', hc', ?_⟩
  · rintro x (e | e)
    · omega
    · have : g = x := by simpa [Value.ownBlock] using e
      omega
  · rw [List.range_succ, List.map_append]
    exact hown'

/-- .. the i-th text, out of memory. -/
theorem Path.text {w0 wr : World} {P n : Nat} {kk : Nat → List Int} (h : Path w0 wr P n kk) : ∃ g cap, P < g ∧ wr.cell? ⟨P, 1, none⟩ = some (.slice (some ⟨g, 0, none⟩) n cap) ∧ ∀ j, j < n → wr.cell? ⟨g, j, none⟩ = some (.string (strOf (kk j))) := by
  obtain ⟨g, cap, hc, hown⟩ := h.row
  rcases hown.2 with ⟨e1, _⟩ | ⟨g2, c2, cur, e1, hb, hh, _, _, _, htk⟩
  · cases e1
  · cases e1
    refine ⟨g, cap, by omega, hc, fun j hj => ?_⟩
    rw [cell_of_row _ _ _ _ _ _ hh, ← Array.getElem?_toList]
    have h1 : (List.map (fun j => Value.string (strOf (kk j))) (List.range n))[j]? = some (.string (strOf (kk j))) := by
      rw [List.getElem?_map, List.getElem?_range hj]; rfl
    rw [← htk, List.getElem?_take_of_lt (by omega)] at h1
    exact h1

/-- A copy whose bytes may have turned: nil, or the whole of a block between B and P. -/
def Room (w : World) (B P : Nat) (v : Value) (len : Nat) : Prop :=
  (v = .slice none 0 0 ∧ len = 0) ∨ ∃ c, B < c ∧ c < P ∧ v = .slice (some ⟨c, 0, none⟩) len len ∧ ∀ j, j < len → (∃ x, w.cell? ⟨c, j, none⟩ = some (.int .u8 x)) ∧ w.frozen? ⟨c, j, none⟩ = false

theorem Own.room {w w' : World} {B P : Nat} {v : Value} {zs : List Int} (h : Own w B v zs) (hP : w.heap.size ≤ P) (hb : Below w.heap.size w w') : Room w' B P v zs.length := by
  rcases h with ⟨rfl, rfl⟩ | ⟨c, h1, h2, h3, h4⟩
  · exact Or.inl ⟨rfl, rfl⟩
  · refine Or.inr ⟨c, h1, by omega, h3, fun j hj => ?_⟩
    rw [hb.cell (p := ⟨c, j, none⟩) h2, hb.frozen (p := ⟨c, j, none⟩) h2]
    exact ⟨⟨_, (h4 j hj).1⟩, (h4 j hj).2⟩

/-- A byte stored into such a block leaves every copy such a one. -/
theorem Room.set {w : World} {B P : Nat} {v : Value} {len : Nat} (h : Room w B P v len) (c t : Nat) (x : Int) : Room (w.setCell ⟨c, t, none⟩ (.int .u8 x)) B P v len := by
  rcases h with h | ⟨c', h1, h2, h3, h4⟩
  · exact Or.inl h
  · refine Or.inr ⟨c', h1, h2, h3, fun j hj => ?_⟩
    obtain ⟨⟨y, hy⟩, hf⟩ := h4 j hj
    refine ⟨?_, by rw [World.frozen?_setCell]; exact hf⟩
    by_cases e : (⟨c, t, none⟩ : Addr) = ⟨c', j, none⟩
    · rw [e]
      exact ⟨x, World.cell?_setCell_same _ _ _ hy⟩
    · exact ⟨y, by rw [World.cell?_setCell_other _ _ _ _ e]; exact hy⟩

theorem Room.drew {w : World} {B P : Nat} {v : Value} {len : Nat} (h : Room w B P v len) : Room w.drew B P v len := h

theorem Room.form {w : World} {B P : Nat} {v : Value} {len : Nat} (h : Room w B P v len) : ∃ a, v = .slice a len len ∧ (0 < len → ∃ c, B < c ∧ c < P ∧ a = some ⟨c, 0, none⟩) := by
  rcases h with ⟨rfl, rfl⟩ | ⟨c, h1, h2, rfl, _⟩
  · exact ⟨none, rfl, fun h => by omega⟩
  · exact ⟨_, rfl, fun _ => ⟨c, h1, h2, rfl⟩⟩

theorem Room.at {w : World} {B P c : Nat} {len : Nat} (h : Room w B P (.slice (some ⟨c, 0, none⟩) len len) len) {t : Nat} (ht : t < len) : ∃ x, w.cell? ⟨c, t, none⟩ = some (.int .u8 x) ∧ w.frozen? ⟨c, t, none⟩ = false := by
  rcases h with ⟨h, _⟩ | ⟨c', _, _, h3, h4⟩
  · cases h
  · cases h3
    obtain ⟨⟨x, hx⟩, hf⟩ := h4 t ht
    exact ⟨x, hx, hf⟩

/-- While the copies are overwritten: only blocks between B and P have turned since w0. -/
structure Flip (w0 wr : World) (B P n : Nat) (cp : Nat → Value) (kk : Nat → List Int) : Prop where
  turned : Turned w0 wr (fun b => B < b ∧ b < P)
  room : ∀ j, j < n → Room wr B P (cp j) (kk j).length

theorem Flip.set {w0 wr : World} {B P n : Nat} {cp : Nat → Value} {kk : Nat → List Int} (h : Flip w0 wr B P n cp kk) {c t : Nat} (h1 : B < c) (h2 : c < P) (x : Int) : Flip w0 (wr.setCell ⟨c, t, none⟩ (.int .u8 x)) B P n cp kk :=
  ⟨h.turned.trans (Turned.setCell wr ⟨c, t, none⟩ _ _ ⟨h1, h2⟩), fun j hj => (h.room j hj).set c t x⟩
theorem Flip.drew {w0 wr : World} {B P n : Nat} {cp : Nat → Value} {kk : Nat → List Int} (h : Flip w0 wr B P n cp kk) : Flip w0 wr.drew B P n cp kk :=
  ⟨h.turned.trans (Turned.drew _ _), fun j hj => (h.room j hj).drew⟩
end Go.Proofs.Qxb6618760aFmt
