import Derived.Test.Qxb6618684aFmtAsk
import Derived.Test.Qxb6618684aFmtRec
namespace Go.Proofs.Qxb6618684aFmt
open Go.RowKit Go.Extern.Stop Go.Stop Go.Extern

/-- What the map answers at the key kl behind the first k records: lp j is the block of the j-th licence. -/
def ptrTo (ids : List ByteArray) (lp : Nat → Nat) : Nat → List UInt8 → Value
  | 0, _ => .pointer none
  | k + 1, kl => if kl = (ids.getD k ByteArray.empty).data.toList then .pointer (some ⟨lp k, 0, none⟩) else ptrTo ids lp k kl

theorem ptrTo_congr (ids : List ByteArray) (lp lp' : Nat → Nat) : ∀ k, (∀ j, j < k → lp j = lp' j) → ptrTo ids lp k = ptrTo ids lp' k
  | 0, _ => rfl
  | k + 1, h => by
    funext kl
    rw [ptrTo, ptrTo, ptrTo_congr ids lp lp' k (fun j hj => h j (by omega)), h k (by omega)]

theorem ptrTo_last (ids : List ByteArray) (lp : Nat → Nat) (q : ByteArray) : ∀ k,
    (lastTo ids q k = -1 ∧ ptrTo ids lp k q.data.toList = .pointer none) ∨ ∃ j : Nat, j < k ∧ lastTo ids q k = j ∧ ptrTo ids lp k q.data.toList = .pointer (some ⟨lp j, 0, none⟩)
  | 0 => Or.inl ⟨rfl, rfl⟩
  | k + 1 => by
    rw [ptrTo, lastTo]
    by_cases e : (ids.getD k ByteArray.empty) = q
    · rw [e]
      simp only [BEq.rfl, if_true]
      exact Or.inr ⟨k, by omega, rfl, rfl⟩
    · have e1 : ((ids.getD k ByteArray.empty).toList == q.toList) = false := by
        cases h : ((ids.getD k ByteArray.empty).toList == q.toList)
        · rfl
        · exact absurd (toList_eq h) e
      have e2 : q.data.toList ≠ (ids.getD k ByteArray.empty).data.toList := fun h => e (Go.WideShapes.bytes_inj h.symm)
      rw [e1, if_neg e2]
      rcases ptrTo_last ids lp q k with ⟨h1, h2⟩ | ⟨j, hj, h1, h2⟩
      · exact Or.inl ⟨by simpa using h1, h2⟩
      · exact Or.inr ⟨j, by omega, by simpa using h1, h2⟩

/-- The world behind the first k records: the state's map field, the map, the licences, the list of them. -/
structure Book (w : World) (S M B k : Nat) (ids sts : List ByteArray) (lp : Nat → Nat) : Prop where
  c9 : w.cell? ⟨S, 9, none⟩ = some (.map (some M))
  map : MapIs w M k (ptrTo ids lp k)
  cid : ∀ j, j < k → w.cell? ⟨lp j, 0, none⟩ = some (.string (ids.getD j ByteArray.empty))
  cst : ∀ j, j < k → w.cell? ⟨lp j, 10, none⟩ = some (.string (sts.getD j ByteArray.empty))
  cls : ∀ j, j < k → w.cell? ⟨B, j, none⟩ = some (.pointer (some ⟨lp j, 0, none⟩))

theorem Book.later {w w' : World} {S M B k : Nat} {ids sts : List ByteArray} {lp : Nat → Nat} (h : Book w S M B k ids sts lp) (hb : Below w.heap.size w w') : Book w' S M B k ids sts lp :=
  ⟨cell_later hb h.c9, h.map.stays (hb.block _ h.map.lt), fun j hj => cell_later hb (h.cid j hj), fun j hj => cell_later hb (h.cst j hj), fun j hj => cell_later hb (h.cls j hj)⟩

theorem query (F : Interp) (q x : ByteArray) (S M B cap : Nat) (v0 v1 : Value) (ss tt : List ByteArray) (lp : Nat → Nat) (w : World) (hF : F.answers w.tape) (hq : q.size ≤ maxLen)
    (hB : Book w S M B ss.length ss tt lp) (hv0 : Strs w v0 ss) (hn : ss.length ≤ 1000000) (hv1 : Strs w v1 tt) (hn1 : tt.length ≤ 1000000) :
    Calls Tryf.prog 15 #[.pointer (some ⟨S, 0, none⟩), .slice (some ⟨B, 0, none⟩) ss.length cap, v0, v1, .string q, .string x] w fun e w' => e = .returned (.bool true) ∧ Below w.heap.size w w' := by
  have hl := hB.map.lookup hq
  rcases ptrTo_last ss lp q ss.length with ⟨h1, h2⟩ | ⟨j, hj, h1, h2⟩
  · rw [h2] at hl
    exact query_none F q x S M v0 v1 _ ss w hF hB.c9 hl hv0 hn h1
  · rw [h2] at hl
    cases e : ((tt.getD j ByteArray.empty).toList == x.toList)
    · exact query_other F q x _ _ S M (lp j) j v0 v1 _ ss tt w hF hB.c9 hl (hB.cid j hj) (hB.cst j hj) e hv0 hn hv1 hn1 h1 rfl
    · have e' := toList_eq e
      subst e'
      exact query_yes q _ S M (lp j) B j ss.length cap v0 v1 ss tt w hB.c9 hl (hB.cst j hj) (hB.cls j hj) hj hv0 hn hv1 hn1 h1 rfl
end Go.Proofs.Qxb6618684aFmt
