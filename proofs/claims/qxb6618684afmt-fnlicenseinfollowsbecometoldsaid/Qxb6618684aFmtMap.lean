import Derived.Test.Qxb6618684aFmtRows
import Derived.Maps.Own
import Derived.Maps.Views
import Derived.WalkKit
namespace Go.Proofs.Qxb6618684aFmt
open Go.RowKit Go.Maps

theorem law9 : Keyed Tryf.prog 9 := string_keyed Tryf.underlying9
theorem zero23 (w : World) : (zeroValue 23).run Tryf.prog w = .ok (.pointer none) w := by kernel_rfl

/-- An element is read as the value that it is. -/
def holdR (v : Value) : Option (DataW Value × List MemPlace) := some (.held v, [])

/-- Block M of w is a map of at most n entries that answers at the key kl with the pointer f kl (nil where nothing was stored). -/
def MapIs (w : World) (M n : Nat) (f : List UInt8 → Value) : Prop :=
  ∃ D : DataW Value, w.ownsMap Tryf.prog 9 holdR M n D ∧ IsMap D ∧ ∀ kl, D.atKey (.string kl) (.held (.pointer none)) = .held (f kl)

theorem MapIs.made (w : World) : MapIs (w.alloc (.map #[] 0)) w.heap.size 0 (fun _ => .pointer none) :=
  ⟨.map [], World.ownsMap_made _ _ _ _, ⟨[], rfl⟩, fun _ => rfl⟩

theorem MapIs.lt {w : World} {M n : Nat} {f : List UInt8 → Value} (h : MapIs w M n f) : M < w.heap.size := by
  obtain ⟨D, h1, _⟩ := h
  exact h1.lt

theorem MapIs.stays {w w' : World} {M n : Nat} {f : List UInt8 → Value} (h : MapIs w M n f) (hb : w'.heap[M]? = w.heap[M]?) : MapIs w' M n f := by
  obtain ⟨D, ⟨es, clock, h1, h2⟩, h3⟩ := h
  exact ⟨D, ⟨es, clock, hb.trans h1, h2⟩, h3⟩

theorem MapIs.lookup {w : World} {M n : Nat} {f : List UInt8 → Value} (h : MapIs w M n f) {s : ByteArray} (hs : s.size ≤ maxLen) :
    (Instr.lookup 55 (.map (some M)) (.string s) false).run Tryf.prog w = .ok (f s.data.toList) w := by
  obtain ⟨D, h1, _, h3⟩ := h
  obtain ⟨v, ps, hrun, hR⟩ := h1.lookup law9 Tryf.underlying55 (zero23 w) (zd := .held (.pointer none)) (zp := []) rfl (WideMaps.keyOf_string_mk Tryf.underlying9 hs)
  rw [h3] at hR
  simp only [holdR, Option.some.injEq, Prod.mk.injEq, DataW.held.injEq] at hR
  rw [hrun, hR.1]

theorem MapIs.update {w : World} {M n : Nat} {f : List UInt8 → Value} (h : MapIs w M n f) (hn : n < maxLen) {s : ByteArray} (hs : s.size ≤ maxLen) (v : Value) :
    ∃ w', (Instr.mapUpdate 55 (.map (some M)) (.string s) v).run Tryf.prog w = .ok () w' ∧ MapIs w' M (n + 1) (fun kl => if kl = s.data.toList then v else f kl) ∧ w.grownBy w' (some M) := by
  obtain ⟨D, h1, h2, h3⟩ := h
  obtain ⟨w', hrun, ho, hg⟩ := h1.update law9 Tryf.underlying55 hn (val := v) (d := .held v) (ps := []) (WideMaps.keyOf_string_mk Tryf.underlying9 hs) rfl
  refine ⟨w', hrun, ⟨_, ho, ?_, fun kl => ?_⟩, hg⟩
  · obtain ⟨es, clock, _, _, _, e⟩ := ho
    exact ⟨_, e⟩
  · by_cases e : kl = s.data.toList
    · subst e
      rw [atKey_put_same h2 (by trivial)]
      simp
    · rw [atKey_put_other (fun h => e (by simpa using h)), h3]
      simp [e]

end Go.Proofs.Qxb6618684aFmt
