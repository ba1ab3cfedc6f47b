import Derived.Test.Qxb6618760aFmtStop
import Derived.WalkKit
import Derived.WalkSpells
namespace Go.Proofs.Qxb6618760aFmt
open Go.RowKit Go.Extern.Stop Go.Stop Go.Extern
attribute [local go_sem] Tryf.call15 Tryf.guard Tryf.fmt0 Tryf.fmt0r Tryf.opNil Tryf.ptr42 Tryf.elem42 Tryf.isError42'

/-- v is a slice of bytes that reads in w as zs. -/
def Bytes (w : World) (v : Value) (zs : List Int) : Prop :=
  ∃ a cap, v = .slice a zs.length cap ∧ (a = none → zs = [] ∧ cap = 0) ∧ (0 < zs.length → ∃ b off, a = some ⟨b, off, none⟩ ∧ ∀ j, j < zs.length → w.cell? ⟨b, off + j, none⟩ = some (.int .u8 (zs.getD j 0)))

theorem Bytes.later {w w' : World} {v : Value} {zs : List Int} (h : Bytes w v zs) (hb : Below w.heap.size w w') : Bytes w' v zs := by
  obtain ⟨a, cap, rfl, hn, hc⟩ := h
  refine ⟨a, cap, rfl, hn, fun h0 => ?_⟩
  obtain ⟨b, off, rfl, hcell⟩ := hc h0
  exact ⟨b, off, rfl, fun j hj => cell_later hb (hcell j hj)⟩

/-- .. its cells, as a list. -/
theorem Bytes.cells {w : World} {ad : Addr} {cap : Nat} {zs : List Int} (h : Bytes w (.slice (some ad) zs.length cap) zs) : ∀ j v, (zs.map (Value.int .u8))[j]? = some v → w.cell? (ad.add j) = some v := by
  obtain ⟨a, cap', e, _, hc⟩ := h
  cases e
  intro j v hj
  rw [List.getElem?_map] at hj
  obtain ⟨z, hz, rfl⟩ := Option.map_eq_some_iff.1 hj
  have hjl : j < zs.length := (List.getElem?_eq_some_iff.1 hz).1
  obtain ⟨b, off, e, hcell⟩ := hc (by omega)
  cases e
  have hadd : (⟨b, off, none⟩ : Addr).add j = ⟨b, off + j, none⟩ := by unfold Addr.add; split <;> simp_all
  rw [hadd, hcell j hjl]
  simp [List.getD, hz]

set_option maxHeartbeats 400000 in
theorem errorf_nil (F : Interp) (b : Nat) (w : World) (hF : F.answers w.tape) (hc : w.cell? ⟨b, 0, none⟩ = some (.iface 22 (.slice none 0 0))) :
    Calls Tryf.prog 14 #[.string ⟨#[117, 110, 107, 110, 111, 119, 110, 32, 107, 101, 121, 32, 37, 113]⟩, .slice (some ⟨b, 0, none⟩) 1 1] w fun e w' =>
      (∃ p : Addr, e = .returned (.iface 42 (.pointer (some p)))) ∧ Below w.heap.size w w' := by
  have hF' := answers_open hF
  go_enter Tryf.func14, Tryf.ntmps14
  go_wp2
  go_ret
  exact ⟨⟨_, rfl⟩, ((Below.refl _ _).alloc (Nat.le_refl _) _).drew⟩

set_option maxHeartbeats 400000 in
theorem errorf_some (F : Interp) (ad : Addr) (cap : Nat) (zs : List Int) (b : Nat) (w : World) (hF : F.answers w.tape) (hc : w.cell? ⟨b, 0, none⟩ = some (.iface 22 (.slice (some ad) zs.length cap)))
    (hz : Bytes w (.slice (some ad) zs.length cap) zs) :
    Calls Tryf.prog 14 #[.string ⟨#[117, 110, 107, 110, 111, 119, 110, 32, 107, 101, 121, 32, 37, 113]⟩, .slice (some ⟨b, 0, none⟩) 1 1] w fun e w' =>
      (∃ p : Addr, e = .returned (.iface 42 (.pointer (some p)))) ∧ Below w.heap.size w w' := by
  have hF' := answers_open hF
  have hop := fun (name : String) => Tryf.opBytes name ad cap zs w hz.cells
  go_enter Tryf.func14, Tryf.ntmps14
  go_wp2
  go_ret
  exact ⟨⟨_, rfl⟩, ((Below.refl _ _).alloc (Nat.le_refl _) _).drew⟩

set_option maxHeartbeats 400000 in
theorem errKey (F : Interp) (v : Value) (zs : List Int) (w : World) (hF : F.answers w.tape) (hz : Bytes w v zs) :
    Calls Tryf.prog 13 #[v] w fun e w' => (∃ p : Addr, e = .returned (.iface 42 (.pointer (some p)))) ∧ Below w.heap.size w w' := by
  have hz' := hz
  obtain ⟨a, cap, rfl, hn, _⟩ := hz'
  cases a with
  | none =>
    obtain ⟨rfl, rfl⟩ := hn rfl
    clear hn hz
    go_enter Tryf.func13, Tryf.ntmps13
    go_wp2_with fail
    refine (errorf_nil F _ _ (by exact hF) (by go_simp)).mono ?_
    rintro e w' ⟨⟨p, rfl⟩, hb⟩
    go_wp2
    go_ret
    exact ⟨⟨_, rfl⟩, ((Below.refl _ _).alloc (Nat.le_refl _) _).trans (hb.mono (by simp))⟩
  | some ad =>
    clear hn
    go_enter Tryf.func13, Tryf.ntmps13
    go_wp2_with fail
    refine (errorf_some F ad cap zs _ _ (by exact hF) (by go_simp) (hz.later ((Below.refl _ _).alloc (Nat.le_refl _) _))).mono ?_
    rintro e w' ⟨⟨p, rfl⟩, hb⟩
    go_wp2
    go_ret
    exact ⟨⟨_, rfl⟩, ((Below.refl _ _).alloc (Nat.le_refl _) _).trans (hb.mono (by simp))⟩

theorem zerrKey (F : Interp) (v : Value) (zs : List Int) (w : World) (hF : F.answers w.tape) (hz : Bytes w v zs) :
    Calls Tryf.prog 7 #[v] w fun e w' => (∃ p : Addr, e = .returned (.iface 42 (.pointer (some p)))) ∧ Below w.heap.size w w' := by
  go_enter Tryf.func7, Tryf.ntmps7
  go_wp2_with fail
  refine (errKey F v zs _ hF hz).mono ?_
  rintro e w' ⟨⟨p, rfl⟩, hb⟩
  go_wp2
  go_ret
  exact ⟨⟨_, rfl⟩, hb⟩
end Go.Proofs.Qxb6618760aFmt
