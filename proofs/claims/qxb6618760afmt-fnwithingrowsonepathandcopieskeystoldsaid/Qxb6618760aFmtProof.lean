import Derived.Test.Qxb6618760aFmtLaw
import Derived.Test.Qxb6618760aFmtCards
import Derived.ProofKit
import Derived.OpenShut
import Derived.ChangeSlices
import Derived.Carry
import Derived.Deep.Matrix
import Derived.Stop.JoinedAt
import Derived.Stop.JoinedTold
import Derived.SevenToldRow
namespace Go.Proofs.Qxb6618760aFmt
open Go.ChangeShapes Go.WideShapes Go.ChangeAt Go.RowKit Go.Kit
open Go.Extern.Stop Go.Stop Go.Extern

theorem own : ownKnob Tryf.prog.godebug = none := by kernel_rfl
theorem laidOut : laidOutB Tryf.pinned.checked.prog = true := by kernel_rfl
theorem cells5 : Tryf.prog.cellsOf 5 = 1 := by kernel_rfl
theorem cells22 : Tryf.prog.cellsOf 22 = 1 := by kernel_rfl
theorem stops : Tryf.pinned.checked.prog.stops = ["fmt.errorf"] := by kernel_rfl
theorem stopKnobs : Tryf.pinned.checked.prog.stopKnobs = [] := by kernel_rfl
theorem quiet (os : Os) : Stop.quiet Tryf.pinned.checked.prog os := by
  intro k hk
  rw [stopKnobs] at hk
  cases hk

theorem wf_u8 {z : Int} (h : (Lit.int .u8 z).wf = true) : 0 ≤ z ∧ z < 256 := by
  simp [Lit.wf, IntKind.min, IntKind.max, IntKind.bits, IntKind.signed] at h
  omega

/-- From the cells to 'Bytes': the first len of the numbers that lie there. -/
theorem bytes_mk {W : World} {a : Option Addr} {len cap : Nat} {zs : List Int} (hl : len ≤ zs.length) (hn : a = none → len = 0 ∧ cap = 0) (hc : ∀ ad, a = some ad → ∀ i, i < zs.length → W.cell? (ad.add i) = some (.int .u8 (zs.getD i 0))) (h0 : 0 < len → a ≠ none) :
    len = (zs.take len).length ∧ Bytes W (.slice a (zs.take len).length cap) (zs.take len) := by
  have hlen : (zs.take len).length = len := by rw [List.length_take]; omega
  refine ⟨hlen.symm, a, cap, rfl, fun e => ?_, fun hp => ?_⟩
  · obtain ⟨h1, h2⟩ := hn e
    exact ⟨by rw [h1]; rfl, h2⟩
  · rw [hlen] at hp
    cases a with
    | none => exact absurd rfl (h0 hp)
    | some ad =>
      have hc' := hc ad rfl
      obtain ⟨b, off, spot⟩ := ad
      have hspot : spot = none := by simpa [Addr.add] using World.cell?_spot (hc' 0 (by omega))
      subst hspot
      refine ⟨b, off, rfl, fun j hj => ?_⟩
      rw [hlen] at hj
      have := hc' j (by omega)
      rw [add_plain] at this
      rw [this]
      simp [List.getD, List.getElem?_take_of_lt hj]

theorem bytes_of {H : Type} {enc : TypeId × Value → H} {W : World} {base : Nat} {a : Option Addr} {len cap : Nat} {d : DataW H} {p : List MemPlace}
    (h : DataW.Trod enc Tryf.prog W base (fun _ => true) true 22 (.slice a len cap) d p) : ∃ zs : List Int, len = zs.length ∧ Bytes W (.slice a zs.length cap) zs := by
  obtain ⟨fuel, hf⟩ := h
  rcases open_ints Tryf.underlying22 Tryf.underlying5 cells5 hf with ⟨hcs, _⟩ | ⟨a', len', cap', zs, hcs, _, hl, _, hz, _, hcell, _⟩
  · simp [Value.cells] at hcs
    obtain ⟨rfl, rfl, rfl⟩ := hcs
    exact ⟨[], rfl, none, 0, rfl, fun _ => ⟨rfl, rfl⟩, fun h => by simp at h⟩
  · simp [Value.cells] at hcs
    obtain ⟨rfl, rfl, rfl⟩ := hcs
    simp only [if_true] at hz
    obtain ⟨h1, h2⟩ := bytes_mk (W := W) (a := some a') (len := len) (cap := cap) (zs := zs) (by omega) (fun e => by cases e) (fun ad e i hi => by cases e; exact hcell i hi) (fun _ e => by cases e)
    exact ⟨_, h1, h2⟩

theorem keys_of {H : Type} {enc : TypeId × Value → H} {W : World} {base : Nat} {a : Option Addr} {len cap : Nat} {d : DataW H} {p : List MemPlace}
    (h : DataW.Trod enc Tryf.prog W base (fun _ => true) true 23 (.slice a len cap) d p) : ∃ kv kk, Keys W (.slice a len cap) len kv kk ∧ ∀ j, j < len → ∀ z ∈ kk j, 0 ≤ z ∧ z < 256 := by
  obtain ⟨fuel, hf⟩ := h
  rcases Go.Deep.open_int_rows Tryf.underlying23 Tryf.underlying22 Tryf.underlying5 cells22 cells5 hf with ⟨hcs, _⟩ | ⟨a', len', cap', A, L, C, Z, hcs, _, hl, _, _, hr⟩
  · simp [Value.cells] at hcs
    obtain ⟨rfl, rfl, rfl⟩ := hcs
    exact ⟨fun _ => .slice none 0 0, fun _ => [], ⟨⟨none, 0, rfl, fun h => by omega⟩, fun j hj => by omega⟩, fun j hj => by omega⟩
  · simp [Value.cells] at hcs
    obtain ⟨rfl, rfl, rfl⟩ := hcs
    refine ⟨fun r => .slice (A r) (L r) (C r), fun r => (Z r).take (L r), ⟨⟨some a', cap, rfl, fun h0 => ?_⟩, fun j hj => ?_⟩, fun j hj z hz => ?_⟩
    · obtain ⟨b, off, spot⟩ := a'
      have hspot : spot = none := by simpa [Addr.add] using World.cell?_spot (hr 0 (by omega)).1
      subst hspot
      refine ⟨b, off, rfl, fun j hj => ?_⟩
      have := (hr j (by omega)).1
      rw [add_plain] at this
      exact this
    · obtain ⟨_, h2, _, h4, _, h6, h7⟩ := hr j (by omega)
      obtain ⟨e1, e2⟩ := bytes_mk (W := W) (a := A j) (len := L j) (cap := C j) (zs := Z j) (by omega) (fun e => by have := h6 e; omega) (fun ad e i hi => (h7 ad e).2 i (by omega)) (fun hp e => by have := h6 e; omega)
      rw [← e1] at e2
      exact e2
    · exact wf_u8 ((hr j (by omega)).2.2.2.2.1 z (List.mem_of_mem_take hz))

set_option maxRecDepth 100000 in
theorem lifted (os : Os) (started : os.Started) (H : Type) (enc : TypeId × Value → H) :
    ReturnsInTold none {} Tryf.checked os 3 .any Input.okWide ((OpenSpec.ofChange Rows.fnWithinGrowsOnePathAndCopiesKeysSpec).preRow enc Tryf.prog Tryf.f3 [] false [])
      (fun F => ((OpenSpec.ofChange Rows.fnWithinGrowsOnePathAndCopiesKeysSpec).at F).post enc Tryf.prog Tryf.f3 false true false false) (aloneAtReturn Tryf.prog) nothingAlways := by
  refine returnsInTold_of_row (C := Tryf.checked) (s := OpenSpec.ofChange Rows.fnWithinGrowsOnePathAndCopiesKeysSpec) (by kernel_rfl) own started (by kernel_rfl) Tryf.func3
    (OpenSpec.witness_stopped (enc := enc) (C := Tryf.checked) false ⟨#[], #[.slice none 0 0, .slice none 0 0], []⟩ 8 (by kernel_rfl) (by kernel_rfl) (by kernel_rfl) (by kernel_rfl)) ?_
  intro F W base args ds gs before _ hF hval0 hW _ _ _ _ _
  have hval : ∀ (j : Nat) t v, Tryf.f3.params[j]? = some t → args[j]? = some v → Value.okWide Tryf.prog W .any base t v := hval0
  have hW' := hW
  obtain ⟨p, q, hA0, hV, rfl, _, _⟩ := hW
  have hA : DataW.TrodAll enc Tryf.prog W 0 (fun _ => true) true Tryf.f3.params.toList args.toList ds p := hA0
  rw [Tryf.params3] at hA hval
  obtain ⟨v0, vs0, d0, ds0, p0, q0, hargs, rfl, rfl, h0, r0⟩ := trodAll_cons hA
  obtain ⟨v1, vs1, d1, ds1, p1, q1, rfl, rfl, rfl, h1, r1⟩ := trodAll_cons r0
  obtain ⟨rfl, rfl, rfl⟩ := trodAll_nil r1
  obtain rfl : args = #[v0, v1] := by cases args; simp_all
  obtain ⟨rfl, rfl⟩ := trodVars_none hV
  obtain ⟨a0, len0, cap0, rfl⟩ := okWide_slice Tryf.underlying22 (hval 0 22 v0 rfl rfl)
  obtain ⟨a1, len1, cap1, rfl⟩ := okWide_slice Tryf.underlying23 (hval 1 23 v1 rfl rfl)
  clear hA0 hval0 hA hval
  simp only [List.append_nil] at hW'
  have hlt0 : ∀ x ∈ p0, x.block < W.heap.size := fun x hx => by simpa using hW'.lt x (by simp [hx])
  have hlt1 : ∀ x ∈ p1, x.block < W.heap.size := fun x hx => by simpa using hW'.lt x (by simp [hx])
  have ha0 : ∀ (W' : World), Below W.heap.size W W' → DataW.Trod enc Tryf.prog W' 0 (fun b => decide (b < W.heap.size)) true 22 (.slice a0 len0 cap0) d0 p0 :=
    fun W' hn => Below.trod laidOut (by kernel_rfl) (of_decide_eq_true (by kernel_rfl)) h0 hn hlt0
  have ha1 : ∀ (W' : World), Below W.heap.size W W' → DataW.Trod enc Tryf.prog W' 0 (fun b => decide (b < W.heap.size)) true 23 (.slice a1 len1 cap1) d1 p1 :=
    fun W' hn => Below.trod laidOut (by kernel_rfl) (of_decide_eq_true (by kernel_rfl)) h1 hn hlt1
  obtain ⟨zs, rfl, hz⟩ := bytes_of h0
  obtain ⟨kv, kk, hv, hk⟩ := keys_of h1
  refine (law_on F.told a0 a1 cap0 cap1 len1 zs kv kk W hF hz hv hk).mono fun e W' ⟨he, hnx⟩ => ?_
  subst he
  refine ⟨_, rfl, _, _, _, [], p0 ++ p1, [], hW', trodAll_mk1 (shut_bool Tryf.underlying4 _), ?_, rfl, hnx.frame _, fun h => by cases h⟩
  have hlast := trodAll_cons_mk (ha0 W' hnx) (trodAll_cons_mk (ha1 W' hnx) trodAll_mk0)
  rw [List.append_nil] at hlast
  exact hlast

theorem within_proved : Rows.FnWithinGrowsOnePathAndCopiesKeysToldSaid :=
  Claim7.holds_of_told_any 3 Tryf.f3 "fmt.errorf" [] [] _ _ _ (by kernel_rfl) rfl rfl rfl laidOut (by kernel_rfl) rfl ⟨rfl, rfl, rfl, rfl, rfl, rfl, rfl⟩ rfl rfl (by kernel_rfl) (by kernel_rfl) Tryf.func3 (by kernel_rfl)
    (of_decide_eq_true (by kernel_rfl)) (of_decide_eq_true (by kernel_rfl)) stops.symm rfl stopKnobs.symm (by kernel_rfl)
    (by kernel_rfl) (by kernel_rfl) (by kernel_rfl) (by kernel_rfl) (by kernel_rfl) (by kernel_rfl) (by kernel_rfl) (by kernel_rfl) (by kernel_rfl) rfl (by kernel_rfl) rfl rfl
    rfl rfl
    rfl (by kernel_rfl) (by kernel_rfl) (by kernel_rfl) (by decide) (by kernel_rfl)
    (OpenClaim.moreEntering_of (by kernel_rfl) (by kernel_rfl) (by kernel_rfl) (by kernel_rfl) (by kernel_rfl) (by kernel_rfl) (by kernel_rfl) (by kernel_rfl) (by kernel_rfl) (by kernel_rfl))
    ⟨_, WideRow.started_initial, quiet _⟩
    (fun os started _ H enc _ => lifted os started H enc)

#print axioms within_proved

end Go.Proofs.Qxb6618760aFmt
