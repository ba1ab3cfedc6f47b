import Derived.Test.Qxb6618684aFmtLaw
import Derived.Test.Qxb6618684aFmtCards
import Derived.ProofKit
import Derived.OpenShut
import Derived.ShutString
import Derived.SliceStrings
import Derived.Carry
import Derived.Stop.JoinedAt
import Derived.Stop.JoinedTold
import Derived.SevenToldRow
namespace Go.Proofs.Qxb6618684aFmt
open Go.ChangeShapes Go.WideShapes Go.ChangeAt Go.RowKit Go.Kit
open Go.ChangeMaps (open_string shut_string)
open Go.Extern.Stop Go.Stop Go.Extern

theorem own : ownKnob Tryf.prog.godebug = none := by kernel_rfl
theorem laidOut : laidOutB Tryf.pinned.checked.prog = true := by kernel_rfl
theorem cells9 : Tryf.prog.cellsOf 9 = 1 := by kernel_rfl
theorem stops : Tryf.pinned.checked.prog.stops = ["fmt.errorf"] := by kernel_rfl
theorem stopKnobs : Tryf.pinned.checked.prog.stopKnobs = [] := by kernel_rfl
theorem quiet (os : Os) : Stop.quiet Tryf.pinned.checked.prog os := by
  intro k hk
  rw [stopKnobs] at hk
  cases hk

/-- A slice of strings that came in. -/
theorem strs_of {H : Type} {enc : TypeId × Value → H} {W : World} {base : Nat} {a : Option Addr} {len cap : Nat} {d : DataW H} {p : List MemPlace}
    (h : DataW.Trod enc Tryf.prog W base (fun _ => true) true 49 (.slice a len cap) d p) :
    ∃ ss : List ByteArray, len = ss.length ∧ Strs W (.slice a ss.length cap) ss ∧ ∀ j, (ss.getD j ByteArray.empty).size ≤ maxLen := by
  obtain ⟨fuel, hf⟩ := h
  rcases open_strings Tryf.underlying49 Tryf.underlying9 cells9 hf with ⟨hcs, _⟩ | ⟨a', len', cap', ss, hcs, _, hl, _, hz, _, hcell, hws⟩
  · simp [Value.cells] at hcs
    obtain ⟨rfl, rfl, rfl⟩ := hcs
    exact ⟨[], rfl, ⟨none, 0, rfl, fun h => by simp at h⟩, fun j => by simp⟩
  · simp [Value.cells] at hcs
    obtain ⟨rfl, rfl, rfl⟩ := hcs
    simp only [if_true] at hz
    have hlen : (ss.take len).length = len := by rw [List.length_take]; omega
    refine ⟨ss.take len, hlen.symm, ⟨some a', cap, rfl, fun h0 => ?_⟩, fun j => ?_⟩
    · rw [hlen] at h0
      obtain ⟨b, off, spot⟩ := a'
      have hspot : spot = none := by simpa [Addr.add] using World.cell?_spot (hcell 0 (by omega))
      subst hspot
      refine ⟨b, off, rfl, fun j hj => ?_⟩
      rw [hlen] at hj
      have := hcell j (by omega)
      rw [add_plain] at this
      rw [this]
      simp [List.getD, List.getElem?_take_of_lt hj]
    · rw [List.getD]
      cases e : (ss.take len)[j]? with
      | none => simp
      | some s => exact hws s (List.mem_of_mem_take (List.mem_of_getElem? e))

set_option maxRecDepth 100000 in
theorem list_lifted (os : Os) (started : os.Started) (H : Type) (enc : TypeId × Value → H) :
    ReturnsInTold none {} Tryf.checked os 4 .any Input.okWide ((OpenSpec.ofChange Rows.fnLicenseInAgreesWithRecordListSpec).preRow enc Tryf.prog Tryf.f4 [] false [])
      (fun F => ((OpenSpec.ofChange Rows.fnLicenseInAgreesWithRecordListSpec).at F).post enc Tryf.prog Tryf.f4 false true false false) (aloneAtReturn Tryf.prog) nothingAlways := by
  refine returnsInTold_of_row (C := Tryf.checked) (s := OpenSpec.ofChange Rows.fnLicenseInAgreesWithRecordListSpec) (by kernel_rfl) own started (by kernel_rfl) Tryf.func4
    (OpenSpec.witness_stopped (enc := enc) (C := Tryf.checked) false ⟨#[], #[.slice none 0 0, .slice none 0 0, .string ByteArray.empty, .string ByteArray.empty], []⟩ 8 (by kernel_rfl) (by kernel_rfl) (by kernel_rfl) (by kernel_rfl)) ?_
  intro F W base args ds gs before _ hF hval0 hW _ _ _ _ _
  have hval : ∀ (j : Nat) t v, Tryf.f4.params[j]? = some t → args[j]? = some v → Value.okWide Tryf.prog W .any base t v := hval0
  have hW' := hW
  obtain ⟨p, q, hA0, hV, rfl, _, _⟩ := hW
  have hA : DataW.TrodAll enc Tryf.prog W 0 (fun _ => true) true Tryf.f4.params.toList args.toList ds p := hA0
  rw [Tryf.params4] at hA hval
  obtain ⟨v0, vs0, d0, ds0, p0, q0, hargs, rfl, rfl, h0, r0⟩ := trodAll_cons hA
  obtain ⟨v1, vs1, d1, ds1, p1, q1, rfl, rfl, rfl, h1, r1⟩ := trodAll_cons r0
  obtain ⟨v2, vs2, d2, ds2, p2, q2, rfl, rfl, rfl, h2, r2⟩ := trodAll_cons r1
  obtain ⟨v3, vs3, d3, ds3, p3, q3, rfl, rfl, rfl, h3, r3⟩ := trodAll_cons r2
  obtain ⟨rfl, rfl, rfl⟩ := trodAll_nil r3
  obtain rfl : args = #[v0, v1, v2, v3] := by cases args; simp_all
  obtain ⟨rfl, rfl⟩ := trodVars_none hV
  obtain ⟨a0, len0, cap0, rfl⟩ := okWide_slice Tryf.underlying49 (hval 0 49 v0 rfl rfl)
  obtain ⟨a1, len1, cap1, rfl⟩ := okWide_slice Tryf.underlying49 (hval 1 49 v1 rfl rfl)
  obtain ⟨s2, rfl, rfl, rfl, w2⟩ := open_string Tryf.underlying9 (hval 2 9 v2 rfl rfl) h2
  obtain ⟨s3, rfl, rfl, rfl, w3⟩ := open_string Tryf.underlying9 (hval 3 9 v3 rfl rfl) h3
  clear hA0 hval0 hA hval
  simp only [List.append_nil] at hW'
  have hlt0 : ∀ x ∈ p0, x.block < W.heap.size := fun x hx => by simpa using hW'.lt x (by simp [hx])
  have hlt1 : ∀ x ∈ p1, x.block < W.heap.size := fun x hx => by simpa using hW'.lt x (by simp [hx])
  have ha0 : ∀ (W' : World), Below W.heap.size W W' → DataW.Trod enc Tryf.prog W' 0 (fun b => decide (b < W.heap.size)) true 49 (.slice a0 len0 cap0) d0 p0 :=
    fun W' hn => Below.trod laidOut (by kernel_rfl) (of_decide_eq_true (by kernel_rfl)) h0 hn hlt0
  have ha1 : ∀ (W' : World), Below W.heap.size W W' → DataW.Trod enc Tryf.prog W' 0 (fun b => decide (b < W.heap.size)) true 49 (.slice a1 len1 cap1) d1 p1 :=
    fun W' hn => Below.trod laidOut (by kernel_rfl) (of_decide_eq_true (by kernel_rfl)) h1 hn hlt1
  obtain ⟨ss, rfl, hs0, hw0⟩ := strs_of h0
  obtain ⟨tt, rfl, hs1, _⟩ := strs_of h1
  refine (law_on F.told a0 a1 cap0 cap1 ss tt s2 s3 W hF hs0 hs1 hw0 w2).mono fun e W' ⟨he, hnx⟩ => ?_
  subst he
  refine ⟨_, rfl, _, _, _, [], p0 ++ (p1 ++ ([] ++ ([] ++ []))), [], hW', trodAll_mk1 (shut_bool Tryf.underlying4 _), ?_, rfl, hnx.frame _, fun h => by cases h⟩
  exact trodAll_cons_mk (ha0 W' hnx) (trodAll_cons_mk (ha1 W' hnx) (trodAll_cons_mk (shut_string Tryf.underlying9 w2) (trodAll_cons_mk (shut_string Tryf.underlying9 w3) trodAll_mk0)))

theorem list_proved : Rows.FnLicenseInAgreesWithRecordListToldSaid :=
  Claim7.holds_of_told_any 4 Tryf.f4 "fmt.errorf" [] [] _ _ _ (by kernel_rfl) rfl rfl rfl laidOut (by kernel_rfl) rfl ⟨rfl, rfl, rfl, rfl, rfl, rfl, rfl⟩ rfl rfl (by kernel_rfl) (by kernel_rfl) Tryf.func4 (by kernel_rfl)
    (of_decide_eq_true (by kernel_rfl)) (of_decide_eq_true (by kernel_rfl)) stops.symm rfl stopKnobs.symm (by kernel_rfl)
    (by kernel_rfl) (by kernel_rfl) (by kernel_rfl) (by kernel_rfl) (by kernel_rfl) (by kernel_rfl) (by kernel_rfl) (by kernel_rfl) (by kernel_rfl) rfl (by kernel_rfl) rfl rfl
    rfl rfl
    rfl (by kernel_rfl) (by kernel_rfl) (by kernel_rfl) (by decide) (by kernel_rfl)
    (OpenClaim.moreEntering_of (by kernel_rfl) (by kernel_rfl) (by kernel_rfl) (by kernel_rfl) (by kernel_rfl) (by kernel_rfl) (by kernel_rfl) (by kernel_rfl) (by kernel_rfl) (by kernel_rfl))
    ⟨_, WideRow.started_initial, quiet _⟩
    (fun os started _ H enc _ => list_lifted os started H enc)

#print axioms list_proved

end Go.Proofs.Qxb6618684aFmt
