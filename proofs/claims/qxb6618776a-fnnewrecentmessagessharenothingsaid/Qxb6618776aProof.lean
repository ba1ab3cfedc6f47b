import Derived.Test.Qxb6618776aWalks
import Derived.ProofKit
import Derived.OpenShut
import Derived.ShutString
namespace Go.Proofs.Qxb6618776a
open Go.ChangeShapes Go.WideShapes Go.ChangeAt Go.RowKit
open Go.ChangeMaps (open_string shut_string)

theorem own : ownKnob Try.prog.godebug = none := by kernel_rfl

set_option maxRecDepth 100000 in
set_option maxHeartbeats 1000000 in
theorem walk (a0 a1 a2 a3 a4 a5 a6 : Int) (a7 : ByteArray) (w : World) :
    Calls Try.prog 3 #[.int .i64 a0, .int .i64 a1, .int .i64 a2, .int .i64 a3, .int .i64 a4, .int .i64 a5, .int .i64 a6, .string a7] w fun e w' => e = .returned (.bool true) ∧ Below w.heap.size w w' := by
  go_enter Try.func3, Try.ntmps3
  go_wp2_with fail
  refine (bytes4 a0 a1 a2 a3 a4 a5 a6 a7 w).mono ?_
  rintro e w' ⟨⟨b, rfl⟩, rfl⟩
  cases b with
  | false =>
    go_wp2
    go_ret
    exact ⟨rfl, Below.refl _ _⟩
  | true =>
    by_cases l0 : (1048576 : Int) < a7.size
    · go_wp2_with fail
      go_ret
      exact ⟨rfl, Below.refl _ _⟩
    go_wp2_with fail
    refine (znewStore a4 a5 a6 a7 _).mono ?_
    rintro e w1 ⟨⟨S, rfl⟩, hb1⟩
    go_wp2_with fail
    refine (znewRec a0 a1 S _).mono ?_
    rintro e w2 ⟨rfl, hr1, hb2, hz2⟩
    go_wp2_with fail
    refine (znewRec a2 a3 S _).mono ?_
    rintro e w3 ⟨rfl, hr2, hb3, hz3⟩
    have hb : Below w'.heap.size w' w3 := (hb1.trans (hb2.mono hb1.size)).trans (hb3.mono (by have := hb1.size; omega))
    have hr1' := hr1.later hb3
    have p0 : w3.cell? ⟨w1.heap.size, 0, none⟩ = some (.int .i64 a0) := by rw [cell_of_row _ _ _ _ _ _ hr1'.own]; rfl
    have p1 : w3.cell? ⟨w1.heap.size, 1, none⟩ = some (.int .i64 a1) := by rw [cell_of_row _ _ _ _ _ _ hr1'.own]; rfl
    have p2 : w3.cell? ⟨w1.heap.size, 2, none⟩ = some (.pointer (some ⟨S, 0, none⟩)) := by rw [cell_of_row _ _ _ _ _ _ hr1'.own]; rfl
    have p5 : w3.cell? ⟨w1.heap.size, 5, none⟩ = some (.pointer (some ⟨w1.heap.size + 1 + 1, 0, none⟩)) := by rw [cell_of_row _ _ _ _ _ _ hr1'.own]; rfl
    have pt : w3.cell? ⟨w1.heap.size + 1 + 1, 2, none⟩ = some (.slice none 0 0) := by rw [cell_of_row _ _ _ _ _ _ hr1'.tab]; rfl
    have q0 : w3.cell? ⟨w2.heap.size, 0, none⟩ = some (.int .i64 a2) := by rw [cell_of_row _ _ _ _ _ _ hr2.own]; rfl
    have q1 : w3.cell? ⟨w2.heap.size, 1, none⟩ = some (.int .i64 a3) := by rw [cell_of_row _ _ _ _ _ _ hr2.own]; rfl
    have q2 : w3.cell? ⟨w2.heap.size, 2, none⟩ = some (.pointer (some ⟨S, 0, none⟩)) := by rw [cell_of_row _ _ _ _ _ _ hr2.own]; rfl
    have q5 : w3.cell? ⟨w2.heap.size, 5, none⟩ = some (.pointer (some ⟨w2.heap.size + 1 + 1, 0, none⟩)) := by rw [cell_of_row _ _ _ _ _ _ hr2.own]; rfl
    have qt : w3.cell? ⟨w2.heap.size + 1 + 1, 2, none⟩ = some (.slice none 0 0) := by rw [cell_of_row _ _ _ _ _ _ hr2.tab]; rfl
    have n1 := neq_ptr (a := ⟨w1.heap.size, 0, none⟩) (b := ⟨w2.heap.size, 0, none⟩) Try.underlying25 inf45 (fun h => by have h1 : w1.heap.size = w2.heap.size := congrArg Addr.block h; omega) hr1'.own hr2.own
    have n2 := neq_ptr (a := ⟨w1.heap.size + 1 + 1, 0, none⟩) (b := ⟨w2.heap.size + 1 + 1, 0, none⟩) Try.underlying27 inf82 (fun h => by have h1 : w1.heap.size + 1 + 1 = w2.heap.size + 1 + 1 := congrArg Addr.block h; omega) hr1'.tab hr2.tab
    have n3 := eql23
    obtain ⟨m1, hm1⟩ : ∃ m, m = w1.heap.size := ⟨_, rfl⟩
    obtain ⟨m2, hm2⟩ : ∃ m, m = w2.heap.size := ⟨_, rfl⟩
    obtain ⟨t1, ht1⟩ : ∃ m, m = m1 + 1 + 1 := ⟨_, rfl⟩
    obtain ⟨t2, ht2⟩ : ∃ m, m = m2 + 1 + 1 := ⟨_, rfl⟩
    rw [← hm1, ← hm2]
    rw [← hm1] at p0 p1 p2 p5 pt n1 n2
    rw [← hm2] at q0 q1 q2 q5 qt n1 n2
    rw [← ht1] at p5 pt n2
    rw [← ht2] at q5 qt n2
    clear hm1 hm2 ht1 ht2 hr1 hr1' hr2 hb1 hb2 hb3 hz2 hz3
    go_wp2_with fail
    refine (rd7 m1 _ _ p5).mono ?_
    rintro e wx ⟨rfl, hwx⟩
    subst hwx
    go_wp2_with fail
    refine (rd7 m2 _ _ q5).mono ?_
    rintro e wx ⟨rfl, hwx⟩
    subst hwx
    go_wp2_with fail
    refine (rd8 m1 _ _ p0).mono ?_
    rintro e wx ⟨rfl, hwx⟩
    subst hwx
    go_wp2_with fail
    refine (rd9 m1 _ _ p1).mono ?_
    rintro e wx ⟨rfl, hwx⟩
    subst hwx
    go_wp2_with fail
    refine (rd8 m2 _ _ q0).mono ?_
    rintro e wx ⟨rfl, hwx⟩
    subst hwx
    go_wp2_with fail
    refine (rd9 m2 _ _ q1).mono ?_
    rintro e wx ⟨rfl, hwx⟩
    subst hwx
    go_wp2_with fail
    refine (rd10 m1 _ _ p2).mono ?_
    rintro e wx ⟨rfl, hwx⟩
    subst hwx
    go_wp2_with fail
    refine (rd10 m2 _ _ q2).mono ?_
    rintro e wx ⟨rfl, hwx⟩
    subst hwx
    go_wp2_with fail
    refine (rd11 m1 t1 _ p5 pt).mono ?_
    rintro e wx ⟨rfl, hwx⟩
    subst hwx
    go_wp2_with fail
    refine (rd11 m2 t2 _ q5 qt).mono ?_
    rintro e wx ⟨rfl, hwx⟩
    subst hwx
    go_wp2
    go_ret
    exact ⟨rfl, hb⟩

set_option maxRecDepth 100000 in
theorem lifted (os : Os) (started : os.Started) (H : Type) (enc : TypeId × Value → H) :
    ReturnsInHanded {} Try.checked os 3 .any (Rows.fnNewRecentMessagesShareNothingSpec.pre6 enc Try.prog Try.f3 Rows.fnNewRecentMessagesShareNothingRow.domain false) (Rows.fnNewRecentMessagesShareNothingSpec.post enc Try.prog Try.f3 false true false false) := by
  refine returnsInHanded_of_change (C := Try.checked) own started (by kernel_rfl) Try.func3
    (ChangeSpec.witness6 (enc := enc) (C := Try.checked) false ⟨#[], #[.int .i64 0, .int .i64 0, .int .i64 0, .int .i64 0, .int .i64 0, .int .i64 0, .int .i64 0, .string ByteArray.empty], []⟩ 8 (by kernel_rfl) (by kernel_rfl) (by kernel_rfl) (by kernel_rfl)) ?_
  intro W base args ds gs before hval0 hW hcnd _
  have hval : ∀ (j : Nat) t v, Try.f3.params[j]? = some t → args[j]? = some v → Value.okWide Try.prog W .any base t v := hval0
  have hW' := hW
  obtain ⟨p, q, hA0, hV, rfl, hfz, hnd⟩ := hW
  have hA : DataW.TrodAll enc Try.prog W 0 (fun _ => true) true Try.f3.params.toList args.toList ds p := hA0
  rw [Try.params3] at hA hval
  obtain ⟨v0, vs0, d0, ds0, p0, q0, hargs, rfl, rfl, h0, r0⟩ := trodAll_cons hA
  obtain ⟨v1, vs1, d1, ds1, p1, q1, rfl, rfl, rfl, h1, r1⟩ := trodAll_cons r0
  obtain ⟨v2, vs2, d2, ds2, p2, q2, rfl, rfl, rfl, h2, r2⟩ := trodAll_cons r1
  obtain ⟨v3, vs3, d3, ds3, p3, q3, rfl, rfl, rfl, h3, r3⟩ := trodAll_cons r2
  obtain ⟨v4, vs4, d4, ds4, p4, q4, rfl, rfl, rfl, h4, r4⟩ := trodAll_cons r3
  obtain ⟨v5, vs5, d5, ds5, p5, q5, rfl, rfl, rfl, h5, r5⟩ := trodAll_cons r4
  obtain ⟨v6, vs6, d6, ds6, p6, q6, rfl, rfl, rfl, h6, r6⟩ := trodAll_cons r5
  obtain ⟨v7, vs7, d7, ds7, p7, q7, rfl, rfl, rfl, h7, r7⟩ := trodAll_cons r6
  obtain ⟨rfl, rfl, rfl⟩ := trodAll_nil r7
  obtain rfl : args = #[v0, v1, v2, v3, v4, v5, v6, v7] := by cases args; simp_all
  obtain ⟨rfl, rfl⟩ := trodVars_none hV
  obtain ⟨a0, rfl, rfl, rfl, w0⟩ := open_int Try.underlying2 (hval 0 2 v0 rfl rfl) h0
  obtain ⟨a1, rfl, rfl, rfl, w1⟩ := open_int Try.underlying3 (hval 1 3 v1 rfl rfl) h1
  obtain ⟨a2, rfl, rfl, rfl, w2⟩ := open_int Try.underlying2 (hval 2 2 v2 rfl rfl) h2
  obtain ⟨a3, rfl, rfl, rfl, w3⟩ := open_int Try.underlying3 (hval 3 3 v3 rfl rfl) h3
  obtain ⟨a4, rfl, rfl, rfl, w4⟩ := open_int Try.underlying2 (hval 4 2 v4 rfl rfl) h4
  obtain ⟨a5, rfl, rfl, rfl, w5⟩ := open_int Try.underlying3 (hval 5 3 v5 rfl rfl) h5
  obtain ⟨a6, rfl, rfl, rfl, w6⟩ := open_int Try.underlying3 (hval 6 3 v6 rfl rfl) h6
  obtain ⟨a7, rfl, rfl, rfl, w7⟩ := open_string Try.underlying9 (hval 7 9 v7 rfl rfl) h7
  clear hA0 hval0
  simp only [List.append_nil] at hW'
  refine (walk a0 a1 a2 a3 a4 a5 a6 a7 W).mono fun e W' ⟨he, hnx⟩ => ?_
  subst he
  refine ⟨_, rfl, _, _, _, [], [], [], hW', trodAll_mk1 (shut_bool Try.underlying4 _), ?_, rfl, hnx.frame _, fun h => by cases h⟩
  exact trodAll_cons_mk (shut_int Try.underlying2 w0) (trodAll_cons_mk (shut_int Try.underlying3 w1) (trodAll_cons_mk (shut_int Try.underlying2 w2) (trodAll_cons_mk (shut_int Try.underlying3 w3) (trodAll_cons_mk (shut_int Try.underlying2 w4)
    (trodAll_cons_mk (shut_int Try.underlying3 w5) (trodAll_cons_mk (shut_int Try.underlying3 w6) (trodAll_cons_mk (shut_string Try.underlying9 w7) trodAll_mk0)))))))

theorem share_proved : Rows.FnNewRecentMessagesShareNothingSaid :=
  OpenClaim.holds_of_wide 3 Try.f3 rfl rfl rfl rfl rfl rfl rfl ⟨rfl, rfl, rfl, rfl, rfl⟩ rfl rfl rfl rfl rfl (by kernel_rfl) Try.func3 (by kernel_rfl)
    (of_decide_eq_true (by kernel_rfl)) (by unfold Func.isWrapper; first | (rw [if_pos (by decide +kernel)]; kernel_rfl) | (rw [if_neg (by decide +kernel)]; exact ⟨rfl, rfl⟩))
    (fun os started H enc _ => lifted os started H enc)

#print axioms share_proved
end Go.Proofs.Qxb6618776a
