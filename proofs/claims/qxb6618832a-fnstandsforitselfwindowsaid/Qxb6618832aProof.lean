import Derived.Test.Qxb6618832aWalks
import Derived.ProofKit
import Derived.OpenShut
import Derived.ShutString
namespace Go.Proofs.Qxb6618832a
open Go.ChangeShapes Go.WideShapes Go.ChangeAt Go.RowKit

theorem own : ownKnob Try.prog.godebug = none := by kernel_rfl

theorem bounds32 {d : Int} (h : (Lit.int .i32 d).wf = true) : -2147483648 ≤ d ∧ d ≤ 2147483647 := by
  simp [Lit.wf, IntKind.min, IntKind.max, IntKind.bits, IntKind.signed] at h
  omega

set_option maxRecDepth 100000 in
set_option maxHeartbeats 2000000 in
/-- The Go text returns true; the world stands. -/
theorem walk (r n : Int) (w : World) (r0 : -2147483648 ≤ r) (r1 : r ≤ 2147483647) :
    Calls Try.prog 3 #[.int .i32 r, .int .i64 n] w fun e w' => e = .returned (.bool true) ∧ w' = w := by
  by_cases n0 : n < 0
  · go_enter Try.func3, Try.ntmps3
    go_wp2_with fail
    go_ret
    exact ⟨rfl, rfl⟩
  by_cases n1 : 65536 < n
  · go_enter Try.func3, Try.ntmps3
    go_wp2_with fail
    go_ret
    exact ⟨rfl, rfl⟩
  have n0' : 0 ≤ n := by omega
  have n1' : n ≤ 65536 := by omega
  clear n0 n1
  by_cases n2 : 2147483648 < r + n
  · have br := below_bounds r
    go_enter Try.func3, Try.ntmps3
    go_wp2_with fail
    go_loop [7, 8] (fun cnt c => ∃ k : Int, r ≤ k ∧ k ≤ 2147483648 ∧ c = .int .i64 k ∧ cnt = .int .i64 (below k - below r)) (fun _ c => (2147483648 - intOf c).toNat)
    case atStart => exact ⟨r, by omega, by omega, rfl, by simp⟩
    case round =>
      obtain ⟨k, hk0, hk1, rfl, rfl⟩ := hrel
      have bk := below_bounds k
      obtain ⟨B, hB⟩ : ∃ B, B = below k := ⟨_, rfl⟩
      obtain ⟨R, hR⟩ : ∃ R, R = below r := ⟨_, rfl⟩
      have HB : Hid (B = below k) := hB
      have HR : Hid (R = below r) := hR
      rw [← hB] at bk
      rw [← hR] at br
      rw [← hB, ← hR]
      clear hB hR
      obtain ⟨bk0, bk1⟩ := bk
      obtain ⟨br0, br1⟩ := br
      by_cases hlt : k < 2147483648
      · by_cases hs : Stands k
        · have e1 : Hid (below (k + 1) = below k + 1) := below_yes hs
          have HS : Hid (Stands k) := hs
          clear hs
          go_wp2_with fail
          refine (stands_yes k _ HS.out).mono ?_
          rintro e w' ⟨rfl, rfl⟩
          go_wp2_with fail
          go_round
          case rel => exact ⟨k + 1, by omega, by omega, rfl, by rw [e1.out, ← HB.out]; congr 1; omega⟩
          case measure => simp [intOf]; omega
        · have e1 : Hid (below (k + 1) = below k) := below_no hs
          have HS : Hid (¬ Stands k) := hs
          clear hs
          go_wp2_with fail
          refine (stands_no k _ HS.out).mono ?_
          rintro e w' ⟨rfl, rfl⟩
          go_wp2_with fail
          go_round
          case rel => exact ⟨k + 1, by omega, by omega, rfl, by rw [e1.out, ← HB.out]⟩
          case measure => simp [intOf]; omega
      · have hkH : k = 2147483648 := by omega
        have HB' : Hid (below (2147483648) = B) := by
          show below (2147483648) = B
          rw [HB.out, hkH]
        have HR' : Hid (below r = R) := HR.out.symm
        go_wp2_with fail
        refine (below_any _ _ (by omega) (by omega)).mono ?_
        rintro e w' ⟨rfl, rfl⟩
        rw [HB'.out]
        go_wp2_with fail
        refine (below_any _ _ (by omega) (by omega)).mono ?_
        rintro e w' ⟨rfl, rfl⟩
        rw [HR'.out]
        by_cases hs : Stands r
        · have e1 : Hid (below (r + 1) = R + 1) := by
            show below (r + 1) = R + 1
            rw [below_yes hs, HR'.out]
          have HS : Hid (Stands r) := hs
          clear hs
          go_wp2_with fail
          refine (stands_yes r _ HS.out).mono ?_
          rintro e w' ⟨rfl, rfl⟩
          go_wp2_with fail
          refine (below_any _ _ (by omega) (by omega)).mono ?_
          rintro e w' ⟨rfl, rfl⟩
          rw [e1.out]
          go_wp2_with fail
          refine (below_any _ _ (by omega) (by omega)).mono ?_
          rintro e w' ⟨rfl, rfl⟩
          rw [HR'.out]
          go_wp2
          go_ret
          exact ⟨ret_bool (by simp; try omega), rfl⟩
        · have e1 : Hid (below (r + 1) = R) := by
            show below (r + 1) = R
            rw [below_no hs, HR'.out]
          have HS : Hid (¬ Stands r) := hs
          clear hs
          go_wp2_with fail
          refine (stands_no r _ HS.out).mono ?_
          rintro e w' ⟨rfl, rfl⟩
          go_wp2_with fail
          refine (below_any _ _ (by omega) (by omega)).mono ?_
          rintro e w' ⟨rfl, rfl⟩
          rw [e1.out]
          go_wp2_with fail
          refine (below_any _ _ (by omega) (by omega)).mono ?_
          rintro e w' ⟨rfl, rfl⟩
          rw [HR'.out]
          go_wp2
          go_ret
          exact ⟨ret_bool (by simp; try omega), rfl⟩
  · have n2' : r + n ≤ 2147483648 := by omega
    clear n2
    have br := below_bounds r
    go_enter Try.func3, Try.ntmps3
    go_wp2_with fail
    go_loop [7, 8] (fun cnt c => ∃ k : Int, r ≤ k ∧ k ≤ r + n ∧ c = .int .i64 k ∧ cnt = .int .i64 (below k - below r)) (fun _ c => (r + n - intOf c).toNat)
    case atStart => exact ⟨r, by omega, by omega, rfl, by simp⟩
    case round =>
      obtain ⟨k, hk0, hk1, rfl, rfl⟩ := hrel
      have bk := below_bounds k
      obtain ⟨B, hB⟩ : ∃ B, B = below k := ⟨_, rfl⟩
      obtain ⟨R, hR⟩ : ∃ R, R = below r := ⟨_, rfl⟩
      have HB : Hid (B = below k) := hB
      have HR : Hid (R = below r) := hR
      rw [← hB] at bk
      rw [← hR] at br
      rw [← hB, ← hR]
      clear hB hR
      obtain ⟨bk0, bk1⟩ := bk
      obtain ⟨br0, br1⟩ := br
      by_cases hlt : k < r + n
      · by_cases hs : Stands k
        · have e1 : Hid (below (k + 1) = below k + 1) := below_yes hs
          have HS : Hid (Stands k) := hs
          clear hs
          go_wp2_with fail
          refine (stands_yes k _ HS.out).mono ?_
          rintro e w' ⟨rfl, rfl⟩
          go_wp2_with fail
          go_round
          case rel => exact ⟨k + 1, by omega, by omega, rfl, by rw [e1.out, ← HB.out]; congr 1; omega⟩
          case measure => simp [intOf]; omega
        · have e1 : Hid (below (k + 1) = below k) := below_no hs
          have HS : Hid (¬ Stands k) := hs
          clear hs
          go_wp2_with fail
          refine (stands_no k _ HS.out).mono ?_
          rintro e w' ⟨rfl, rfl⟩
          go_wp2_with fail
          go_round
          case rel => exact ⟨k + 1, by omega, by omega, rfl, by rw [e1.out, ← HB.out]⟩
          case measure => simp [intOf]; omega
      · have hkH : k = r + n := by omega
        have HB' : Hid (below (r + n) = B) := by
          show below (r + n) = B
          rw [HB.out, hkH]
        have HR' : Hid (below r = R) := HR.out.symm
        go_wp2_with fail
        refine (below_any _ _ (by omega) (by omega)).mono ?_
        rintro e w' ⟨rfl, rfl⟩
        rw [HB'.out]
        go_wp2_with fail
        refine (below_any _ _ (by omega) (by omega)).mono ?_
        rintro e w' ⟨rfl, rfl⟩
        rw [HR'.out]
        by_cases hs : Stands r
        · have e1 : Hid (below (r + 1) = R + 1) := by
            show below (r + 1) = R + 1
            rw [below_yes hs, HR'.out]
          have HS : Hid (Stands r) := hs
          clear hs
          go_wp2_with fail
          refine (stands_yes r _ HS.out).mono ?_
          rintro e w' ⟨rfl, rfl⟩
          go_wp2_with fail
          refine (below_any _ _ (by omega) (by omega)).mono ?_
          rintro e w' ⟨rfl, rfl⟩
          rw [e1.out]
          go_wp2_with fail
          refine (below_any _ _ (by omega) (by omega)).mono ?_
          rintro e w' ⟨rfl, rfl⟩
          rw [HR'.out]
          go_wp2
          go_ret
          exact ⟨ret_bool (by simp; try omega), rfl⟩
        · have e1 : Hid (below (r + 1) = R) := by
            show below (r + 1) = R
            rw [below_no hs, HR'.out]
          have HS : Hid (¬ Stands r) := hs
          clear hs
          go_wp2_with fail
          refine (stands_no r _ HS.out).mono ?_
          rintro e w' ⟨rfl, rfl⟩
          go_wp2_with fail
          refine (below_any _ _ (by omega) (by omega)).mono ?_
          rintro e w' ⟨rfl, rfl⟩
          rw [e1.out]
          go_wp2_with fail
          refine (below_any _ _ (by omega) (by omega)).mono ?_
          rintro e w' ⟨rfl, rfl⟩
          rw [HR'.out]
          go_wp2
          go_ret
          exact ⟨ret_bool (by simp; try omega), rfl⟩

set_option maxRecDepth 100000 in
theorem lifted (os : Os) (started : os.Started) (H : Type) (enc : TypeId × Value → H) :
    ReturnsInHanded {} Try.checked os 3 .any (Rows.fnStandsForItselfWindowSpec.pre6 enc Try.prog Try.f3 Rows.fnStandsForItselfWindowRow.domain false) (Rows.fnStandsForItselfWindowSpec.post enc Try.prog Try.f3 false true false false) := by
  refine returnsInHanded_of_change (C := Try.checked) own started (by kernel_rfl) Try.func3
    (ChangeSpec.witness6 (enc := enc) (C := Try.checked) false ⟨#[], #[.int .i32 0, .int .i64 0], []⟩ 8 (by kernel_rfl) (by kernel_rfl) (by kernel_rfl) (by kernel_rfl)) ?_
  intro W base args ds gs before hval0 hW hcnd _
  have hval : ∀ (j : Nat) t v, Try.f3.params[j]? = some t → args[j]? = some v → Value.okWide Try.prog W .any base t v := hval0
  have hW' := hW
  obtain ⟨p, q, hA0, hV, rfl, hfz, hnd⟩ := hW
  have hA : DataW.TrodAll enc Try.prog W 0 (fun _ => true) true Try.f3.params.toList args.toList ds p := hA0
  rw [Try.params3] at hA hval
  obtain ⟨v0, vs0, d0, ds0, p0, q0, hargs, rfl, rfl, h0, r0⟩ := trodAll_cons hA
  obtain ⟨v1, vs1, d1, ds1, p1, q1, rfl, rfl, rfl, h1, r1⟩ := trodAll_cons r0
  obtain ⟨rfl, rfl, rfl⟩ := trodAll_nil r1
  obtain rfl : args = #[v0, v1] := by cases args; simp_all
  obtain ⟨rfl, rfl⟩ := trodVars_none hV
  obtain ⟨a0, rfl, rfl, rfl, w0⟩ := open_int Try.underlying21 (hval 0 21 v0 rfl rfl) h0
  obtain ⟨a1, rfl, rfl, rfl, w1⟩ := open_int Try.underlying3 (hval 1 3 v1 rfl rfl) h1
  clear hA0 hval0
  simp only [List.append_nil] at hW'
  refine (walk a0 a1 W (bounds32 w0).1 (bounds32 w0).2).mono fun e W' ⟨he, hw⟩ => ?_
  subst he
  subst hw
  have hg := Grown.refl W'
  exact ⟨_, rfl, post_of_same (pa := []) (pv := []) hW' (fun _ _ _ => (trodAll_cons_mk (shut_bool Try.underlying4 _) trodAll_mk0)) (fun sp _ => (trodAll_cons_mk (shut_int Try.underlying21 w0) (trodAll_cons_mk (shut_int Try.underlying3 w1) trodAll_mk0))) (fun _ _ => rfl) rfl
    (hg.frame _) hg.2.1 (ok_one (by kernel_rfl) rfl (okWide_bool_mk Try.underlying4 _))⟩

theorem window_proved : Rows.FnStandsForItselfWindowSaid :=
  OpenClaim.holds_of_wide 3 Try.f3 rfl rfl rfl rfl rfl rfl rfl ⟨rfl, rfl, rfl, rfl, rfl⟩ rfl rfl rfl rfl rfl (by kernel_rfl) Try.func3 (by kernel_rfl)
    (of_decide_eq_true (by kernel_rfl)) (by unfold Func.isWrapper; first | (rw [if_pos (by decide +kernel)]; kernel_rfl) | (rw [if_neg (by decide +kernel)]; exact ⟨rfl, rfl⟩))
    (fun os started H enc _ => lifted os started H enc)

#print axioms window_proved
end Go.Proofs.Qxb6618832a
