import Derived.Test.Qxb6618684aFmtStrs
namespace Go.Proofs.Qxb6618684aFmt
open Go.RowKit

set_option maxHeartbeats 400000 in
theorem strsBytes (w : World) (v : Value) (ss : List ByteArray) (t : Int) (hv : Strs w v ss) (hn : ss.length ≤ 1000000) (h0 : 0 ≤ t) (h1 : t ≤ 1048576) :
    Calls Tryf.prog 13 #[.int .i64 t, v] w fun e w' => (∃ r : Int, 0 ≤ r ∧ r ≤ 4000000 ∧ e = .returned (.int .i64 r)) ∧ w' = w := by
  obtain ⟨a, cap, rfl, hc⟩ := hv
  go_enter Tryf.func13, Tryf.ntmps13
  go_wp2
  go_loop [0, 5] (fun t i => ∃ (k : Nat) (n : Int), k ≤ ss.length ∧ i = .int .i64 k ∧ 0 ≤ n ∧ n ≤ 1048576 ∧ t = .int .i64 n) (fun _ i => ss.length - (intOf i).toNat)
  case atStart => exact ⟨0, t, Nat.zero_le _, rfl, h0, h1, rfl⟩
  case round =>
    obtain ⟨k, n, hk, rfl, hn0, hn1, rfl⟩ := hrel
    by_cases hlt : k < ss.length
    · obtain ⟨b, off, rfl, hcell⟩ := hc (by omega)
      have hck := hcell k hlt
      obtain ⟨s, hs⟩ : ∃ s, s = ss.getD k ByteArray.empty := ⟨_, rfl⟩
      rw [← hs] at hck
      clear hs hcell hc
      go_wp2
      all_goals first
        | (go_round
           case rel => exact ⟨k + 1, _, by omega, by go_num, by omega, by omega, rfl⟩
           case measure => simp [intOf]; omega)
        | (go_ret; exact ⟨⟨_, by omega, by omega, rfl⟩, rfl⟩)
    · clear hc
      go_wp2
      go_ret
      exact ⟨⟨_, by omega, by omega, rfl⟩, rfl⟩

/-- The call returned a bool; where it is true, p. -/
def BoolEnd (e : Ending) (p : Prop) : Prop := ∃ b : Bool, e = .returned (.bool b) ∧ (b = true → p)

set_option maxHeartbeats 2000000 in
theorem bytes12 (w : World) (v0 v1 : Value) (ss tt : List ByteArray) (q x : ByteArray) (hv0 : Strs w v0 ss) (hv1 : Strs w v1 tt) :
    Calls Tryf.prog 12 #[v0, v1, .string q, .string x] w fun e w' => BoolEnd e (ss.length ≤ 1048576 ∧ tt.length ≤ 1048576) ∧ w' = w := by
  obtain ⟨a, cap, rfl, hc⟩ := hv0
  obtain ⟨a1, cap1, rfl, hc1⟩ := hv1
  by_cases l0 : (1048576 : Int) < ss.length
  · clear hc hc1
    go_enter Tryf.func12, Tryf.ntmps12
    go_wp2
    go_ret
    exact ⟨⟨false, rfl, by simp⟩, rfl⟩
  · go_enter Tryf.func12, Tryf.ntmps12
    go_wp2
    go_loop [9, 10] (fun t i => ∃ (k : Nat) (n : Int), k ≤ ss.length ∧ i = .int .i64 k ∧ 0 ≤ n ∧ n ≤ 1048576 ∧ t = .int .i64 n) (fun _ i => ss.length - (intOf i).toNat)
    case atStart => exact ⟨0, _, Nat.zero_le _, rfl, by omega, by omega, rfl⟩
    case round =>
      obtain ⟨k, n, hk, rfl, hn0, hn1, rfl⟩ := hrel
      by_cases hlt : k < ss.length
      · obtain ⟨b, off, rfl, hcell⟩ := hc (by omega)
        have hck := hcell k hlt
        obtain ⟨s, hs⟩ : ∃ s, s = ss.getD k ByteArray.empty := ⟨_, rfl⟩
        rw [← hs] at hck
        clear hs hcell hc hc1
        go_wp2
        all_goals first
          | (go_round
             case rel => exact ⟨k + 1, _, by omega, by go_num, by omega, by omega, rfl⟩
             case measure => simp [intOf]; omega)
          | (go_ret; exact ⟨⟨false, rfl, by simp⟩, rfl⟩)
      · clear hc
        by_cases l1 : (1048576 : Int) < tt.length
        · clear hc1
          go_wp2
          go_ret
          exact ⟨⟨false, rfl, by simp⟩, rfl⟩
        · by_cases l2 : (1048576 : Int) < n + tt.length
          · clear hc1
            go_wp2
            go_ret
            exact ⟨⟨false, rfl, by simp⟩, rfl⟩
          · go_wp2
            go_loop [9, 11] (fun t i => ∃ (k : Nat) (n : Int), k ≤ tt.length ∧ i = .int .i64 k ∧ 0 ≤ n ∧ n ≤ 1048576 ∧ t = .int .i64 n) (fun _ i => tt.length - (intOf i).toNat)
            case atStart => exact ⟨0, _, Nat.zero_le _, rfl, by omega, by omega, rfl⟩
            case round =>
              obtain ⟨k', n', hk', rfl, hn0', hn1', rfl⟩ := hrel
              by_cases hlt' : k' < tt.length
              · obtain ⟨b', off', rfl, hcell'⟩ := hc1 (by omega)
                have hck' := hcell' k' hlt'
                obtain ⟨s', hs'⟩ : ∃ s, s = tt.getD k' ByteArray.empty := ⟨_, rfl⟩
                rw [← hs'] at hck'
                clear hs' hcell' hc1
                go_wp2
                all_goals first
                  | (go_round
                     case rel => exact ⟨k' + 1, _, by omega, by go_num, by omega, by omega, rfl⟩
                     case measure => simp [intOf]; omega)
                  | (go_ret; exact ⟨⟨false, rfl, by simp⟩, rfl⟩)
              · clear hc1
                go_wp2
                all_goals
                  go_ret
                  exact ⟨⟨_, rfl, fun _ => ⟨by omega, by omega⟩⟩, rfl⟩
end Go.Proofs.Qxb6618684aFmt
