import Derived.Test.Qxb6618684aFmtRows
import Derived.WalkKit
import Derived.WalkSpells
namespace Go.Proofs.Qxb6618684aFmt
open Go.RowKit

/-- v is a slice of strings that reads in w as ss. -/
def Strs (w : World) (v : Value) (ss : List ByteArray) : Prop :=
  ∃ a cap, v = .slice a ss.length cap ∧ (0 < ss.length → ∃ b off, a = some ⟨b, off, none⟩ ∧ ∀ j, j < ss.length → w.cell? ⟨b, off + j, none⟩ = some (.string (ss.getD j ByteArray.empty)))

set_option maxHeartbeats 400000 in
theorem strAt (w : World) (v : Value) (ss : List ByteArray) (k : Nat) (hv : Strs w v ss) (hn : ss.length ≤ 1000000) :
    Calls Tryf.prog 14 #[v, .int .i64 k] w fun e w' => e = .returned (.string (ss.getD k ByteArray.empty)) ∧ w' = w := by
  obtain ⟨a, cap, rfl, hc⟩ := hv
  by_cases hlt : k < ss.length
  · obtain ⟨b, off, rfl, hcell⟩ := hc (by omega)
    have hck := hcell k hlt
    obtain ⟨s, hs⟩ : ∃ s, s = ss.getD k ByteArray.empty := ⟨_, rfl⟩
    rw [← hs] at hck ⊢
    clear hs hcell hc
    go_enter Tryf.func14, Tryf.ntmps14
    go_wp2
    go_ret
    exact ⟨rfl, rfl⟩
  · have hs : ss.getD k ByteArray.empty = ByteArray.empty := by simp [List.getD, List.getElem?_eq_none (by omega : ss.length ≤ k)]
    rw [hs]
    clear hs
    go_enter Tryf.func14, Tryf.ntmps14
    go_wp2
    go_ret
    exact ⟨rfl, rfl⟩

/-- The last place below k at which q stands; -1 where there is none. -/
def lastTo (ss : List ByteArray) (q : ByteArray) : Nat → Int
  | 0 => -1
  | k + 1 => if (ss.getD k ByteArray.empty).toList == q.toList then k else lastTo ss q k

set_option maxHeartbeats 400000 in
theorem lastIndex (w : World) (v : Value) (ss : List ByteArray) (q : ByteArray) (hv : Strs w v ss) (hn : ss.length ≤ 1000000) :
    Calls Tryf.prog 20 #[v, .string q] w fun e w' => e = .returned (.int .i64 (lastTo ss q ss.length)) ∧ w' = w := by
  obtain ⟨a, cap, rfl, hc⟩ := hv
  go_enter Tryf.func20, Tryf.ntmps20
  go_wp2
  go_loop [5] (fun i => ∃ k : Nat, k ≤ ss.length ∧ i = .int .i64 ((k : Int) - 1) ∧ lastTo ss q ss.length = lastTo ss q k) (fun i => (intOf i + 1).toNat)
  case atStart => exact ⟨ss.length, Nat.le_refl _, rfl, rfl⟩
  case round =>
    obtain ⟨k, hk, rfl, hL⟩ := hrel
    have HL : Hid (lastTo ss q ss.length = lastTo ss q k) := hL
    clear hL
    cases k with
    | zero =>
      clear hc
      go_wp2
      go_ret
      exact ⟨by rw [HL.out]; rfl, rfl⟩
    | succ k =>
      obtain ⟨b, off, rfl, hcell⟩ := hc (by omega)
      have hck := hcell k (by omega)
      have HS : Hid (lastTo ss q (k + 1) = if (ss.getD k ByteArray.empty).toList == q.toList then (k : Int) else lastTo ss q k) := rfl
      obtain ⟨s, hs⟩ : ∃ s, s = ss.getD k ByteArray.empty := ⟨_, rfl⟩
      rw [← hs] at hck HS
      clear hs hcell hc
      have e1 : ((k + 1 : Nat) : Int) - 1 = k := by omega
      rw [e1]
      clear e1
      cases heq : (s.toList == q.toList)
      · go_wp2
        go_round
        case rel => exact ⟨k, by omega, by go_num, by rw [HL.out, HS.out, heq]; simp⟩
        case measure => simp [intOf]
      · go_wp2
        go_ret
        exact ⟨by rw [HL.out, HS.out, heq]; simp, rfl⟩
end Go.Proofs.Qxb6618684aFmt
