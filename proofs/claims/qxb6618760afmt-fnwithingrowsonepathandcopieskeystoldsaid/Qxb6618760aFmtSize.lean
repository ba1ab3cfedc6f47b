import Derived.Test.Qxb6618760aFmtSame
namespace Go.Proofs.Qxb6618760aFmt
open Go.RowKit

/-- v is a slice of n slices of bytes: the j-th is the value kv j, which reads as kk j. -/
def Keys (w : World) (v : Value) (n : Nat) (kv : Nat → Value) (kk : Nat → List Int) : Prop :=
  (∃ a cap, v = .slice a n cap ∧ (0 < n → ∃ b off, a = some ⟨b, off, none⟩ ∧ ∀ j, j < n → w.cell? ⟨b, off + j, none⟩ = some (kv j))) ∧ ∀ j, j < n → Bytes w (kv j) (kk j)

theorem Keys.later {w w' : World} {v : Value} {n : Nat} {kv : Nat → Value} {kk : Nat → List Int} (h : Keys w v n kv kk) (hb : Below w.heap.size w w') : Keys w' v n kv kk := by
  obtain ⟨⟨a, cap, rfl, hc⟩, hz⟩ := h
  refine ⟨⟨a, cap, rfl, fun h0 => ?_⟩, fun j hj => (hz j hj).later hb⟩
  obtain ⟨b, off, rfl, hcell⟩ := hc h0
  exact ⟨b, off, rfl, fun j hj => cell_later hb (hcell j hj)⟩

/-- The j-th cell, and the j-th key written out. -/
theorem Keys.at {w : World} {a : Option Addr} {cap n : Nat} {kv : Nat → Value} {kk : Nat → List Int} (h : Keys w (.slice a n cap) n kv kk) {j : Nat} (hj : j < n) :
    ∃ b off a' c', a = some ⟨b, off, none⟩ ∧ w.cell? ⟨b, off + j, none⟩ = some (.slice a' (kk j).length c') ∧ kv j = .slice a' (kk j).length c' ∧ Bytes w (.slice a' (kk j).length c') (kk j) := by
  obtain ⟨⟨a0, cap0, e, hc⟩, hz⟩ := h
  cases e
  obtain ⟨b, off, rfl, hcell⟩ := hc (by omega)
  have hb := hz j hj
  obtain ⟨a', c', e, h1⟩ := hz j hj
  rw [e] at hb
  exact ⟨b, off, a', c', rfl, by rw [hcell j hj, e], e, hb⟩

/-- The call returned a bool; where it is true, p. -/
def BoolEnd (e : Ending) (p : Prop) : Prop := ∃ b : Bool, e = .returned (.bool b) ∧ (b = true → p)

set_option maxRecDepth 100000 in
set_option maxHeartbeats 1000000 in
theorem bytes5 (w : World) (a0 a1 : Option Addr) (c0 c1 n : Nat) (zs : List Int) (kv : Nat → Value) (kk : Nat → List Int) (hv : Keys w (.slice a1 n c1) n kv kk) :
    Calls Tryf.prog 5 #[.slice a0 zs.length c0, .slice a1 n c1] w fun e w' => BoolEnd e (zs.length ≤ 1048576 ∧ n ≤ 1048576 ∧ ∀ j, j < n → (kk j).length ≤ 1048576) ∧ w' = w := by
  by_cases l0 : (1048576 : Int) < zs.length
  · go_enter Tryf.func5, Tryf.ntmps5
    go_wp2
    go_ret
    exact ⟨⟨false, rfl, by simp⟩, rfl⟩
  by_cases l1 : (1048576 : Int) < n
  · go_enter Tryf.func5, Tryf.ntmps5
    go_wp2
    go_ret
    exact ⟨⟨false, rfl, by simp⟩, rfl⟩
  by_cases l2 : (1048576 : Int) < zs.length + n
  · go_enter Tryf.func5, Tryf.ntmps5
    go_wp2
    go_ret
    exact ⟨⟨false, rfl, by simp⟩, rfl⟩
  go_enter Tryf.func5, Tryf.ntmps5
  go_wp2
  go_loop [5, 6] (fun t i => ∃ (k : Nat) (m : Int), k ≤ n ∧ i = .int .i64 k ∧ 0 ≤ m ∧ m ≤ 1048576 ∧ t = .int .i64 m ∧ ∀ j, j < k → (kk j).length ≤ 1048576) (fun _ i => n - (intOf i).toNat)
  case atStart => exact ⟨0, _, Nat.zero_le _, rfl, by omega, by omega, rfl, fun j hj => by omega⟩
  case round =>
    obtain ⟨k, m, hk, rfl, hn0, hn1, rfl, hlen⟩ := hrel
    have HL : Hid (∀ j, j < k → (kk j).length ≤ 1048576) := hlen
    clear hlen
    by_cases hlt : k < n
    · obtain ⟨b, off, a', c', rfl, hck, _, _⟩ := hv.at hlt
      obtain ⟨L, hL⟩ : ∃ L, L = (kk k).length := ⟨_, rfl⟩
      have HL2 : Hid (L = (kk k).length) := hL
      rw [← hL] at hck
      clear hL hv
      go_wp2
      all_goals first
        | (go_round
           case rel =>
             refine ⟨k + 1, _, by omega, by go_num, by omega, by omega, rfl, fun j hj => ?_⟩
             by_cases e : j = k
             · rw [e, ← HL2.out]; omega
             · exact HL.out j (by omega)
           case measure => simp [intOf]; omega)
        | (go_ret; exact ⟨⟨false, rfl, by simp⟩, rfl⟩)
    · clear hv
      go_wp2
      go_ret
      exact ⟨⟨_, rfl, fun _ => ⟨by omega, by omega, fun j hj => HL.out j (by omega)⟩⟩, rfl⟩
end Go.Proofs.Qxb6618760aFmt
