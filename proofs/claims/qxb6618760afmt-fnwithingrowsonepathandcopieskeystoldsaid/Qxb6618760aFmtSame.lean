import Derived.Test.Qxb6618760aFmtWith
import Derived.BigQuiet
import Derived.Deep.QuietTactic
namespace Go.Proofs.Qxb6618760aFmt
open Go.RowKit

theorem bdrewN {B : Nat} {a w : World} (h : Below B a w) (n : Nat) : Below B a (w.drewN n) := h.trans ⟨rfl, rfl, rfl, Nat.le_refl _, fun _ _ => rfl⟩

theorem strOf_aux (zs : List Int) : ∀ r : ByteArray, (zs.foldl (fun r n => r.push (UInt8.ofNat n.toNat)) r).data.toList = r.data.toList ++ zs.map (fun n => UInt8.ofNat n.toNat) := by
  induction zs with
  | nil => intro r; simp
  | cons z zs ih => intro r; rw [List.foldl_cons, ih]; simp [ByteArray.push]

theorem strOf_list (zs : List Int) : (strOf zs).data.toList = zs.map (fun n => UInt8.ofNat n.toNat) := by
  rw [strOf, strOf_aux]; simp

theorem strOf_size (zs : List Int) : (strOf zs).size = zs.length := by
  have := congrArg List.length (strOf_list zs)
  simpa using this

theorem strOf_at (zs : List Int) (hz : ∀ z ∈ zs, 0 ≤ z ∧ z < 256) (k : Nat) (hk : k < (strOf zs).size) : (((strOf zs)[k]).toNat : Int) = zs.getD k 0 := by
  have hk' : k < zs.length := by rw [strOf_size] at hk; exact hk
  have e : (strOf zs)[k] = UInt8.ofNat (zs[k]).toNat := by
    have h1 : (strOf zs).data.toList[k]? = some (UInt8.ofNat (zs[k]).toNat) := by
      rw [strOf_list, List.getElem?_map, List.getElem?_eq_getElem hk']; rfl
    have h2 : (strOf zs).data.toList[k]? = some (strOf zs)[k] := by
      rw [List.getElem?_eq_getElem (by simpa using hk)]; rfl
    exact Option.some.inj (h2.symm.trans h1)
  have hb := hz _ (List.getElem_mem hk')
  rw [e, List.getD, List.getElem?_eq_getElem hk', UInt8.toNat_ofNat']
  simp
  omega

set_option maxRecDepth 100000 in
set_option maxHeartbeats 1000000 in
theorem sameText (s : ByteArray) (v : Value) (zs : List Int) (w : World) (hz : Bytes w v zs) (hl : s.size = zs.length) (hn : zs.length ≤ 2000000) (hs : ∀ k (h : k < s.size), ((s[k]).toNat : Int) = zs.getD k 0) :
    Calls Tryf.prog 10 #[.string s, v] w fun e w' => e = .returned (.bool true) ∧ Below w.heap.size w w' := by
  have hz' := hz
  obtain ⟨a, cap, rfl, _, _⟩ := hz'
  have HS : Hid _ := hs
  clear hs
  go_enter Tryf.func10, Tryf.ntmps10
  go_wp2
  go_loopw [5] (fun i wr => ∃ k : Nat, k ≤ zs.length ∧ i = .int .i64 k ∧ Below w.heap.size w wr) (fun i _ => zs.length - (intOf i).toNat)
  case atStart => exact ⟨0, Nat.zero_le _, rfl, Below.refl _ _⟩
  case round =>
    obtain ⟨k, hk, rfl, hb⟩ := hrel
    by_cases hlt : k < zs.length
    · have hz2 := hz.later hb
      obtain ⟨a', cap', e, _, hc⟩ := hz2
      cases e
      obtain ⟨b, off, rfl, hcell⟩ := hc (by omega)
      have hck := hcell k hlt
      have hsk := HS.out k (by omega)
      obtain ⟨z, hzk⟩ : ∃ z, z = zs.getD k 0 := ⟨_, rfl⟩
      rw [← hzk] at hck hsk
      clear hzk hcell hc hz
      have i1 : (k : Int) < (zs.length : Int) := by omega
      have i2 : (0 : Int) ≤ (k : Int) := by omega
      have i3 : k < s.size := by omega
      go_wp2_with fail
      go_quiet (fail)
      go_wp2
      go_roundw
      case rel => exact ⟨k + 1, by omega, by go_num, bdrewN hb _⟩
      case measure => simp [intOf]; omega
    · clear hz
      go_wp2
      go_ret
      exact ⟨rfl, hb⟩
end Go.Proofs.Qxb6618760aFmt
