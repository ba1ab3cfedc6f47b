import Derived.Test.Qxb6618684aFmtErr
import Derived.Deep.RegionHeld3
import Derived.Maps.OwnOps
namespace Go.Proofs.Qxb6618684aFmt
open Go.RowKit Go.Extern.Stop Go.Stop Go.Extern

set_option maxHeartbeats 400000 in
theorem in_none (F : Interp) (q st : ByteArray) (S M : Nat) (w : World) (hF : F.answers w.tape) (hc : w.cell? ⟨S, 9, none⟩ = some (.map (some M)))
    (hl : (Instr.lookup 55 (.map (some M)) (.string q) false).run Tryf.prog w = .ok (.pointer none) w) :
    Calls Tryf.prog 16 #[.pointer (some ⟨S, 0, none⟩), .string q, .string st] w fun e w' =>
      (∃ p : Addr, e = .returned (.tuple #[.pointer none, .iface 82 (.pointer (some p))])) ∧ Below w.heap.size w w' := by
  go_enter Tryf.func16, Tryf.ntmps16
  go_wp2_with fail
  refine (errorf_none F q _ _ (by exact hF) (by go_simp)).mono ?_
  rintro e w' ⟨⟨p, rfl⟩, hb⟩
  go_wp2
  go_ret2
  exact ⟨⟨_, rfl⟩, ((Below.refl _ _).alloc (Nat.le_refl _) _).trans (hb.mono (by simp))⟩

set_option maxHeartbeats 400000 in
theorem in_yes (q st : ByteArray) (S M L : Nat) (w : World) (hc : w.cell? ⟨S, 9, none⟩ = some (.map (some M)))
    (hl : (Instr.lookup 55 (.map (some M)) (.string q) false).run Tryf.prog w = .ok (.pointer (some ⟨L, 0, none⟩)) w)
    (hs : w.cell? ⟨L, 10, none⟩ = some (.string st)) :
    Calls Tryf.prog 16 #[.pointer (some ⟨S, 0, none⟩), .string q, .string st] w fun e w' =>
      e = .returned (.tuple #[.pointer (some ⟨L, 0, none⟩), .nilIface]) ∧ w' = w := by
  go_enter Tryf.func16, Tryf.ntmps16
  go_wp2
  go_ret2
  exact ⟨rfl, rfl⟩

set_option maxRecDepth 100000 in
set_option maxHeartbeats 1000000 in
theorem in_other (F : Interp) (q i s st : ByteArray) (S M L : Nat) (w : World) (hF : F.answers w.tape) (hc : w.cell? ⟨S, 9, none⟩ = some (.map (some M)))
    (hl : (Instr.lookup 55 (.map (some M)) (.string q) false).run Tryf.prog w = .ok (.pointer (some ⟨L, 0, none⟩)) w)
    (hi : w.cell? ⟨L, 0, none⟩ = some (.string i)) (hs : w.cell? ⟨L, 10, none⟩ = some (.string s)) (hne : (s.toList == st.toList) = false) :
    Calls Tryf.prog 16 #[.pointer (some ⟨S, 0, none⟩), .string q, .string st] w fun e w' =>
      (∃ p : Addr, e = .returned (.tuple #[.pointer none, .iface 82 (.pointer (some p))])) ∧ Below w.heap.size w w' := by
  have hlt : L < w.heap.size := World.block_lt_of_cell? _ _ hi
  go_enter Tryf.func16, Tryf.ntmps16
  go_wp2_with fail
  go_region_held3 (fun w' => w'.cell? ⟨L, 0, none⟩ = some (.string i) ∧ w'.cell? ⟨L, 10, none⟩ = some (.string s))
    (first | go_keep | (go_split_ands; refine ⟨(hb.cell (by simp; omega)).trans (by go_simp), (hb.cell (by simp; omega)).trans (by go_simp)⟩))
    (first | (go_at_call 21; refine (errorf_other F i s st _ _ (by exact hF) (by go_simp) (by go_simp) (by go_simp)).mono ?_; rintro e w' ⟨⟨p, rfl⟩, hb⟩))
  all_goals
    go_wp2
    go_ret2
    exact ⟨⟨_, rfl⟩, ((Below.refl _ _).drew.alloc (Nat.le_refl _) _).trans (hb.mono (by simp))⟩
end Go.Proofs.Qxb6618684aFmt
