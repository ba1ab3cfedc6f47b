import Derived.Test.Qxb6618684aFmtStop
import Derived.WalkKit
import Derived.WalkSpells
namespace Go.Proofs.Qxb6618684aFmt
open Go.RowKit Go.Extern.Stop Go.Stop Go.Extern
attribute [local go_sem] Tryf.call27 Tryf.guard Tryf.fmt0 Tryf.fmt0r Tryf.fmt1 Tryf.fmt1r Tryf.op9_115w Tryf.op24_115w Tryf.ptr82 Tryf.elem82 Tryf.isError82'

set_option maxHeartbeats 400000 in
theorem errorf_none (F : Interp) (q : ByteArray) (b : Nat) (w : World) (hF : F.answers w.tape) (hc : w.cell? ⟨b, 0, none⟩ = some (.iface 9 (.string q))) :
    Calls Tryf.prog 21 #[.string ⟨#[110, 111, 32, 108, 105, 99, 101, 110, 99, 101, 32, 37, 115, 32, 105, 115, 32, 114, 101, 99, 111, 114, 100, 101, 100]⟩, .slice (some ⟨b, 0, none⟩) 1 1] w fun e w' =>
      (∃ p : Addr, e = .returned (.iface 82 (.pointer (some p)))) ∧ Below w.heap.size w w' := by
  have hF' := answers_open hF
  go_enter Tryf.func21, Tryf.ntmps21
  go_wp2
  go_ret
  exact ⟨⟨_, rfl⟩, ((Below.refl _ _).alloc (Nat.le_refl _) _).drew⟩

set_option maxHeartbeats 400000 in
theorem errorf_other (F : Interp) (q s t : ByteArray) (b : Nat) (w : World) (hF : F.answers w.tape) (hc : w.cell? ⟨b, 0, none⟩ = some (.iface 9 (.string q)))
    (hc1 : w.cell? ⟨b, 1, none⟩ = some (.iface 24 (.string s))) (hc2 : w.cell? ⟨b, 2, none⟩ = some (.iface 24 (.string t))) :
    Calls Tryf.prog 21 #[.string ⟨#[108, 105, 99, 101, 110, 99, 101, 32, 37, 115, 32, 105, 115, 32, 37, 115, 44, 32, 110, 111, 116, 32, 37, 115]⟩, .slice (some ⟨b, 0, none⟩) 3 3] w fun e w' =>
      (∃ p : Addr, e = .returned (.iface 82 (.pointer (some p)))) ∧ Below w.heap.size w w' := by
  have hF' := answers_open hF
  go_enter Tryf.func21, Tryf.ntmps21
  go_wp2
  go_ret
  exact ⟨⟨_, rfl⟩, ((Below.refl _ _).alloc (Nat.le_refl _) _).drew⟩

end Go.Proofs.Qxb6618684aFmt
