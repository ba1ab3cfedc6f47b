import Derived.Test.Qxb6618684aFmtIn
import Derived.Test.Qxb6618684aFmtStrs
import Derived.LaidEqlPtr
namespace Go.Proofs.Qxb6618684aFmt
open Go.RowKit Go.Extern.Stop Go.Stop Go.Extern

theorem toList_eq {s t : ByteArray} (h : (s.toList == t.toList) = true) : s = t := by
  have h1 : s.toList = t.toList := by simpa using h
  rw [Go.ByteArray.toList_eq, Go.ByteArray.toList_eq] at h1
  exact Go.WideShapes.bytes_inj h1

theorem inf32 : ∃ j, Tryf.prog.info? 32 = some j := Option.isSome_iff_exists.1 (by kernel_rfl)

theorem same23 (w : World) (a : Addr) : (binOp .eql 23 (.pointer (some a)) (.pointer (some a))).run Tryf.prog w = .ok (.bool true) w := by
  obtain ⟨j, hj⟩ := inf32
  exact run_eql_ptr_same w a Tryf.underlying23 hj

theorem zin_none (F : Interp) (q st : ByteArray) (S M : Nat) (w : World) (hF : F.answers w.tape) (hc : w.cell? ⟨S, 9, none⟩ = some (.map (some M)))
    (hl : (Instr.lookup 55 (.map (some M)) (.string q) false).run Tryf.prog w = .ok (.pointer none) w) :
    Calls Tryf.prog 8 #[.pointer (some ⟨S, 0, none⟩), .string q, .string st] w fun e w' =>
      (∃ p : Addr, e = .returned (.tuple #[.pointer none, .iface 82 (.pointer (some p))])) ∧ Below w.heap.size w w' := by
  go_enter Tryf.func8, Tryf.ntmps8
  go_wp2_with fail
  refine (in_none F q st S M w hF hc hl).mono ?_
  rintro e w' ⟨⟨p, rfl⟩, hb⟩
  go_wp2
  go_ret2
  exact ⟨⟨_, rfl⟩, hb⟩

theorem zin_yes (q st : ByteArray) (S M L : Nat) (w : World) (hc : w.cell? ⟨S, 9, none⟩ = some (.map (some M)))
    (hl : (Instr.lookup 55 (.map (some M)) (.string q) false).run Tryf.prog w = .ok (.pointer (some ⟨L, 0, none⟩)) w)
    (hs : w.cell? ⟨L, 10, none⟩ = some (.string st)) :
    Calls Tryf.prog 8 #[.pointer (some ⟨S, 0, none⟩), .string q, .string st] w fun e w' =>
      e = .returned (.tuple #[.pointer (some ⟨L, 0, none⟩), .nilIface]) ∧ w' = w := by
  go_enter Tryf.func8, Tryf.ntmps8
  go_wp2_with fail
  refine (in_yes q st S M L w hc hl hs).mono ?_
  rintro e w' ⟨rfl, rfl⟩
  go_wp2
  go_ret2
  exact ⟨rfl, rfl⟩

theorem zin_other (F : Interp) (q i s st : ByteArray) (S M L : Nat) (w : World) (hF : F.answers w.tape) (hc : w.cell? ⟨S, 9, none⟩ = some (.map (some M)))
    (hl : (Instr.lookup 55 (.map (some M)) (.string q) false).run Tryf.prog w = .ok (.pointer (some ⟨L, 0, none⟩)) w)
    (hi : w.cell? ⟨L, 0, none⟩ = some (.string i)) (hs : w.cell? ⟨L, 10, none⟩ = some (.string s)) (hne : (s.toList == st.toList) = false) :
    Calls Tryf.prog 8 #[.pointer (some ⟨S, 0, none⟩), .string q, .string st] w fun e w' =>
      (∃ p : Addr, e = .returned (.tuple #[.pointer none, .iface 82 (.pointer (some p))])) ∧ Below w.heap.size w w' := by
  go_enter Tryf.func8, Tryf.ntmps8
  go_wp2_with fail
  refine (in_other F q i s st S M L w hF hc hl hi hs hne).mono ?_
  rintro e w' ⟨⟨p, rfl⟩, hb⟩
  go_wp2
  go_ret2
  exact ⟨⟨_, rfl⟩, hb⟩

theorem Strs.later {w w' : World} {v : Value} {ss : List ByteArray} (h : Strs w v ss) (hb : Below w.heap.size w w') : Strs w' v ss := by
  obtain ⟨a, cap, rfl, hc⟩ := h
  refine ⟨a, cap, rfl, fun h0 => ?_⟩
  obtain ⟨b, off, rfl, hcell⟩ := hc h0
  exact ⟨b, off, rfl, fun j hj => cell_later hb (hcell j hj)⟩

/-- Nothing is recorded under q. -/
theorem query_none (F : Interp) (q st : ByteArray) (S M : Nat) (v0 v1 lv : Value) (ss : List ByteArray) (w : World) (hF : F.answers w.tape) (hc : w.cell? ⟨S, 9, none⟩ = some (.map (some M)))
    (hl : (Instr.lookup 55 (.map (some M)) (.string q) false).run Tryf.prog w = .ok (.pointer none) w)
    (hv0 : Strs w v0 ss) (hn : ss.length ≤ 1000000) (hlast : lastTo ss q ss.length = -1) :
    Calls Tryf.prog 15 #[.pointer (some ⟨S, 0, none⟩), lv, v0, v1, .string q, .string st] w fun e w' => e = .returned (.bool true) ∧ Below w.heap.size w w' := by
  go_enter Tryf.func15, Tryf.ntmps15
  go_wp2_with fail
  refine (zin_none F q st S M w hF hc hl).mono ?_
  rintro e w' ⟨⟨p, rfl⟩, hb⟩
  go_wp2_with fail
  refine (lastIndex w' v0 ss q (hv0.later hb) hn).mono ?_
  rintro e w'' ⟨rfl, rfl⟩
  go_wp2
  go_ret
  exact ⟨rfl, hb⟩

/-- The last one recorded under q stands at another status. -/
theorem query_other (F : Interp) (q st i s : ByteArray) (S M L j : Nat) (v0 v1 lv : Value) (ss tt : List ByteArray) (w : World) (hF : F.answers w.tape) (hc : w.cell? ⟨S, 9, none⟩ = some (.map (some M)))
    (hl : (Instr.lookup 55 (.map (some M)) (.string q) false).run Tryf.prog w = .ok (.pointer (some ⟨L, 0, none⟩)) w)
    (hi : w.cell? ⟨L, 0, none⟩ = some (.string i)) (hs : w.cell? ⟨L, 10, none⟩ = some (.string s)) (hne : (s.toList == st.toList) = false)
    (hv0 : Strs w v0 ss) (hn : ss.length ≤ 1000000) (hv1 : Strs w v1 tt) (hn1 : tt.length ≤ 1000000) (hlast : lastTo ss q ss.length = j) (hj : tt.getD j ByteArray.empty = s) :
    Calls Tryf.prog 15 #[.pointer (some ⟨S, 0, none⟩), lv, v0, v1, .string q, .string st] w fun e w' => e = .returned (.bool true) ∧ Below w.heap.size w w' := by
  have HJ : Hid (tt.getD j ByteArray.empty = s) := hj
  clear hj
  go_enter Tryf.func15, Tryf.ntmps15
  go_wp2_with fail
  refine (zin_other F q i s st S M L w hF hc hl hi hs hne).mono ?_
  rintro e w' ⟨⟨p, rfl⟩, hb⟩
  go_wp2_with fail
  refine (lastIndex w' v0 ss q (hv0.later hb) hn).mono ?_
  rintro e w'' ⟨rfl, rfl⟩
  go_wp2_with fail
  refine (strAt _ v1 tt j (hv1.later hb) hn1).mono ?_
  rintro e w'' ⟨rfl, rfl⟩
  rw [HJ.out]
  go_wp2
  go_ret
  exact ⟨rfl, hb⟩

set_option maxRecDepth 100000 in
/-- The last one recorded under q stands at the status that is asked. -/
theorem query_yes (q st : ByteArray) (S M L B j n cap : Nat) (v0 v1 : Value) (ss tt : List ByteArray) (w : World) (hc : w.cell? ⟨S, 9, none⟩ = some (.map (some M)))
    (hl : (Instr.lookup 55 (.map (some M)) (.string q) false).run Tryf.prog w = .ok (.pointer (some ⟨L, 0, none⟩)) w)
    (hs : w.cell? ⟨L, 10, none⟩ = some (.string st)) (hB : w.cell? ⟨B, j, none⟩ = some (.pointer (some ⟨L, 0, none⟩))) (hjn : j < n)
    (hv0 : Strs w v0 ss) (hn : ss.length ≤ 1000000) (hv1 : Strs w v1 tt) (hn1 : tt.length ≤ 1000000) (hlast : lastTo ss q ss.length = j) (hj : tt.getD j ByteArray.empty = st) :
    Calls Tryf.prog 15 #[.pointer (some ⟨S, 0, none⟩), .slice (some ⟨B, 0, none⟩) n cap, v0, v1, .string q, .string st] w fun e w' => e = .returned (.bool true) ∧ Below w.heap.size w w' := by
  have heq := same23
  have HJ : Hid (tt.getD j ByteArray.empty = st) := hj
  clear hj
  go_enter Tryf.func15, Tryf.ntmps15
  go_wp2_with fail
  refine (zin_yes q st S M L w hc hl hs).mono ?_
  rintro e w' ⟨rfl, rfl⟩
  go_wp2_with fail
  refine (lastIndex _ v0 ss q hv0 hn).mono ?_
  rintro e w'' ⟨rfl, rfl⟩
  go_wp2_with fail
  refine (strAt _ v1 tt j hv1 hn1).mono ?_
  rintro e w'' ⟨rfl, rfl⟩
  rw [HJ.out]
  go_wp2
  go_ret
  exact ⟨rfl, Below.refl _ _⟩
end Go.Proofs.Qxb6618684aFmt
