import Derived.Test.Qxb6618776aRows
import Derived.WalkKit
import Derived.WalkSpells
import Derived.Carry
import Derived.Deep.RegionHeld3
import Derived.Deep.RegionWith
import Derived.LaidEqlPtr
namespace Go.Proofs.Qxb6618776a
open Go.RowKit

/-- The cells of a recentMessages at block m: its table lies two blocks behind it. -/
def recCells (a b : Int) (S m : Nat) : Array Value := #[.int .i64 a, .int .i64 b, .pointer (some ⟨S, 0, none⟩), .int .i32 0, .int .u32 0, .pointer (some ⟨m + 1 + 1, 0, none⟩)]
/-- The cells of its table. -/
def tabCells (m : Nat) : Array Value := #[.iface 74 (.pointer (some ⟨m, 3, none⟩)), .func (.func 18) #[] #[], .slice none 0 0, .map (some (m + 1)), .int .u64 0, .pointer none, .int .u64 0, .int .i64 0, .pointer none]

set_option maxRecDepth 100000 in
set_option maxHeartbeats 400000 in
theorem newRecent (a b : Int) (S : Nat) (w : World) : Calls Try.prog 13 #[.int .i64 a, .int .i64 b, .pointer (some ⟨S, 0, none⟩)] w fun e w' => e = .returned (.pointer (some ⟨w.heap.size, 0, none⟩)) ∧
    w' = ((w.alloc (.cells (recCells a b S w.heap.size) 45)).alloc (.map #[] 0)).alloc (.cells (tabCells w.heap.size) 82) := by
  have hmm := @run_makeMap Try.prog
  go_enter Try.func13, Try.ntmps13
  go_wp2
  go_ret
  exact ⟨rfl, rfl⟩

theorem znewRecent (a b : Int) (S : Nat) (w : World) : Calls Try.prog 6 #[.int .i64 a, .int .i64 b, .pointer (some ⟨S, 0, none⟩)] w fun e w' => e = .returned (.pointer (some ⟨w.heap.size, 0, none⟩)) ∧
    w' = ((w.alloc (.cells (recCells a b S w.heap.size) 45)).alloc (.map #[] 0)).alloc (.cells (tabCells w.heap.size) 82) := by
  go_enter Try.func6, Try.ntmps6
  go_wp2_with fail
  refine (newRecent a b S w).mono ?_
  rintro e w' ⟨rfl, rfl⟩
  go_wp2
  go_ret
  exact ⟨rfl, rfl⟩

/-- The cells of the store's table. -/
def tab15 (t : TypeId) (p : Addr) (f : Fn) (x y : Array Value) (m : Nat) : Array Value := #[.iface t (.pointer (some p)), .func f x y, .slice none 0 0, .map (some m), .int .u64 0, .pointer none, .int .u64 0, .int .i64 0, .pointer none]

set_option maxRecDepth 100000 in
set_option maxHeartbeats 400000 in
theorem newTable15 (p : Addr) (t : TypeId) (f : Fn) (x y : Array Value) (w : World) : Calls Try.prog 15 #[.iface t (.pointer (some p)), .func f x y] w fun e w' => e = .returned (.pointer (some ⟨w.heap.size + 1, 0, none⟩)) ∧ w' = (w.alloc (.map #[] 0)).alloc (.cells (tab15 t p f x y w.heap.size) 86) := by
  have hmm := @run_makeMap Try.prog
  go_enter Try.func15, Try.ntmps15
  go_wp2
  go_ret
  exact ⟨rfl, rfl⟩

set_option maxRecDepth 100000 in
set_option maxHeartbeats 1000000 in
theorem newStore (k f b : Int) (s : ByteArray) (w : World) : Calls Try.prog 12 #[.agg #[.int .i64 k, .int .i64 f, .int .i64 b], .string s] w fun e w' => (∃ S, e = .returned (.pointer (some ⟨S, 0, none⟩))) ∧ Below w.heap.size w w' := by
  have hmm := @run_makeMap Try.prog
  go_enter Try.func12, Try.ntmps12
  go_wp2_with fail
  go_region_with (first | (go_at_call 15; refine (newTable15 _ _ _ _ _ _).mono ?_; rintro e w' ⟨rfl, rfl⟩))
  all_goals
    go_wp2
    go_ret
    exact ⟨⟨_, rfl⟩, (((((((Below.refl _ w).alloc (Nat.le_refl _) _).alloc (by simp) _).alloc (by simp; omega) _).alloc (by simp; omega) _).alloc (by simp; omega) _).alloc (by simp; omega) _).drew⟩

theorem znewStore (k f b : Int) (s : ByteArray) (w : World) : Calls Try.prog 5 #[.int .i64 k, .int .i64 f, .int .i64 b, .string s] w fun e w' => (∃ S, e = .returned (.pointer (some ⟨S, 0, none⟩))) ∧ Below w.heap.size w w' := by
  go_enter Try.func5, Try.ntmps5
  go_wp2_with fail
  refine (newStore k f b s w).mono ?_
  rintro e w' ⟨⟨S, rfl⟩, hb⟩
  go_wp2
  go_ret
  exact ⟨⟨S, rfl⟩, hb⟩

/-- Block m is a recentMessages with its own table. -/
structure Rec (w : World) (m : Nat) (a b : Int) (S : Nat) : Prop where
  own : w.heap[m]? = some (.cells (recCells a b S m) 45)
  tab : w.heap[m + 1 + 1]? = some (.cells (tabCells m) 82)

theorem Rec.later {w w' : World} {m : Nat} {a b : Int} {S : Nat} (h : Rec w m a b S) (hb : Below w.heap.size w w') : Rec w' m a b S :=
  ⟨(hb.block _ (Array.getElem?_eq_some_iff.1 h.own).1).trans h.own, (hb.block _ (Array.getElem?_eq_some_iff.1 h.tab).1).trans h.tab⟩

theorem znewRec (a b : Int) (S : Nat) (w : World) : Calls Try.prog 6 #[.int .i64 a, .int .i64 b, .pointer (some ⟨S, 0, none⟩)] w fun e w' => e = .returned (.pointer (some ⟨w.heap.size, 0, none⟩)) ∧ Rec w' w.heap.size a b S ∧ Below w.heap.size w w' ∧ w.heap.size + 3 ≤ w'.heap.size := by
  refine (znewRecent a b S w).mono ?_
  rintro e w' ⟨rfl, rfl⟩
  have e1 : (w.alloc (.cells (recCells a b S w.heap.size) 45)).heap.size = w.heap.size + 1 := by simp
  have e2 : ((w.alloc (.cells (recCells a b S w.heap.size) 45)).alloc (.map #[] 0)).heap.size = w.heap.size + 1 + 1 := by simp
  refine ⟨rfl, ⟨?_, ?_⟩, (((Below.refl _ w).alloc (Nat.le_refl _) _).alloc (by simp) _).alloc (by simp; omega) _, by simp⟩
  · rw [Below.heap_alloc _ _ _ (by rw [e2]; omega), Below.heap_alloc _ _ _ (by rw [e1]; omega)]
    exact (MapKept.heap_alloc _ _).1
  · rw [← e2]
    exact (MapKept.heap_alloc _ _).1

theorem rd7 (m : Nat) (v : Value) (w : World) (h : w.cell? ⟨m, 5, none⟩ = some v) : Calls Try.prog 7 #[.pointer (some ⟨m, 0, none⟩)] w fun e w' => e = .returned v ∧ w' = w := by
  go_enter Try.func7, Try.ntmps7
  go_wp2
  go_ret
  exact ⟨rfl, rfl⟩
theorem rd8 (m : Nat) (v : Value) (w : World) (h : w.cell? ⟨m, 0, none⟩ = some v) : Calls Try.prog 8 #[.pointer (some ⟨m, 0, none⟩)] w fun e w' => e = .returned v ∧ w' = w := by
  go_enter Try.func8, Try.ntmps8
  go_wp2
  go_ret
  exact ⟨rfl, rfl⟩
theorem rd9 (m : Nat) (v : Value) (w : World) (h : w.cell? ⟨m, 1, none⟩ = some v) : Calls Try.prog 9 #[.pointer (some ⟨m, 0, none⟩)] w fun e w' => e = .returned v ∧ w' = w := by
  go_enter Try.func9, Try.ntmps9
  go_wp2
  go_ret
  exact ⟨rfl, rfl⟩
theorem rd10 (m : Nat) (v : Value) (w : World) (h : w.cell? ⟨m, 2, none⟩ = some v) : Calls Try.prog 10 #[.pointer (some ⟨m, 0, none⟩)] w fun e w' => e = .returned v ∧ w' = w := by
  go_enter Try.func10, Try.ntmps10
  go_wp2
  go_ret
  exact ⟨rfl, rfl⟩
theorem rd11 (m t : Nat) (w : World) (h : w.cell? ⟨m, 5, none⟩ = some (.pointer (some ⟨t, 0, none⟩))) (h2 : w.cell? ⟨t, 2, none⟩ = some (.slice none 0 0)) : Calls Try.prog 11 #[.pointer (some ⟨m, 0, none⟩)] w fun e w' => e = .returned (.int .i64 0) ∧ w' = w := by
  go_enter Try.func11, Try.ntmps11
  go_wp2
  go_ret
  exact ⟨rfl, rfl⟩

/-- The call returned a bool. -/
def BoolEnd (e : Ending) : Prop := ∃ b : Bool, e = .returned (.bool b)

theorem bytes4 (a b c d k f g : Int) (s : ByteArray) (w : World) : Calls Try.prog 4 #[.int .i64 a, .int .i64 b, .int .i64 c, .int .i64 d, .int .i64 k, .int .i64 f, .int .i64 g, .string s] w fun e w' => BoolEnd e ∧ w' = w := by
  go_enter Try.func4, Try.ntmps4
  go_wp2
  all_goals
    go_ret
    exact ⟨⟨_, rfl⟩, rfl⟩

theorem inf45 : ∃ j, Try.prog.info? 45 = some j ∧ j.size ≠ 0 := by
  have h : ((Try.prog.info? 45).map (fun i => i.size)) = some 6 := by kernel_rfl
  obtain ⟨j, hj, e⟩ := Option.map_eq_some_iff.1 h
  exact ⟨j, hj, by omega⟩
theorem inf82 : ∃ j, Try.prog.info? 82 = some j ∧ j.size ≠ 0 := by
  have h : ((Try.prog.info? 82).map (fun i => i.size)) = some 9 := by kernel_rfl
  obtain ⟨j, hj, e⟩ := Option.map_eq_some_iff.1 h
  exact ⟨j, hj, by omega⟩
theorem inf63 : ∃ j, Try.prog.info? 63 = some j := Option.isSome_iff_exists.1 (by kernel_rfl)

theorem neq_ptr {tp te : TypeId} {w : World} {a b : Addr} {ca cb : Array Value} {ta tb : TypeId} (hp : Try.prog.underlying tp = some (.pointer te)) (hi : ∃ j, Try.prog.info? te = some j ∧ j.size ≠ 0)
    (hne : a ≠ b) (ha : w.heap[a.block]? = some (.cells ca ta (0, 0))) (hb : w.heap[b.block]? = some (.cells cb tb (0, 0))) :
    (binOp .neq tp (.pointer (some a)) (.pointer (some b))).run Try.prog w = .ok (.bool true) w := by
  obtain ⟨j, hj, hsz⟩ := hi
  have h : ∀ d : Nat, (Op.equalIn (d + 1) tp (.pointer (some a)) (.pointer (some b))).run Try.prog w = .ok false w := fun d => by
    simp [Op.equalIn, run_underlying hp, sizeOf, typeInfo, hj, hsz, run_sameAddr_other w hne ha hb]
  simp only [binOp]
  simp [Op.equal, Op.maxDepth, h 9999]

theorem eql23 (w : World) (a : Addr) : (binOp .eql 23 (.pointer (some a)) (.pointer (some a))).run Try.prog w = .ok (.bool true) w := by
  obtain ⟨j, hj⟩ := inf63
  exact run_eql_ptr_same w a Try.underlying23 hj
end Go.Proofs.Qxb6618776a
