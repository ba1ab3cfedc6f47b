import Derived.Test.Qxb6618684aFmtBec
import Derived.Test.Qxb6618684aFmtSize
import Derived.Test.Qxb6618684aFmtInv
namespace Go.Proofs.Qxb6618684aFmt
open Go.RowKit Go.Extern.Stop Go.Stop Go.Extern

set_option maxHeartbeats 1000000 in
theorem bytes5 (id q cur want next reason : ByteArray) (d : Int) (w : World) :
    Calls Tryf.prog 5 #[.string id, .string q, .string cur, .string want, .string next, .int .i64 d, .string reason] w fun e w' => BoolEnd e True ∧ w' = w := by
  go_enter Tryf.func5, Tryf.ntmps5
  go_wp2
  all_goals
    go_ret
    exact ⟨⟨_, rfl, fun _ => trivial⟩, rfl⟩

/-- What licenseIn answers where licence L is found: it, and no error, just if A; else nil, and an error. -/
def Ans (L : Nat) (A : Bool) (r ev : Value) : Prop := (A = true ∧ r = .pointer (some ⟨L, 0, none⟩) ∧ ev = .nilIface) ∨ (A = false ∧ r = .pointer none ∧ ∃ p : Addr, ev = .iface 82 (.pointer (some p)))

theorem Ans.neq {L : Nat} {A : Bool} {r ev : Value} (h : Ans L A r ev) (w : World) : (binOp .neq 37 ev .nilIface).run Tryf.prog w = .ok (.bool (!A)) w := by
  rcases h with ⟨rfl, _, rfl⟩ | ⟨rfl, _, p, rfl⟩
  · go_simp
  · go_simp

theorem Ans.guard {L : Nat} {A : Bool} {r ev : Value} (h : Ans L A r ev) (w : World) (x : Operand) (c : Value) : (eqGuard .neq 37 x (.const c) ev .nilIface).run Tryf.prog w = .ok () w := by
  rcases h with ⟨rfl, _, rfl⟩ | ⟨rfl, _, p, rfl⟩
  · simp [eqGuard]
  · simp [eqGuard]

theorem same23n (w : World) (a : Addr) : (binOp .neq 23 (.pointer (some a)) (.pointer (some a))).run Tryf.prog w = .ok (.bool false) w := by
  obtain ⟨j, hj⟩ := inf32
  have h : ∀ d : Nat, (Op.equalIn (d + 1) 23 (.pointer (some a)) (.pointer (some a))).run Tryf.prog w = .ok true w := fun d => by
    simp [Op.equalIn, run_underlying Tryf.underlying23, sizeOf, typeInfo, hj, run_sameAddr_same]
  simp only [binOp]
  simp [Op.equal, Op.maxDepth, h 9999]

theorem answer_any (L : Nat) (A : Bool) (r ev : Value) (h : Ans L A r ev) (w : World) : Calls Tryf.prog 10 #[r, .bool (!A), .bool A, .pointer (some ⟨L, 0, none⟩)] w fun e w' => e = .returned (.bool true) ∧ w' = w := by
  rcases h with ⟨rfl, rfl, rfl⟩ | ⟨rfl, rfl, p, rfl⟩
  · exact answer_yes _ _
  · exact answer_no _ _

theorem zin_any (F : Interp) (q i s st : ByteArray) (S M L : Nat) (w : World) (hF : F.answers w.tape) (hc : w.cell? ⟨S, 9, none⟩ = some (.map (some M)))
    (hl : (Instr.lookup 55 (.map (some M)) (.string q) false).run Tryf.prog w = .ok (.pointer (some ⟨L, 0, none⟩)) w)
    (hi : w.cell? ⟨L, 0, none⟩ = some (.string i)) (hs : w.cell? ⟨L, 10, none⟩ = some (.string s)) :
    Calls Tryf.prog 8 #[.pointer (some ⟨S, 0, none⟩), .string q, .string st] w fun e w' => ∃ r ev, e = .returned (.tuple #[r, ev]) ∧ Ans L (st.toList == s.toList) r ev ∧ Below w.heap.size w w' := by
  cases e : (s.toList == st.toList)
  · have e' : (st.toList == s.toList) = false := by
      cases h : (st.toList == s.toList)
      · rfl
      · have h' := toList_eq h
        subst h'
        simp at e
    refine (zin_other F q i s st S M L w hF hc hl hi hs e).mono ?_
    rintro e2 w' ⟨⟨p, rfl⟩, hb⟩
    exact ⟨_, _, rfl, Or.inr ⟨e', rfl, p, rfl⟩, hb⟩
  · have := toList_eq e
    subst this
    refine (zin_yes q s S M L w hc hl hs).mono ?_
    rintro e2 w' ⟨rfl, rfl⟩
    exact ⟨_, _, rfl, Or.inl ⟨by simp, rfl, rfl⟩, Below.refl _ _⟩

theorem Turned.below {a b : World} {may : Nat → Prop} (h : Turned a b may) (B : Nat) (hm : ∀ x, may x → B ≤ x) (hB : B ≤ a.heap.size) : Below B a b :=
  ⟨h.os, h.tape, h.output, h.size, fun k hk => h.block k (by omega) (fun e => by have := hm k e; omega)⟩

/-- What holds behind the one record: the state's field, the map, the licence's block. -/
structure One (w wr : World) (id cur : ByteArray) : Prop where
  below : Below w.heap.size w wr
  c9 : wr.cell? ⟨w.heap.size + 1 + 1, 9, none⟩ = some (.map (some (w.heap.size + 1)))
  map : MapIs wr (w.heap.size + 1) 1 (fun kl => if kl = id.data.toList then .pointer (some ⟨w.heap.size, 0, none⟩) else .pointer none)
  blk : wr.heap[w.heap.size]? = some (.cells (licCells id cur) 32)
  size : w.heap.size + 3 ≤ wr.heap.size

theorem one_record (id cur : ByteArray) (w : World) (hid : id.size ≤ maxLen) :
    Calls Tryf.prog 7 #[.pointer (some ⟨w.heap.size + 1 + 1, 0, none⟩), .pointer (some ⟨w.heap.size, 0, none⟩)]
      (((w.alloc (.cells (licCells id cur) 32)).alloc (.map #[] 0)).alloc (.cells (stateCells (w.heap.size + 1)) 63)) fun e w' => e = .returned (.tuple #[]) ∧ One w w' id cur := by
  have e1 : (w.alloc (.cells (licCells id cur) 32)).heap.size = w.heap.size + 1 := by simp
  have e2 : ((w.alloc (.cells (licCells id cur) 32)).alloc (.map #[] 0)).heap.size = w.heap.size + 1 + 1 := by simp
  have e3 : (((w.alloc (.cells (licCells id cur) 32)).alloc (.map #[] 0)).alloc (.cells (stateCells (w.heap.size + 1)) 63)).heap.size = w.heap.size + 3 := by simp
  have bS : (((w.alloc (.cells (licCells id cur) 32)).alloc (.map #[] 0)).alloc (.cells (stateCells (w.heap.size + 1)) 63)).heap[w.heap.size + 1 + 1]? = some (.cells (stateCells (w.heap.size + 1)) 63) := by
    rw [← e2]; exact (MapKept.heap_alloc _ _).1
  have bM : MapIs (((w.alloc (.cells (licCells id cur) 32)).alloc (.map #[] 0)).alloc (.cells (stateCells (w.heap.size + 1)) 63)) (w.heap.size + 1) 0 (fun _ => .pointer none) := by
    have := MapIs.made (w.alloc (.cells (licCells id cur) 32))
    rw [e1] at this
    exact this.stays (Below.heap_alloc _ _ _ (by rw [e2]; omega))
  have bL : (((w.alloc (.cells (licCells id cur) 32)).alloc (.map #[] 0)).alloc (.cells (stateCells (w.heap.size + 1)) 63)).heap[w.heap.size]? = some (.cells (licCells id cur) 32) := by
    rw [Below.heap_alloc _ _ _ (by rw [e2]; omega), Below.heap_alloc _ _ _ (by rw [e1]; omega)]
    exact (MapKept.heap_alloc _ _).1
  have hw : Below w.heap.size w (((w.alloc (.cells (licCells id cur) 32)).alloc (.map #[] 0)).alloc (.cells (stateCells (w.heap.size + 1)) 63)) :=
    (((Below.refl _ w).alloc (Nat.le_refl _) _).alloc (by simp) _).alloc (by simp; omega) _
  refine (record (w.heap.size + 1 + 1) (w.heap.size + 1) w.heap.size 0 (w.heap.size + 3) (.slice none 0 0) id [] (fun _ => .pointer none) _
    (by rw [cell_of_row _ _ _ _ _ _ bS]; rfl) (frozen_of_row bS 8) (by rw [cell_of_row _ _ _ _ _ _ bS]; rfl) (by rw [cell_of_row _ _ _ _ _ _ bL]; rfl) hid (by omega) (owns_none _ _ _ _) bM (by omega)
    (by omega) (by omega) (fun g e => by simp [Value.ownBlock] at e) (by omega) (by omega)).mono ?_
  rintro e w' ⟨rfl, hmap, _, _, h9, hT⟩
  refine ⟨rfl, ?_, h9, hmap, ?_, by have := hT.size; omega⟩
  · refine hw.trans (hT.below _ ?_ (by omega))
    rintro x (e | e | e)
    · omega
    · omega
    · simp [Value.ownBlock] at e
  · rw [hT.block _ (by omega) ?_]
    · exact bL
    · rintro (e | e | e)
      · omega
      · omega
      · simp [Value.ownBlock] at e

theorem eventIs' (d n s : Int) (hn : Hid (n = d % 1000000000)) (hs : Hid (s = d / 1000000000)) (st rs : ByteArray) (w : World) (h0 : -9223372036854775808 ≤ d) (h1 : d ≤ 9223372036854775807) :
    Calls Tryf.prog 11 #[.agg #[.string st, .int .u64 n, .int .i64 s, .pointer none, .string rs], .string st, .int .i64 d, .string rs] w fun e w' => e = .returned (.bool true) ∧ Below w.heap.size w w' := by
  rw [hn.out, hs.out]
  exact eventIs d st rs w h0 h1

theorem zbecome' (n s : Int) (L : Nat) (v : Value) (nx rs i : ByteArray) (d : Int) (hn : Hid (n = d % 1000000000)) (hs : Hid (s = d / 1000000000)) (w : World) (h0 : -9223372036854775808 ≤ d) (h1 : d ≤ 9223372036854775807) (h10 : w.cell? ⟨L, 10, none⟩ = some v) (h11 : w.cell? ⟨L, 11, none⟩ = some (.slice none 0 0))
    (f10 : w.frozen? ⟨L, 10, none⟩ = false) (f11 : w.frozen? ⟨L, 11, none⟩ = false) (h00 : w.cell? ⟨L, 0, none⟩ = some (.string i)) :
    Calls Tryf.prog 9 #[.pointer (some ⟨L, 0, none⟩), .string nx, .int .i64 d, .string rs] w fun e w' => e = .returned (.tuple #[]) ∧
      w'.cell? ⟨L, 0, none⟩ = some (.string i) ∧ w'.cell? ⟨L, 10, none⟩ = some (.string nx) ∧ (∃ g cap, w'.cell? ⟨L, 11, none⟩ = some (.slice (some ⟨g, 0, none⟩) 1 cap) ∧
        w'.cell? ⟨g, 0, none⟩ = some (.string nx) ∧ w'.cell? ⟨g, 1, none⟩ = some (.int .u64 n) ∧ w'.cell? ⟨g, 2, none⟩ = some (.int .i64 s) ∧ w'.cell? ⟨g, 3, none⟩ = some (.pointer none) ∧ w'.cell? ⟨g, 4, none⟩ = some (.string rs)) ∧ Turned w w' (fun b => b = L) := by
  refine (zbecome L v nx rs i d w h0 h1 h10 h11 f10 f11 h00).mono ?_
  rintro e w' ⟨rfl, c0, c10, ⟨g, cap, c11, hown⟩, hT⟩
  rw [← hn.out, ← hs.out] at hown
  obtain ⟨_, h2⟩ := hown
  rcases h2 with ⟨h2, _⟩ | ⟨g', cap', cr, hv, _, hh, _, _, _, htk⟩
  · cases h2
  · cases hv
    have at' : ∀ j u, j < 5 → [Value.string nx, .int .u64 n, .int .i64 s, .pointer none, .string rs][j]? = some u → w'.cell? ⟨g, j, none⟩ = some u := fun j u hj hu => by
      rw [cell_of_row _ _ _ _ _ _ hh, ← Array.getElem?_toList]
      rw [← htk, List.getElem?_take_of_lt (by omega)] at hu
      exact hu
    exact ⟨rfl, c0, c10, ⟨g, cap, c11, at' 0 _ (by omega) rfl, at' 1 _ (by omega) rfl, at' 2 _ (by omega) rfl, at' 3 _ (by omega) rfl, at' 4 _ (by omega) rfl⟩, hT⟩
end Go.Proofs.Qxb6618684aFmt
