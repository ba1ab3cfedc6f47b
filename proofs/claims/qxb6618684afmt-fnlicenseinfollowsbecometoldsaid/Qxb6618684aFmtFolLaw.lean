import Derived.Test.Qxb6618684aFmtFol
namespace Go.Proofs.Qxb6618684aFmt
open Go.RowKit Go.Extern.Stop Go.Stop Go.Extern

set_option maxRecDepth 100000 in
set_option maxHeartbeats 2000000 in
theorem follows_on (F : Interp) (id q cur want next reason : ByteArray) (d : Int) (w : World) (hF : F.answers w.tape) (h0 : -9223372036854775808 ≤ d) (h1 : d ≤ 9223372036854775807) (hid : id.size ≤ maxLen) (hq : q.size ≤ maxLen) :
    Calls Tryf.prog 3 #[.string id, .string q, .string cur, .string want, .string next, .int .i64 d, .string reason] w fun e w' => e = .returned (.bool true) ∧ Below w.heap.size w w' := by
  obtain ⟨n, hn⟩ : ∃ n, n = d % 1000000000 := ⟨_, rfl⟩
  obtain ⟨s, hs⟩ : ∃ s, s = d / 1000000000 := ⟨_, rfl⟩
  have HN : Hid (n = d % 1000000000) := hn
  have HS : Hid (s = d / 1000000000) := hs
  clear hn hs
  go_enter Tryf.func3, Tryf.ntmps3
  go_wp2_with fail
  refine (bytes5 id q cur want next reason d w).mono ?_
  rintro e w' ⟨⟨b, rfl, -⟩, rfl⟩
  cases b with
  | false =>
    go_wp2
    go_ret
    exact ⟨rfl, Below.refl _ _⟩
  | true =>
    by_cases l0 : (131072 : Int) < id.size
    · go_wp2_with fail
      go_ret
      exact ⟨rfl, Below.refl _ _⟩
    by_cases l1 : (131072 : Int) < q.size
    · go_wp2_with fail
      go_ret
      exact ⟨rfl, Below.refl _ _⟩
    by_cases l2 : (131072 : Int) < cur.size
    · go_wp2_with fail
      go_ret
      exact ⟨rfl, Below.refl _ _⟩
    by_cases l3 : (131072 : Int) < want.size
    · go_wp2_with fail
      go_ret
      exact ⟨rfl, Below.refl _ _⟩
    by_cases l4 : (131072 : Int) < next.size
    · go_wp2_with fail
      go_ret
      exact ⟨rfl, Below.refl _ _⟩
    by_cases l5 : (131072 : Int) < reason.size
    · go_wp2_with fail
      go_ret
      exact ⟨rfl, Below.refl _ _⟩
    go_wp2_with fail
    refine (newState _).mono ?_
    rintro e w1 ⟨rfl, rfl⟩
    clear l0 l1 l2 l3 l4 l5
    have hrec := one_record id cur w' hid
    unfold licCells at hrec
    go_wp2_with fail
    refine hrec.mono ?_
    rintro e w1 ⟨rfl, hone⟩
    clear hrec
    have hF1 : F.answers w1.tape := by rw [hone.below.tape]; exact hF
    have hz1 := hone.size
    have hb0 := hone.below
    have lid := hone.map.lookup hid
    have lq := hone.map.lookup hq
    rw [if_pos rfl] at lid
    have c9 := hone.c9
    have k0 : w1.cell? ⟨w'.heap.size, 0, none⟩ = some (.string id) := by rw [cell_of_row _ _ _ _ _ _ hone.blk]; rfl
    have k10 : w1.cell? ⟨w'.heap.size, 10, none⟩ = some (.string cur) := by rw [cell_of_row _ _ _ _ _ _ hone.blk]; rfl
    have k11 : w1.cell? ⟨w'.heap.size, 11, none⟩ = some (.slice none 0 0) := by rw [cell_of_row _ _ _ _ _ _ hone.blk]; rfl
    have f10 := frozen_of_row hone.blk 10
    have f11 := frozen_of_row hone.blk 11
    cases hqi : (q.toList == id.toList) with
    | true =>
      have hqe := toList_eq hqi
      subst hqe
      clear hqi lq
      go_wp2_with fail
      refine (zin_any F q q cur want _ _ w'.heap.size w1 hF1 c9 lid k0 k10).mono ?_
      rintro e w2 ⟨r1, ev1, rfl, ha1, hb1⟩
      have hn1 := ha1.neq
      have hn1' := ha1.guard
      clear lid
      go_wp2_with fail
      refine (zbecome' n s w'.heap.size (.string cur) next reason q d HN HS w2 h0 h1 (cell_later hb1 k10) (cell_later hb1 k11) ((hb1.frozen (p := ⟨w'.heap.size, 10, none⟩) (by simp; omega)).trans f10) ((hb1.frozen (p := ⟨w'.heap.size, 11, none⟩) (by simp; omega)).trans f11) (cell_later hb1 k0)).mono ?_
      rintro e w3 ⟨rfl, c0, c10, ⟨g, cap, c11, g0, g1, g2, g3, g4⟩, hT⟩
      have hz2 := hb1.size
      have hb3 : Below w'.heap.size w' w3 := (hb0.trans (hb1.mono (by omega))).trans (hT.below _ (fun x e => by rw [e]; exact Nat.le_refl _) (by omega))
      have hF3 : F.answers w3.tape := by rw [hb3.tape]; exact hF
      have d9 : w3.cell? ⟨w'.heap.size + 1 + 1, 9, none⟩ = some (.map (some (w'.heap.size + 1))) := (World.cell?_of_block (a := ⟨w'.heap.size + 1 + 1, 9, none⟩) (hT.block (w'.heap.size + 1 + 1) (by omega) (by omega))).trans (cell_later hb1 c9)
      have hm3 : MapIs w3 (w'.heap.size + 1) 1 _ := hone.map.stays ((hT.block (w'.heap.size + 1) (by omega) (by omega)).trans (hb1.block _ (by omega)))
      have l3 := hm3.lookup hid
      rw [if_pos rfl] at l3
      clear hm3
      go_wp2_with fail
      refine (zin_any F q q next want _ _ w'.heap.size w3 hF3 d9 l3 c0 c10).mono ?_
      rintro e w4 ⟨r2, ev2, rfl, ha2, hb2⟩
      have hn2 := ha2.neq
      have hn2' := ha2.guard
      clear l3
      have c10' := cell_later hb2 c10
      have c11' := cell_later hb2 c11
      have g0' := cell_later hb2 g0
      have g1' := cell_later hb2 g1
      have g2' := cell_later hb2 g2
      have g3' := cell_later hb2 g3
      have g4' := cell_later hb2 g4
      have l4 := (hone.map.stays ((hT.block (w'.heap.size + 1) (by omega) (by omega)).trans (hb1.block _ (by omega))) |>.stays (hb2.block _ (by have := hT.size; omega))).lookup hid
      rw [if_pos rfl] at l4
      go_wp2_with fail
      refine (zin_yes q next _ _ w'.heap.size w4 (cell_later hb2 d9) l4 c10').mono ?_
      rintro e w5 ⟨rfl, rfl⟩
      clear l4
      go_wp2_with fail
      refine (answer_any w'.heap.size _ r1 ev1 ha1 _).mono ?_
      rintro e w6 ⟨rfl, rfl⟩
      go_wp2_with fail
      refine (answer_any w'.heap.size _ r2 ev2 ha2 _).mono ?_
      rintro e w7 ⟨rfl, rfl⟩
      have hsn := same23n
      go_wp2_with fail
      refine (eventIs' d n s HN HS next reason _ h0 h1).mono ?_
      rintro e w8 ⟨rfl, hb8⟩
      go_wp2
      go_ret
      exact ⟨rfl, (hb3.trans (hb2.mono hb3.size)).trans (hb8.mono (by have := hb3.size; have := hb2.size; omega))⟩
    | false =>
      have hne : ¬ q.data.toList = id.data.toList := fun e => by
        rw [Go.WideShapes.bytes_inj e] at hqi
        simp at hqi
      rw [if_neg hne] at lq
      go_wp2_with fail
      refine (zin_none F q want _ _ w1 hF1 c9 lq).mono ?_
      rintro e w2 ⟨⟨p1, rfl⟩, hb1⟩
      clear lid lq
      go_wp2_with fail
      refine (zbecome' n s w'.heap.size (.string cur) next reason id d HN HS w2 h0 h1 (cell_later hb1 k10) (cell_later hb1 k11) ((hb1.frozen (p := ⟨w'.heap.size, 10, none⟩) (by simp; omega)).trans f10) ((hb1.frozen (p := ⟨w'.heap.size, 11, none⟩) (by simp; omega)).trans f11) (cell_later hb1 k0)).mono ?_
      rintro e w3 ⟨rfl, c0, c10, ⟨g, cap, c11, g0, g1, g2, g3, g4⟩, hT⟩
      have hz2 := hb1.size
      have hb3 : Below w'.heap.size w' w3 := (hb0.trans (hb1.mono (by omega))).trans (hT.below _ (fun x e => by rw [e]; exact Nat.le_refl _) (by omega))
      have hF3 : F.answers w3.tape := by rw [hb3.tape]; exact hF
      have d9 : w3.cell? ⟨w'.heap.size + 1 + 1, 9, none⟩ = some (.map (some (w'.heap.size + 1))) := (World.cell?_of_block (a := ⟨w'.heap.size + 1 + 1, 9, none⟩) (hT.block (w'.heap.size + 1 + 1) (by omega) (by omega))).trans (cell_later hb1 c9)
      have hm3 : MapIs w3 (w'.heap.size + 1) 1 _ := hone.map.stays ((hT.block (w'.heap.size + 1) (by omega) (by omega)).trans (hb1.block _ (by omega)))
      have l3 := hm3.lookup hq
      rw [if_neg hne] at l3
      clear hm3
      go_wp2_with fail
      refine (zin_none F q want _ _ w3 hF3 d9 l3).mono ?_
      rintro e w4 ⟨⟨p2, rfl⟩, hb2⟩
      clear l3
      have c10' := cell_later hb2 c10
      have c11' := cell_later hb2 c11
      have g0' := cell_later hb2 g0
      have g1' := cell_later hb2 g1
      have g2' := cell_later hb2 g2
      have g3' := cell_later hb2 g3
      have g4' := cell_later hb2 g4
      have l4 := (hone.map.stays ((hT.block (w'.heap.size + 1) (by omega) (by omega)).trans (hb1.block _ (by omega))) |>.stays (hb2.block _ (by have := hT.size; omega))).lookup hid
      rw [if_pos rfl] at l4
      go_wp2_with fail
      refine (zin_yes id next _ _ w'.heap.size w4 (cell_later hb2 d9) l4 c10').mono ?_
      rintro e w5 ⟨rfl, rfl⟩
      clear l4
      go_wp2_with fail
      refine (answer_no _ _).mono ?_
      rintro e w6 ⟨rfl, rfl⟩
      go_wp2_with fail
      refine (answer_no _ _).mono ?_
      rintro e w7 ⟨rfl, rfl⟩
      have hsn := same23n
      go_wp2_with fail
      refine (eventIs' d n s HN HS next reason _ h0 h1).mono ?_
      rintro e w8 ⟨rfl, hb8⟩
      go_wp2
      go_ret
      exact ⟨rfl, (hb3.trans (hb2.mono hb3.size)).trans (hb8.mono (by have := hb3.size; have := hb2.size; omega))⟩
end Go.Proofs.Qxb6618684aFmt
