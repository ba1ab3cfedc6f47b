import Derived.Test.Qxb6618684aFmtInv
namespace Go.Proofs.Qxb6618684aFmt
open Go.RowKit Go.Extern.Stop Go.Stop Go.Extern

theorem strAt' (w : World) (v : Value) (ss : List ByteArray) (k : Nat) (s : ByteArray) (hv : Strs w v ss) (hn : ss.length ≤ 1000000) (hs : Hid (s = ss.getD k ByteArray.empty)) :
    Calls Tryf.prog 14 #[v, .int .i64 k] w fun e w' => e = .returned (.string s) ∧ w' = w := by
  rw [hs.out]
  exact strAt w v ss k hv hn

set_option maxRecDepth 100000 in
set_option maxHeartbeats 2000000 in
theorem law_on (F : Interp) (a0 a1 : Option Addr) (c0 c1 : Nat) (ss tt : List ByteArray) (q x : ByteArray) (w : World) (hF : F.answers w.tape) (hv0 : Strs w (.slice a0 ss.length c0) ss) (hv1 : Strs w (.slice a1 tt.length c1) tt)
    (hss : ∀ j, (ss.getD j ByteArray.empty).size ≤ maxLen) (hq : q.size ≤ maxLen) :
    Calls Tryf.prog 4 #[.slice a0 ss.length c0, .slice a1 tt.length c1, .string q, .string x] w fun e w' => e = .returned (.bool true) ∧ Below w.heap.size w w' := by
  go_enter Tryf.func4, Tryf.ntmps4
  go_wp2_with fail
  refine (bytes12 w _ _ ss tt q x hv0 hv1).mono ?_
  rintro e w' ⟨⟨b, rfl, hb⟩, rfl⟩
  cases b with
  | false =>
    go_wp2
    go_ret
    exact ⟨rfl, Below.refl _ _⟩
  | true =>
    obtain ⟨n0, n1⟩ := hb rfl
    clear hb
    by_cases l0 : (1024 : Int) < ss.length
    · go_wp2_with fail
      go_ret
      exact ⟨rfl, Below.refl _ _⟩
    by_cases l1 : (4096 : Int) < tt.length
    · go_wp2_with fail
      go_ret
      exact ⟨rfl, Below.refl _ _⟩
    by_cases l2 : (1048576 : Int) < q.size
    · go_wp2_with fail
      go_ret
      exact ⟨rfl, Below.refl _ _⟩
    by_cases l3 : (1048576 : Int) < x.size
    · go_wp2_with fail
      go_ret
      exact ⟨rfl, Below.refl _ _⟩
    by_cases l4 : (1048576 : Int) < q.size + x.size
    · go_wp2_with fail
      go_ret
      exact ⟨rfl, Below.refl _ _⟩
    go_wp2_with fail
    refine (strsBytes _ _ ss _ hv0 (by omega) (by omega) (by omega)).mono ?_
    rintro e w' ⟨⟨r, r0, r1, rfl⟩, rfl⟩
    by_cases l5 : (1048576 : Int) < r
    · go_wp2_with fail
      go_ret
      exact ⟨rfl, Below.refl _ _⟩
    go_wp2_with fail
    refine (strsBytes _ _ tt _ hv1 (by omega) (by omega) (by omega)).mono ?_
    rintro e w' ⟨⟨r', r0', r1', rfl⟩, rfl⟩
    by_cases l6 : (1048576 : Int) < r'
    · go_wp2_with fail
      go_ret
      exact ⟨rfl, Below.refl _ _⟩
    go_wp2_with fail
    refine (newState _).mono ?_
    rintro e w' ⟨rfl, rfl⟩
    have hmk := fun wx => run_ls wx ss.length (by omega)
    go_wp2_with fail
    go_loopw [12] (fun i wr => ∃ (k : Nat) (lp : Nat → Nat), k ≤ ss.length ∧ i = .int .i64 k ∧ Inv w' wr (w'.heap.size + 1) w'.heap.size (w'.heap.size + 1 + 1) k ss.length ss tt lp) (fun i _ => ss.length - (intOf i).toNat)
    case atStart => exact ⟨0, fun _ => 0, Nat.zero_le _, rfl, inv_start w' ss tt⟩
    case round =>
      obtain ⟨k, lp, hk, rfl, hinv⟩ := hrel
      clear hmk
      by_cases hlt : k < ss.length
      · obtain ⟨b, off, rfl, hck⟩ := (hv0.later hinv.below).cell hlt
        have hid := hss k
        obtain ⟨id, hidn⟩ : ∃ s, s = ss.getD k ByteArray.empty := ⟨_, rfl⟩
        have HN : Hid (id = ss.getD k ByteArray.empty) := hidn
        rw [← hidn] at hck hid
        clear hidn
        obtain ⟨st, hstn⟩ : ∃ s, s = tt.getD k ByteArray.empty := ⟨_, rfl⟩
        have HT : Hid (st = tt.getD k ByteArray.empty) := hstn
        clear hstn
        obtain ⟨⟨v, hBk⟩, hfk⟩ := hinv.ls k hlt
        have lt1 := hinv.lt
        have lt2 : b < wr.heap.size := World.block_lt_of_cell? _ _ hck
        go_wp2_with fail
        go_region_held3 (fun w'' => w''.cell? ⟨b, off + k, none⟩ = some (.string id)) (go_keep)
          (first | (go_at_call 14; refine (strAt' _ _ tt k st (by exact hv1.later hinv.below.drew) (by omega) HT).mono ?_; rintro e w'' ⟨rfl, rfl⟩))
        have hrec := inv_record hinv hlt (by omega) (Nat.le_refl _) (Nat.lt_succ_self _) (Nat.lt_succ_self _) id st HN.out HT.out hid
        unfold W1 licCells at hrec
        go_wp2_with fail
        refine hrec.mono ?_
        rintro e w'' ⟨rfl, lp', hinv'⟩
        clear hrec
        go_wp2
        go_roundw
        case rel => exact ⟨k + 1, lp', by omega, by go_num, hinv'⟩
        case measure => simp [intOf]; omega
      · have hkn : k = ss.length := by omega
        subst hkn
        have hlt0 := hinv.lt
        have hsz0 := hinv.below.size
        go_wp2_with fail
        go_loopw [14] (fun i w2 => ∃ k : Nat, k ≤ ss.length ∧ i = .int .i64 k ∧ Below wr.heap.size wr w2) (fun i _ => ss.length - (intOf i).toNat)
        case atStart => exact ⟨0, Nat.zero_le _, rfl, Below.refl _ _⟩
        case round =>
          obtain ⟨k, hk', rfl, hb2⟩ := hrel
          have hb3 : Below w'.heap.size w' wr := hinv.below.trans (hb2.mono (by omega))
          have hF2 : F.answers wr.tape := by rw [hb3.tape]; exact hF
          by_cases hlt2 : k < ss.length
          · obtain ⟨b, off, rfl, hck⟩ := (hv0.later hb3).cell hlt2
            have hid := hss k
            obtain ⟨id, hidn⟩ : ∃ s, s = ss.getD k ByteArray.empty := ⟨_, rfl⟩
            rw [← hidn] at hck hid
            clear hidn
            have lt2 : b < wr.heap.size := World.block_lt_of_cell? _ _ hck
            obtain ⟨st, hstn⟩ : ∃ s, s = tt.getD k ByteArray.empty := ⟨_, rfl⟩
            have HT : Hid (st = tt.getD k ByteArray.empty) := hstn
            clear hstn
            go_wp2_with fail
            go_region_held3 (fun w'' => w''.cell? ⟨b, off + k, none⟩ = some (.string id)) (first | go_keep | exact cell_later hbq (by go_simp))
              (first
                | (go_at_call 14; refine (strAt' _ _ tt k st (by exact hv1.later hb3.drew) (by omega) HT).mono ?_; rintro e w'' ⟨rfl, rfl⟩)
                | (go_at_call 15; refine (query F id st _ _ _ _ _ _ ss tt lp _ (by exact hF2) hid (by exact hinv.book.later hb2.drew) (by exact hv0.later hb3.drew) (by omega) (by exact hv1.later hb3.drew) (by omega)).mono ?_; rintro e w'' ⟨rfl, hbq⟩))
            have hb4 := hb2.drew.trans (hbq.mono (by exact hb2.size))
            have hb5 : Below w'.heap.size w' w'' := hinv.below.trans (hb4.mono (by omega))
            have hF3 : F.answers w''.tape := by rw [hb5.tape]; exact hF
            go_wp2_with fail
            refine (query F id x _ _ _ _ _ _ ss tt lp _ hF3 hid (hinv.book.later hb4) (hv0.later hb5) (by omega) (hv1.later hb5) (by omega)).mono ?_
            rintro e w3 ⟨rfl, hbq2⟩
            go_wp2
            go_roundw
            case rel => exact ⟨k + 1, by omega, by go_num, hb4.trans (hbq2.mono hb4.size)⟩
            case measure => simp [intOf]; omega
          · go_wp2_with fail
            refine (query F q x _ _ _ _ _ _ ss tt lp _ hF2 hq (hinv.book.later hb2) (hv0.later hb3) (by omega) (hv1.later hb3) (by omega)).mono ?_
            rintro e w3 ⟨rfl, hbq2⟩
            go_wp2
            go_ret
            exact ⟨rfl, hb3.trans (hbq2.mono hb3.size)⟩
end Go.Proofs.Qxb6618684aFmt
