import Derived.Test.Qxb6618760aFmtInv
import Derived.Deep.RegionHeld3
namespace Go.Proofs.Qxb6618760aFmt
open Go.RowKit Go.Extern.Stop Go.Stop Go.Extern

set_option maxRecDepth 100000 in
set_option maxHeartbeats 2000000 in
theorem law_on (F : Interp) (a0 a1 : Option Addr) (c0 c1 n : Nat) (zs : List Int) (kv : Nat → Value) (kk : Nat → List Int) (w : World) (hF : F.answers w.tape)
    (hz : Bytes w (.slice a0 zs.length c0) zs) (hv : Keys w (.slice a1 n c1) n kv kk) (hk : ∀ j, j < n → ∀ z ∈ kk j, 0 ≤ z ∧ z < 256) :
    Calls Tryf.prog 3 #[.slice a0 zs.length c0, .slice a1 n c1] w fun e w' => e = .returned (.bool true) ∧ Below w.heap.size w w' := by
  have HK : Hid (∀ j, j < n → ∀ z ∈ kk j, 0 ≤ z ∧ z < 256) := hk
  clear hk
  go_enter Tryf.func3, Tryf.ntmps3
  go_wp2_with fail
  refine (bytes5 w a0 a1 c0 c1 n zs kv kk hv).mono ?_
  rintro e w' ⟨⟨b, rfl, hb⟩, rfl⟩
  cases b with
  | false =>
    go_wp2
    go_ret
    exact ⟨rfl, Below.refl _ _⟩
  | true =>
    obtain ⟨l0, l1, hmx⟩ := hb rfl
    have HM : Hid (∀ j, j < n → (kk j).length ≤ 1048576) := hmx
    clear hb hmx
    have l0' : (zs.length : Int) ≤ 1048576 := by omega
    by_cases l2 : (65536 : Int) < n
    · go_wp2_with fail
      go_ret
      exact ⟨rfl, Below.refl _ _⟩
    have hneq := fun (wx : World) (a : Option Addr) (l c : Nat) => run_neq_slice_nil_any (P := Tryf.prog) wx 22 5 a l c 0 0 Tryf.underlying22
    go_upto_if 35 with (fail)
    go_cut [0] (fun s0 wc => ∃ a c, s0 = .slice a zs.length c ∧ Bytes wc (.slice a zs.length c) zs ∧ Below w'.heap.size w' wc)
    case first =>
      cases a0 with
      | none =>
        go_wp2_with fail
        go_meet
        exact ⟨_, _, rfl, hz, Below.refl _ _⟩
      | some ad =>
        have hmk := fun wx => run_mk5 wx zs.length (by omega)
        have HR : Hid ((w'.alloc (.cells (zeros zs.length) 5)).heap[w'.heap.size]? = some (.cells (zeros zs.length).toList.toArray 5 (0, 0))) := by
          show _ = _
          rw [Array.toArray_toList]; exact (MapKept.heap_alloc _ _).1
        go_wp2_with (first
          | (refine wpList_copy_splice rfl (.tmp 39) (.tmp 40) 22 22 rfl 5 Tryf.underlying22 size5 (some ⟨w'.heap.size, 0, none⟩) (some ad) zs.length zs.length zs.length c0 (by rfl) (by rfl) w'.heap.size 0 (zeros zs.length).toList 5 HR.out (zs.map (Value.int .u8)) (by simp)
              (fun _ => ⟨rfl, ad, rfl, (hz.later ((Below.refl _ _).alloc (Nat.le_refl _) _)).cells⟩) (by simp [zeros_size]) (by simp [Value.oneCell']) w'.heap.size w' ((Below.refl _ _).alloc (Nat.le_refl _) _) (Nat.le_refl _) ?_; intro w2 hrow hbel)
          | go_in)
        go_meet
        have hs := hrow.out
        have es : splice (zeros zs.length).toList 0 (zs.map (Value.int .u8)) = zs.map (Value.int .u8) := by
          have : (zeros zs.length).toList.length = zs.length := by simp [zeros_size]
          simp [splice, List.drop_eq_nil_of_le, this]
        rw [es] at hs
        exact ⟨_, _, rfl, Bytes.of_row hs, hbel⟩
    case rest =>
      obtain ⟨a, c, rfl, hz', hbc⟩ := hcut
      clear hz
      by_cases l3 : (1048576 : Int) < zs.length + 8 * n
      · go_wp2_with fail
        go_ret
        exact ⟨rfl, hbc⟩
      go_wp2_with fail
      go_loop [6, 7] (fun t i => ∃ (k : Nat) (m : Int), k ≤ n ∧ i = .int .i64 k ∧ 0 ≤ m ∧ m ≤ 1048576 ∧ t = .int .i64 m ∧ ∀ j, j < k → (kk j).length ≤ 1048576) (fun _ i => n - (intOf i).toNat)
      case atStart => exact ⟨0, _, Nat.zero_le _, rfl, by omega, by omega, rfl, fun j hj => by omega⟩
      case round =>
        obtain ⟨k, m, hkn, rfl, m0, m1, rfl, hlen⟩ := hrel
        have HL : Hid (∀ j, j < k → (kk j).length ≤ 1048576) := hlen
        clear hlen
        by_cases hlt : k < n
        · obtain ⟨b, off, a', c', rfl, hck, _, _⟩ := (hv.later hbc).at hlt
          have hkl : 0 ≤ ((kk k).length : Int) := by omega
          obtain ⟨L, hL⟩ : ∃ L, L = (kk k).length := ⟨_, rfl⟩
          have HL2 : Hid (L = (kk k).length) := hL
          rw [← hL] at hck
          clear hL hkl
          have hLm : (L : Int) ≤ 1048576 := by rw [HL2.out]; have := HM.out k hlt; omega
          by_cases l4 : (1048576 : Int) < m + L
          · go_wp2_with fail
            go_ret
            exact ⟨rfl, hbc⟩
          have l4' : m + (L : Int) ≤ 1048576 := by omega
          clear l4
          go_wp2_with fail
          go_round
          case rel =>
            refine ⟨k + 1, _, by omega, by go_num, by omega, l4', rfl, fun j hj => ?_⟩
            by_cases e : j = k
            · rw [e, ← HL2.out]; omega
            · exact HL.out j (by omega)
          case measure => simp [intOf]; omega
        · have hkn' : n = k := by omega
          subst hkn'
          by_cases l5 : (n : Int) = 0
          · go_wp2_with fail
            go_ret
            exact ⟨rfl, hbc⟩
          have l5' : ((n : Int) == 0) = false := by simpa using l5
          have l6 : 0 < n := by omega
          have hmk2 := fun wx => run_mk22 wx n (by omega)
          clear l3 l5 m0 m1
          go_wp2_with fail
          clear hmk2 l5'
          go_loopw [9] (fun i wr => ∃ (k : Nat) (cp : Nat → Value), k ≤ n ∧ i = .int .i64 k ∧ Inv2 wc wr wc.heap.size k n cp kk) (fun i _ => n - (intOf i).toNat)
          case atStart => exact ⟨0, _, Nat.zero_le _, rfl, inv2_start wc n kk⟩
          case round =>
            obtain ⟨k, cp, hkn2, rfl, hinv⟩ := hrel
            have hbw : Below w'.heap.size w' wr := hbc.trans (hinv.below.mono hbc.size)
            by_cases hlt2 : k < n
            · obtain ⟨b, off, a', c', rfl, hck, hkv, hby⟩ := (hv.later hbw).at hlt2
              have hLk : ((kk k).length : Int) ≤ 1048576 := by have := HL.out k hlt2; omega
              cases a' with
              | none =>
                obtain ⟨a2, c2, e, hnil, _⟩ := hby
                cases e
                obtain ⟨hz0, _⟩ := hnil rfl
                have HZ : Hid (kk k = []) := hz0
                clear hz0 hnil hkv
                go_wp2_with fail
                go_roundw
                case rel => exact ⟨k + 1, cp, by omega, by go_num, hinv.skip hlt2 HZ.out⟩
                case measure => simp [intOf]; omega
              | some ad =>
                clear hkv
                have hmk5 := fun wx => run_mk5 wx (kk k).length (by omega)
                obtain ⟨wo, hwo⟩ : ∃ z, z = wr := ⟨wr, rfl⟩
                subst hwo
                go_wp2_with fail
                clear hmk5 hck hby
                go_loopw [11] (fun j wx => ∃ t : Nat, t ≤ (kk k).length ∧ j = .int .i64 t ∧ Below wo.heap.size wo wx ∧ wo.heap.size < wx.heap.size ∧ Part wx wo.heap.size t (kk k)) (fun j _ => (kk k).length - (intOf j).toNat)
                case atStart => exact ⟨0, Nat.zero_le _, rfl, (Below.refl _ _).alloc (Nat.le_refl _) _, by simp, Part.start wo (kk k)⟩
                case round =>
                  obtain ⟨t, ht, rfl, hbx, hltx, hpart⟩ := hrel
                  have hlo := hinv.lt
                  obtain ⟨b1, off1, a1, c1', e1, hck, _, hby⟩ := (hv.later (hbw.trans (hbx.mono hbw.size))).at hlt2
                  cases e1
                  have ltb : b < wr.heap.size := World.block_lt_of_cell? _ _ hck
                  by_cases ht2 : t < (kk k).length
                  · obtain ⟨a2, c2, e, _, hc2⟩ := hby
                    cases e
                    obtain ⟨b2, off2, rfl, hcell⟩ := hc2 (by omega)
                    have hbt := hcell t ht2
                    obtain ⟨⟨v0, hv0⟩, hf0⟩ := hpart.2 t ht2
                    have hst := hpart.step ht2
                    obtain ⟨z, hz⟩ : ∃ z, z = (kk k).getD t 0 := ⟨_, rfl⟩
                    rw [← hz] at hbt hst
                    clear hz hcell hc2
                    go_wp2_with fail
                    go_roundw
                    case rel => exact ⟨t + 1, by omega, by go_num, hbx.setCell (by simp) _, by simpa using hltx, hst⟩
                    case measure => simp [intOf]; omega
                  · have ht3 : t = (kk k).length := by omega
                    subst ht3
                    obtain ⟨cp', hst⟩ := hinv.store hlt2 hbx hltx hpart
                    have hB1 := (hbx.cell (p := ⟨wc.heap.size, k, none⟩) hlo).trans (hinv.cell k hlt2).1
                    have hB2 := (hbx.frozen (p := ⟨wc.heap.size, k, none⟩) hlo).trans (hinv.cell k hlt2).2
                    clear hby
                    go_wp2_with fail
                    go_roundw
                    case rel => exact ⟨k + 1, cp', by omega, by go_num, hst⟩
                    case measure => simp [intOf]; omega
            · have hkn3 : n = k := by omega
              subst hkn3
              have hc0 := (hinv.cell 0 l6).1
              have hFr : F.answers wr.tape := by rw [hbw.tape]; exact hF
              have hlB := hinv.lt
              obtain ⟨wo, hwo⟩ : ∃ z, z = wr := ⟨wr, rfl⟩
              subst hwo
              go_wp2_with fail
              go_region_held3 (fun w2 => w2.cell? ⟨wc.heap.size, 0, none⟩ = some (cp 0))
                (first | go_keep | (exact cell_later hbe (by go_simp)) | (exact cell_later hbn (cell_later hbe (by go_simp))))
                (first
                  | (go_at_call 7; refine (zerrKey F _ zs _ (by exact hFr) (by exact hz'.later hinv.below.drew)).mono ?_; rintro e w2 ⟨⟨p, rfl⟩, hbe⟩)
                  | (go_at_call 6; refine (zwithin_new (cp 0) _ (kk 0) _ (by exact ((hinv.key 0 l6).bytes.later (Below.refl _ _).drew).later hbe)).mono ?_; rintro e w3 ⟨rfl, ⟨g, cap, hg1, hown⟩, hfz, hbn⟩))
              all_goals
                have hbe2 : Below wo.heap.size wo w2 := ((Below.refl _ _).drew).trans hbe
                have hb23 : Below wo.heap.size wo w3 := hbe2.trans (hbn.mono hbe2.size)
                have hpath : Path w2 w3 w2.heap.size 1 kk := ⟨hbn, by
                  obtain ⟨g', c', e, h1, h2⟩ := hown.form (by omega)
                  omega, hfz, g, cap, hg1, hown⟩
                clear hg1 hown hfz
                go_wp2_with fail
                refine (path_yes _ _).mono ?_
                rintro e w4 ⟨rfl, rfl⟩
                have hsm := same29n
                have hP2 := hbe2.size
                go_wp2_with fail
                go_loopw [12, 15] (fun v12 v15 wr => ∃ i : Nat, 1 ≤ i ∧ i ≤ n ∧ v12 = .iface 29 (.pointer (some ⟨w2.heap.size, 0, none⟩)) ∧ v15 = .int .i64 i ∧ Path w2 wr w2.heap.size i kk) (fun _ i _ => n - (intOf i).toNat)
                case atStart => exact ⟨1, Nat.le_refl _, by omega, rfl, rfl, hpath⟩
                case round =>
                  obtain ⟨i, hi1, hin, rfl, rfl, hpa⟩ := hrel
                  by_cases hlt4 : i < n
                  · have hci : wr.cell? ⟨wc.heap.size, i, none⟩ = some (cp i) := (hpa.below.cell (p := ⟨wc.heap.size, i, none⟩) (by simp; omega)).trans ((hbe2.cell (p := ⟨wc.heap.size, i, none⟩) hlB).trans (hinv.cell i hlt4).1)
                    go_wp2_with fail
                    refine (hpa.grow (by omega) (cp i) (((hinv.key i hlt4).bytes.later hbe2).later hpa.below)).mono ?_
                    rintro e w5 ⟨rfl, hpa'⟩
                    go_wp2_with fail
                    refine (path_yes _ _).mono ?_
                    rintro e w6 ⟨rfl, rfl⟩
                    go_wp2_with fail
                    go_roundw
                    case rel => exact ⟨i + 1, by omega, by omega, rfl, by go_num, hpa'⟩
                    case measure => simp [intOf]; omega
                  · have hin2 : n = i := by omega
                    subst hin2
                    obtain ⟨w5, hw5⟩ : ∃ z, z = wr := ⟨wr, rfl⟩
                    subst hw5
                    have hb5 : Below wo.heap.size wo w5 := hbe2.trans (hpa.below.mono hP2)
                    go_wp2_with fail
                    clear hsm
                    go_loopw [18] (fun i wr => ∃ k : Nat, k ≤ n ∧ i = .int .i64 k ∧ Flip w5 wr wc.heap.size w2.heap.size n cp kk) (fun i _ => n - (intOf i).toNat)
                    case atStart => exact ⟨0, Nat.zero_le _, rfl, ⟨Turned.of_below (Below.refl _ _) _, fun j hj => (hinv.key j hj).room hP2 hb5⟩⟩
                    case round =>
                      obtain ⟨k, hk5, rfl, hfl⟩ := hrel
                      by_cases hlt5 : k < n
                      · obtain ⟨av, ecp, hav⟩ := (hfl.room k hlt5).form
                        have HLk : ((kk k).length : Int) ≤ 1048576 := by have := HL.out k hlt5; omega
                        have ECP : Hid (cp k = .slice av (kk k).length (kk k).length) := ecp
                        clear ecp
                        go_wp2_with fail
                        go_loopw [19] (fun j wx => ∃ t : Nat, t ≤ (kk k).length ∧ j = .int .i64 t ∧ Flip w5 wx wc.heap.size w2.heap.size n cp kk) (fun j _ => (kk k).length - (intOf j).toNat)
                        case atStart => exact ⟨0, Nat.zero_le _, rfl, hfl⟩
                        case round =>
                          obtain ⟨t, ht, rfl, hfx⟩ := hrel
                          have hBk : wr.cell? ⟨wc.heap.size, k, none⟩ = some (.slice av (kk k).length (kk k).length) := by
                            rw [← ECP.out, World.cell?_of_block (w := w5) (a := ⟨wc.heap.size, k, none⟩) (hfx.turned.block wc.heap.size (by have := hb5.size; omega) (by omega)), hb5.cell (p := ⟨wc.heap.size, k, none⟩) hlB]
                            exact (hinv.cell k hlt5).1
                          by_cases ht6 : t < (kk k).length
                          · obtain ⟨cb, hc1, hc2, rfl⟩ := hav (by omega)
                            have hrm := hfx.room k hlt5
                            rw [ECP.out] at hrm
                            obtain ⟨x, hx, hfz6⟩ := hrm.at ht6
                            clear hrm
                            have i1 : (t : Int) < ((kk k).length : Int) := by omega
                            have i2 : (0 : Int) ≤ (t : Int) := by omega
                            have i3 : (k : Int) < (n : Int) := by omega
                            have i4 : (0 : Int) ≤ (k : Int) := by omega
                            go_wp2_with fail
                            go_region
                            all_goals
                              go_wp2_with fail
                              go_roundw
                              case rel => exact ⟨t + 1, by omega, by go_num, (hfx.set hc1 hc2 _).drew⟩
                              case measure => simp [intOf]; omega
                          · go_wp2_with fail
                            go_roundw
                            case rel => exact ⟨k + 1, by omega, by go_num, hfx⟩
                            case measure => simp [intOf]; omega
                      · have hkn5 : n = k := by omega
                        subst hkn5
                        obtain ⟨w7, hw7⟩ : ∃ z, z = wr := ⟨wr, rfl⟩
                        subst hw7
                        obtain ⟨g, cap, hPg, hgc, hgt⟩ := hpa.text
                        have hg5 : g < w5.heap.size := World.block_lt_of_cell? _ _ (hgt 0 l6)
                        have hlt5' := hpa.lt
                        have hgc7 : w7.cell? ⟨w2.heap.size, 1, none⟩ = some (.slice (some ⟨g, 0, none⟩) n cap) :=
                          (World.cell?_of_block (w := w5) (a := ⟨w2.heap.size, 1, none⟩) (hfl.turned.block w2.heap.size (by omega) (by omega))).trans hgc
                        have hgt7 : ∀ j, j < n → w7.cell? ⟨g, j, none⟩ = some (.string (strOf (kk j))) := fun j hj =>
                          (World.cell?_of_block (w := w5) (a := ⟨g, j, none⟩) (hfl.turned.block g hg5 (by omega))).trans (hgt j hj)
                        have HG7 : Hid (∀ j, j < n → w7.cell? ⟨g, j, none⟩ = some (.string (strOf (kk j)))) := hgt7
                        have hb7 : Below w'.heap.size w' w7 := (hbw.trans (hb5.mono hbw.size)).trans (hfl.turned.below _ (fun x hx => by have := hbc.size; omega) (by have := hbw.size; have := hb5.size; omega))
                        clear hgt hgt7 hgc
                        go_wp2_with fail
                        refine (pathKeys _ _ _ hgc7).mono ?_
                        rintro e w8 ⟨rfl, rfl⟩
                        go_wp2_with fail
                        go_loopw [21] (fun i wr => ∃ k : Nat, k ≤ n ∧ i = .int .i64 k ∧ Below w8.heap.size w8 wr) (fun i _ => n - (intOf i).toNat)
                        case atStart => exact ⟨0, Nat.zero_le _, rfl, Below.refl _ _⟩
                        case round =>
                          obtain ⟨k, hk8, rfl, hb8⟩ := hrel
                          by_cases hlt8 : k < n
                          · obtain ⟨b, off, a', c', rfl, hck, _, hby⟩ := (hv.later (hb7.trans (hb8.mono hb7.size))).at hlt8
                            have hgk := cell_later hb8 (HG7.out k hlt8)
                            have hzk := HK.out k hlt8
                            have hLk : (kk k).length ≤ 1048576 := HL.out k hlt8
                            have hst := fun (wx : World) (hx : Bytes wx (.slice a' (kk k).length c') (kk k)) => sameText (strOf (kk k)) _ (kk k) wx hx (strOf_size _) (by omega) (fun j hj => strOf_at (kk k) hzk j hj)
                            have HT : Hid (∀ (wx : World) (hx : Bytes wx (.slice a' (kk k).length c') (kk k)), Calls Tryf.prog 10 #[.string (strOf (kk k)), .slice a' (kk k).length c'] wx fun e w' => e = .returned (.bool true) ∧ Below wx.heap.size wx w') := hst
                            obtain ⟨s, hs⟩ : ∃ s, s = strOf (kk k) := ⟨_, rfl⟩
                            rw [← hs] at hgk HT
                            clear hs hst hzk
                            have ltb : b < wr.heap.size := World.block_lt_of_cell? _ _ hck
                            have ltg : g < wr.heap.size := World.block_lt_of_cell? _ _ hgk
                            have i3 : (k : Int) < (n : Int) := by omega
                            have i4 : (0 : Int) ≤ (k : Int) := by omega
                            go_wp2_with fail
                            go_region_held3 (fun w2 => w2.cell? ⟨g, k, none⟩ = some (.string s) ∧ w2.cell? ⟨b, off + k, none⟩ = some (.slice a' (kk k).length c'))
                              (first | go_keep | (exact ⟨cell_later hb9 (by go_simp), cell_later hb9 (by go_simp)⟩))
                              (first | (go_at_call 10; refine (HT.out _ (by exact hby.later (Below.refl _ _).drew)).mono ?_; rintro e w9 ⟨rfl, hb9⟩))
                            all_goals
                              go_wp2_with fail
                              go_roundw
                              case rel => exact ⟨k + 1, by omega, by go_num, hb8.drew.trans (hb9.mono (by exact hb8.size))⟩
                              case measure => simp [intOf]; omega
                          · go_wp2_with fail
                            go_ret
                            exact ⟨rfl, hb7.trans (hb8.mono hb7.size)⟩
end Go.Proofs.Qxb6618760aFmt
