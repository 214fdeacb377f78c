/-
  Seat b6617319aD: the walk of FnAppendStatsChangesOnlyTheChangedCountersNumber.
-/
import Derived.Test.Qxb6617319aDoorLawOne
import Derived.Deep.DeepCutAuto
namespace Go.Proofs.Qxb6617319aDoor
open Go.RowKit

theorem setAt_same (xs : Nat → Nat) (j v : Nat) : setAt xs j v j = v := by simp [setAt]
theorem setAt_other (xs : Nat → Nat) (j v i : Nat) (h : ¬ i = j) : setAt xs j v i = xs i := by simp [setAt, h]
theorem setAt_lt (xs : Nat → Nat) (j v : Nat) (hx : ∀ i, xs i < 18446744073709551616) (hv : v < 18446744073709551616) (i : Nat) : setAt xs j v i < 18446744073709551616 := by
  unfold setAt; split
  · exact hv
  · exact hx i
theorem tok_same (xs : Nat → Nat) (j v t : Nat) (h : ¬ t = j + 1) : tok (setAt xs j v) t = tok xs t := by
  match t with
  | 0 => rfl
  | t + 1 => show piece t (setAt xs j v t) = piece t (xs t); rw [setAt_other xs j v t (by omega)]

theorem tok_pos (xs : Nat → Nat) (t : Nat) (h : t ≤ 5) : 5 ≤ (tok xs t).length := by
  match t, h with
  | 0, _ => show 5 ≤ stats.length; decide
  | t + 1, h => show 5 ≤ (piece t (xs t)).length; have := key_pos t (by omega); rw [piece_length]; omega

set_option maxRecDepth 100000 in
set_option maxHeartbeats 8000000 in
theorem law_two (ao : Option Addr) (n k : Nat) (bs : List UInt8) (xs : Nat → Nat) (j v : Nat) (hj : j < 5) (hv : v < 18446744073709551616) (hx : ∀ i, xs i < 18446744073709551616) (w : World) (hl : n ≤ 1048576) (hc : Came w ao n k bs) (htab : Tab w) (hg : glob < w.heap.size) :
    Calls Tryd.prog 6 #[.slice ao n k, st xs, .int .i64 j, .int .u64 v] w fun e w' => e = .returned (.bool true) ∧ Below w.heap.size w w' := by
  have HX : Hid (∀ i, xs i < 18446744073709551616) := hx
  obtain ⟨ys, hys⟩ : ∃ ys, ys = setAt xs j v := ⟨_, rfl⟩
  have HY : Hid (∀ i, ys i < 18446744073709551616) := by rw [hys]; exact setAt_lt xs j v hx hv
  have HYS : Hid (ys = setAt xs j v) := hys
  have HV : Hid (v < 18446744073709551616) := hv
  have HT : Hid (Tab w) := htab
  have HL : Hid (bs.length = n) := hc.len
  clear hx htab hys hv
  go_enter Tryd.func6, Tryd.ntmps6
  go_wp2_with fail
  refine (bytes23_yes xs ao n k j v hl _).mono ?_
  rintro e w1 ⟨rfl, hb1⟩
  have bx1 : w1.heap[w.heap.size]? = some (.cells (five xs) 36 (0, 0)) := blk_later (Deep.blk_alloc_new _ _) hb1
  have hbw1 : Below w.heap.size w w1 := ((Below.refl _ _).alloc (Nat.le_refl _) _).trans (hb1.mono (by simp))
  have hc1 := hc.later hbw1
  clear hb1 hc
  go_wp2_with fail
  refine (clone_any ao n k bs _ w1.heap.size (Nat.le_refl _) HL.out hl hc1.nil hc1.cell).mono ?_
  rintro e w2 ⟨a1, k1, rfl, hn1, _, hr2, hb2⟩
  have HN1 : Hid (a1 = none → n = 0 ∧ k1 = 0) := hn1
  have bx2 := blk_later bx1 hb2
  have hbw2 : Below w.heap.size w w2 := hbw1.trans (hb2.mono hbw1.size)
  have x20 : w2.cell? ⟨w.heap.size, 0, none⟩ = some (.int .u64 (xs 0)) := by simp [World.cell?, bx2]
  have x21 : w2.cell? ⟨w.heap.size, 1, none⟩ = some (.int .u64 (xs 1)) := by simp [World.cell?, bx2]
  have x22 : w2.cell? ⟨w.heap.size, 2, none⟩ = some (.int .u64 (xs 2)) := by simp [World.cell?, bx2]
  have x23 : w2.cell? ⟨w.heap.size, 3, none⟩ = some (.int .u64 (xs 3)) := by simp [World.cell?, bx2]
  have x24 : w2.cell? ⟨w.heap.size, 4, none⟩ = some (.int .u64 (xs 4)) := by simp [World.cell?, bx2]
  clear hn1 hb2 bx1 hc1 hbw1
  go_wp2_with fail
  refine (with_any xs j v hj _).mono ?_
  rintro e w3 ⟨rfl, hb3⟩
  rw [← HYS.out]
  have bx3 := blk_later bx2 hb3
  have hr3 := hr2.later hb3
  have hbw3 : Below w.heap.size w w3 := hbw2.trans (hb3.mono hbw2.size)
  clear x20 x21 x22 x23 x24 bx2 hr2 hb3 hbw2
  have hlp := line_pos xs 5
  have hll := line_length xs HX.out 5
  obtain ⟨L, hL⟩ : ∃ L, L = (line xs 5).length := ⟨_, rfl⟩
  have HLL : Hid (L = (line xs 5).length) := hL
  rw [← hL] at hlp hll
  have hmp := line_pos ys 5
  have hml := line_length ys HY.out 5
  obtain ⟨M, hM⟩ : ∃ M, M = (line ys 5).length := ⟨_, rfl⟩
  have HMM : Hid (M = (line ys 5).length) := hM
  rw [← hM] at hmp hml
  clear hL hM
  go_wp2
  generalize hw4 : w3.alloc (.cells #[.int .u64 (ys 0), .int .u64 (ys 1), .int .u64 (ys 2), .int .u64 (ys 3), .int .u64 (ys 4)] 36) = w4
  have hb4 : Below w3.heap.size w3 w4 := by rw [← hw4]; exact (Below.refl _ _).alloc (Nat.le_refl _) _
  have by4 : w4.heap[w3.heap.size]? = some (.cells (five ys) 36 (0, 0)) := by rw [← hw4]; exact Deep.blk_alloc_new _ _
  have bx4 := blk_later bx3 hb4
  have hr4 := hr3.later hb4
  have hbw4 : Below w.heap.size w w4 := hbw3.trans (hb4.mono hbw3.size)
  obtain ⟨Y, hY⟩ : ∃ Y, Y = w3.heap.size := ⟨_, rfl⟩
  rw [← hY] at by4 ⊢
  clear hw4 hb4 bx3 hr3 hbw3 hY
  have hs4 := hbw4.size
  have ht4 : Tab w4 := HT.out.below hbw4 hg
  have x0 : w4.cell? ⟨w.heap.size, 0, none⟩ = some (.int .u64 (xs 0)) := by simp [World.cell?, bx4]
  have x1 : w4.cell? ⟨w.heap.size, 1, none⟩ = some (.int .u64 (xs 1)) := by simp [World.cell?, bx4]
  have x2 : w4.cell? ⟨w.heap.size, 2, none⟩ = some (.int .u64 (xs 2)) := by simp [World.cell?, bx4]
  have x3 : w4.cell? ⟨w.heap.size, 3, none⟩ = some (.int .u64 (xs 3)) := by simp [World.cell?, bx4]
  have x4 : w4.cell? ⟨w.heap.size, 4, none⟩ = some (.int .u64 (xs 4)) := by simp [World.cell?, bx4]
  go_cut [10] (fun v wc => ∃ g cap, v = .slice (some ⟨g, 0, none⟩) (n + L) cap ∧ n + L ≤ cap ∧ cap ≤ maxLen ∧ RB wc (some ⟨g, 0, none⟩) (bs ++ line xs 5) ∧ Below w4.heap.size w4 wc)
  case first =>
    go_region_with (first | (go_at_call 15; refine (clone_reads a1 n k1 bs _ w4.heap.size (by simp) HL.out hl HN1.out (by exact hr4)).mono ?_; rintro e w5 ⟨a3, k3, rfl, hn3, hown3, hr3, hb3⟩; have y0 := cell_later hb3 x0; have y1 := cell_later hb3 x1; have y2 := cell_later hb3 x2; have y3 := cell_later hb3 x3; have y4 := cell_later hb3 x4; have ht3 : Tab w5 := (show Tab w4.drew from ht4).below (B := w4.heap.size) hb3 (by omega); have hs3 : w4.heap.size ≤ w5.heap.size := hb3.size) | (go_at_call 16; refine (stats_at w4.heap.size n (n + L) _ bs xs HX.out _ hown3 HL.out (by rw [HLL.out]) hs3 (by omega) ht3 (by omega)).mono ?_; rintro e w6 ⟨g1, cap1, rfl, hr6, hcap1, hcm1, hb6, hk6⟩))
    all_goals
      go_wp2
      go_meet
      case rel => exact ⟨g1, cap1, rfl, hcap1, hcm1, hr6, (((Below.refl _ _).drew).trans hb3).trans hb6⟩
  case rest =>
    obtain ⟨g1, cap1, rfl, hcap1, hcm1, hrA, hb5⟩ := hcut
    obtain ⟨w5, rfl⟩ : ∃ w5, w5 = wc := ⟨_, rfl⟩
    have bx5 := blk_later bx4 hb5
    have by5 := blk_later by4 hb5
    have hr5 := hr4.later hb5
    have hbw5 : Below w.heap.size w w5 := hbw4.trans (hb5.mono hs4)
    have hs5 := hbw5.size
    have ht5 : Tab w5 := HT.out.below hbw5 hg
    clear x0 x1 x2 x3 x4 bx4 by4 hr4 hbw4 hs4 ht4 hb5
    have x0 : w5.cell? ⟨Y, 0, none⟩ = some (.int .u64 (ys 0)) := by simp [World.cell?, by5]
    have x1 : w5.cell? ⟨Y, 1, none⟩ = some (.int .u64 (ys 1)) := by simp [World.cell?, by5]
    have x2 : w5.cell? ⟨Y, 2, none⟩ = some (.int .u64 (ys 2)) := by simp [World.cell?, by5]
    have x3 : w5.cell? ⟨Y, 3, none⟩ = some (.int .u64 (ys 3)) := by simp [World.cell?, by5]
    have x4 : w5.cell? ⟨Y, 4, none⟩ = some (.int .u64 (ys 4)) := by simp [World.cell?, by5]
    go_wp2
    go_cut [11] (fun v wc => ∃ g cap, v = .slice (some ⟨g, 0, none⟩) (n + M) cap ∧ n + M ≤ cap ∧ cap ≤ maxLen ∧ RB wc (some ⟨g, 0, none⟩) (bs ++ line ys 5) ∧ Below w5.heap.size w5 wc)
    case first =>
      go_region_with (first | (go_at_call 15; refine (clone_reads a1 n k1 bs _ w5.heap.size (by simp) HL.out hl HN1.out (by exact hr5)).mono ?_; rintro e w6 ⟨a3, k3, rfl, hn3, hown3, hr3, hb3⟩; have y0 := cell_later hb3 x0; have y1 := cell_later hb3 x1; have y2 := cell_later hb3 x2; have y3 := cell_later hb3 x3; have y4 := cell_later hb3 x4; have ht3 : Tab w6 := (show Tab w5.drew from ht5).below (B := w5.heap.size) hb3 (by omega); have hs3 : w5.heap.size ≤ w6.heap.size := hb3.size) | (go_at_call 16; refine (stats_at w5.heap.size n (n + M) _ bs ys HY.out _ hown3 HL.out (by rw [HMM.out]) hs3 (by omega) ht3 (by omega)).mono ?_; rintro e w7 ⟨g2, cap2, rfl, hr7, hcap2, hcm2, hb7, hk7⟩))
      all_goals
        go_wp2
        go_meet
        case rel => exact ⟨g2, cap2, rfl, hcap2, hcm2, hr7, (((Below.refl _ _).drew).trans hb3).trans hb7⟩
    case rest =>
      obtain ⟨g2, cap2, rfl, hcap2, hcm2, hrC, hb6⟩ := hcut
      obtain ⟨w6, rfl⟩ : ∃ w6, w6 = wc := ⟨_, rfl⟩
      have bx6 := blk_later bx5 hb6
      have hr6 := hr5.later hb6
      have hrA6 := hrA.later hb6
      have hbw6 : Below w.heap.size w w6 := hbw5.trans (hb6.mono hs5)
      have hrAl := hrA6.left
      have hrAr : RB w6 (some ⟨g1, n, none⟩) (line xs 5) := by have := hrA6.right; rw [HL.out, Nat.zero_add] at this; exact this
      have hrCl := hrC.left
      have hrCr : RB w6 (some ⟨g2, n, none⟩) (line ys 5) := by have := hrC.right; rw [HL.out, Nat.zero_add] at this; exact this
      unfold maxLen at hcm1 hcm2
      clear x0 x1 x2 x3 x4 bx5 by5 hr5 hrA hrA6 hrC hb6 hbw5 hs5 ht5
      go_wp2_with fail
      refine (same_any _ _ n _ _ bs _ HL.out (by omega) hrAl hr6).mono ?_
      rintro e w7 ⟨rfl, q7, hw7⟩
      have hb7 : Below w6.heap.size w6 w7 := by rw [hw7]; exact below_drewN (Below.refl _ _) _
      have hrCl7 := hrCl.later hb7
      have hr7 := hr6.later hb7
      have hrAr7 := hrAr.later hb7
      have hrCr7 := hrCr.later hb7
      have bx7 := blk_later bx6 hb7
      have hbw7 : Below w.heap.size w w7 := hbw6.trans (hb7.mono hbw6.size)
      clear hw7 hb7 hrAl hrCl hr6 hrAr hrCr bx6 hbw6
      go_wp2_with fail
      refine (same_any _ _ n _ _ bs _ HL.out (by omega) hrCl7 hr7).mono ?_
      rintro e w8 ⟨rfl, q8, hw8⟩
      have hb8 : Below w7.heap.size w7 w8 := by rw [hw8]; exact below_drewN (Below.refl _ _) _
      have hrA8 := hrAr7.later hb8
      have hrC8 := hrCr7.later hb8
      have bx8 := blk_later bx7 hb8
      have hbw8 : Below w.heap.size w w8 := hbw7.trans (hb8.mono hbw7.size)
      clear hw8 hb8 hrCl7 hr7 hrAr7 hrCr7 bx7 hbw7
      go_wp2_with fail
      refine (count_at _ L _ (line xs 5) 6 _ HLL.out.symm (by omega) (by omega) hrA8 (by rw [HLL.out, line_blanks]; rfl)).mono ?_
      rintro e w9 ⟨rfl, rfl⟩
      go_wp2_with fail
      refine (count_at _ M _ (line ys 5) 6 _ HMM.out.symm (by omega) (by omega) hrC8 (by rw [HMM.out, line_blanks]; rfl)).mono ?_
      rintro e w10 ⟨rfl, rfl⟩
      go_wp2
      go_loopw [14] (fun i wr => ∃ t : Nat, t ≤ 6 ∧ i = .int .i64 t ∧ Below w10.heap.size w10 wr) (fun i _ => 6 - (intOf i).toNat)
      case atStart => exact ⟨0, by omega, rfl, Below.refl _ _⟩
      case round =>
        obtain ⟨t, ht, rfl, hbr⟩ := hrel
        by_cases hlt : t < 6
        · have hrA := hrA8.later hbr
          have hrC := hrC8.later hbr
          have bx := blk_later bx8 hbr
          have tkA := line_tok xs t 5 (by omega)
          have tkC := line_tok ys t 5 (by omega)
          obtain ⟨postA, hsA, _⟩ := line_at xs t 5 (by omega)
          obtain ⟨postC, hsC, _⟩ := line_at ys t 5 (by omega)
          have hrtA : RB wr (some ⟨g1, n + (ahead xs t).length, none⟩) (tok xs t) := by have h := hrA; rw [hsA] at h; exact h.left.right
          have hrtC : RB wr (some ⟨g2, n + (ahead ys t).length, none⟩) (tok ys t) := by have h := hrC; rw [hsC] at h; exact h.left.right
          obtain ⟨a, hA⟩ : ∃ a, a = (ahead xs t).length := ⟨_, rfl⟩
          obtain ⟨m, hM⟩ : ∃ m, m = (tok xs t).length := ⟨_, rfl⟩
          obtain ⟨c, hC⟩ : ∃ c, c = (ahead ys t).length := ⟨_, rfl⟩
          obtain ⟨m2, hM2⟩ : ∃ m, m = (tok ys t).length := ⟨_, rfl⟩
          rw [← hA, ← hM] at tkA
          rw [← hA] at hrtA
          rw [← hC, ← hM2] at tkC
          rw [← hC] at hrtC
          have hamA : a + m ≤ L := by rw [HLL.out]; exact tkA.en
          have hamC : c + m2 ≤ M := by rw [HMM.out]; exact tkC.en
          have hm5 : 5 ≤ m := by rw [hM]; exact tok_pos xs t (by omega)
          have hn5 : 5 ≤ m2 := by rw [hM2]; exact tok_pos ys t (by omega)
          have HMT : Hid (m = (tok xs t).length ∧ m2 = (tok ys t).length) := ⟨hM, hM2⟩
          clear hA hM hC hM2 hsA hsC
          go_wp2_with fail
          refine (token_at _ L _ t a (a + m) t a ((a : Int) + m) (line xs 5) _ HLL.out.symm (by omega) (by omega) hrA tkA rfl rfl (by omega)).mono ?_
          rintro e w11 ⟨rfl, rfl⟩
          go_wp2_with fail
          refine (token_at _ M _ t c (c + m2) t c ((c : Int) + m2) (line ys 5) _ HMM.out.symm (by omega) (by omega) hrC tkC rfl rfl (by omega)).mono ?_
          rintro e w12 ⟨rfl, rfl⟩
          clear tkA tkC hrA hrC
          rcases (show t < j + 1 ∨ j + 1 < t ∨ t = j + 1 by omega) with hq | hq | hq
          · have esame : tok ys t = tok xs t := by rw [HYS.out]; exact tok_same xs j v t (by omega)
            have hi : (t : Int) < (j : Int) + 1 ∨ (j : Int) + 1 < (t : Int) := by omega
            have em : m = m2 := by rw [HMT.out.1, HMT.out.2, esame]
            have hrtC' : RB w12 (some ⟨g2, n + c, none⟩) (tok xs t) := by rw [← esame]; exact hrtC
            have hml : (tok xs t).length = m := HMT.out.1.symm
            have HML : Hid ((tok xs t).length = m) := hml
            clear hrtC esame hml
            subst em
            clear HMT hi
            have hbnd : (t : Int) < (j : Int) + 1 := by omega
            go_wp2_with fail
            refine (same_any _ _ m _ _ (tok xs t) _ HML.out (by omega) hrtA hrtC').mono ?_
            rintro e w13 ⟨rfl, q13, hw13⟩
            have hb13 : Below w12.heap.size w12 w13 := by rw [hw13]; exact below_drewN (Below.refl _ _) _
            have hbr13 : Below w10.heap.size w10 w13 := hbr.trans (hb13.mono hbr.size)
            clear hw13 hb13
            go_wp2
            go_roundw
            case rel => exact ⟨t + 1, by omega, by go_num, hbr13⟩
            case measure => simp [intOf]; omega
          · have esame : tok ys t = tok xs t := by rw [HYS.out]; exact tok_same xs j v t (by omega)
            have hi : (t : Int) < (j : Int) + 1 ∨ (j : Int) + 1 < (t : Int) := by omega
            have em : m = m2 := by rw [HMT.out.1, HMT.out.2, esame]
            have hrtC' : RB w12 (some ⟨g2, n + c, none⟩) (tok xs t) := by rw [← esame]; exact hrtC
            have hml : (tok xs t).length = m := HMT.out.1.symm
            have HML : Hid ((tok xs t).length = m) := hml
            clear hrtC esame hml
            subst em
            clear HMT hi
            have hbnd : (j : Int) + 1 < (t : Int) := by omega
            go_wp2_with fail
            refine (same_any _ _ m _ _ (tok xs t) _ HML.out (by omega) hrtA hrtC').mono ?_
            rintro e w13 ⟨rfl, q13, hw13⟩
            have hb13 : Below w12.heap.size w12 w13 := by rw [hw13]; exact below_drewN (Below.refl _ _) _
            have hbr13 : Below w10.heap.size w10 w13 := hbr.trans (hb13.mono hbr.size)
            clear hw13 hb13
            go_wp2
            go_roundw
            case rel => exact ⟨t + 1, by omega, by go_num, hbr13⟩
            case measure => simp [intOf]; omega
          · have hi1 : (t : Int) ≤ (j : Int) + 1 := by omega
            have hi2 : (j : Int) + 1 ≤ (t : Int) := by omega
            have eA : tok xs t = key j ++ (61 :: Lib.decDigits (xs j)) := by rw [hq]; rfl
            have eC : tok ys t = key j ++ (61 :: Lib.decDigits v) := by rw [hq, HYS.out]; show piece j (setAt xs j v j) = _; rw [setAt_same]; rfl
            rw [eA] at hrtA
            rw [eC] at hrtC
            obtain ⟨e1, e2⟩ := HMT.out
            rw [eA] at e1
            rw [eC] at e2
            have hdA := dec_pos (xs j)
            have hdC := dec_pos v
            have hdA2 := dec_length (xs j) (HX.out j)
            have hdC2 := dec_length v HV.out
            have hk5 := key_pos j hj
            have hk12 := key_length j
            have lA : m = (key j).length + 1 + (Lib.decDigits (xs j)).length := by rw [e1]; simp; omega
            have lC : m2 = (key j).length + 1 + (Lib.decDigits v).length := by rw [e2]; simp; omega
            obtain ⟨kl, hkl⟩ : ∃ kl, kl = (key j).length := ⟨_, rfl⟩
            have HKL : Hid (kl = (key j).length) := hkl
            rw [← hkl] at hk5 hk12 lA lC
            have iA : byteAt (key j ++ (61 :: Lib.decDigits (xs j))) kl = 61 := by rw [hkl]; exact piece_eq j (xs j)
            have iC : byteAt (key j ++ (61 :: Lib.decDigits v)) kl = 61 := by rw [hkl]; exact piece_eq j v
            have nA : ∀ i, i < kl → ¬ byteAt (key j ++ (61 :: Lib.decDigits (xs j))) i = 61 := fun i h => piece_ne j (xs j) i (by omega)
            have nC : ∀ i, i < kl → ¬ byteAt (key j ++ (61 :: Lib.decDigits v)) i = 61 := fun i h => piece_ne j v i (by omega)
            have hkA : kl + 2 ≤ m := by omega
            have hkC : kl + 2 ≤ m2 := by omega
            have HI : Hid (byteAt (key j ++ (61 :: Lib.decDigits (xs j))) kl = 61 ∧ byteAt (key j ++ (61 :: Lib.decDigits v)) kl = 61) := ⟨iA, iC⟩
            have HN : Hid ((∀ i, i < kl → ¬ byteAt (key j ++ (61 :: Lib.decDigits (xs j))) i = 61) ∧ ∀ i, i < kl → ¬ byteAt (key j ++ (61 :: Lib.decDigits v)) i = 61) := ⟨nA, nC⟩
            have HE : Hid ((key j ++ (61 :: Lib.decDigits (xs j))).length = m ∧ (key j ++ (61 :: Lib.decDigits v)).length = m2) := ⟨e1.symm, e2.symm⟩
            have cvA : ∀ q cap, (convert 34 9 (.slice (some ⟨g1, n + a + (kl + 1), none⟩) (m - (kl + 1)) cap)).run Tryd.prog (w12.drewN q) = .ok (.string (numeral (xs j))) (w12.drewN q) := fun q cap => by
              have h : RB (w12.drewN q) (some ⟨g1, n + a, none⟩) ((key j ++ [61]) ++ Lib.decDigits (xs j)) := by simpa using hrtA.drewN q
              have h2 := conv_rb h.right cap
              rw [List.length_append, ← HKL.out] at h2
              have e : m - (kl + 1) = (Lib.decDigits (xs j)).length := by omega
              rw [e]
              exact h2
            have cvC : ∀ q cap, (convert 34 9 (.slice (some ⟨g2, n + c + (kl + 1), none⟩) (m2 - (kl + 1)) cap)).run Tryd.prog (w12.drewN q) = .ok (.string (numeral v)) (w12.drewN q) := fun q cap => by
              have h : RB (w12.drewN q) (some ⟨g2, n + c, none⟩) ((key j ++ [61]) ++ Lib.decDigits v) := by simpa using hrtC.drewN q
              have h2 := conv_rb h.right cap
              rw [List.length_append, ← HKL.out] at h2
              have e : m2 - (kl + 1) = (Lib.decDigits v).length := by omega
              rw [e]
              exact h2
            have kA := hrtA.left
            have kC := hrtC.left
            have hd : decide ((kl : Int) < 1) = false := decide_eq_false (by omega)
            have x0 : w12.cell? ⟨w.heap.size, 0, none⟩ = some (.int .u64 (xs 0)) := by simp [World.cell?, bx]
            have x1 : w12.cell? ⟨w.heap.size, 1, none⟩ = some (.int .u64 (xs 1)) := by simp [World.cell?, bx]
            have x2 : w12.cell? ⟨w.heap.size, 2, none⟩ = some (.int .u64 (xs 2)) := by simp [World.cell?, bx]
            have x3 : w12.cell? ⟨w.heap.size, 3, none⟩ = some (.int .u64 (xs 3)) := by simp [World.cell?, bx]
            have x4 : w12.cell? ⟨w.heap.size, 4, none⟩ = some (.int .u64 (xs 4)) := by simp [World.cell?, bx]
            clear iA iC nA nC e1 e2 eA eC lA lC hkl hdA hdC hdA2 hdC2 hq HMT
            go_wp2_with fail
            refine (index_any _ m _ kl 61 _ _ HE.out.1 (by omega) hrtA (by omega) HN.out.1 HI.out.1).mono ?_
            rintro e w13 ⟨rfl, rfl⟩
            go_wp2_with fail
            refine (index_any _ m2 _ kl 61 _ _ HE.out.2 (by omega) hrtC (by omega) HN.out.2 HI.out.2).mono ?_
            rintro e w14 ⟨rfl, rfl⟩
            clear hrtA hrtC
            go_wp2
            go_quiet ((go_at_call 17; exact Calls.quiet_of (same_any _ _ kl _ _ (key j) _ HKL.out.symm (by omega) (kA.drewN _) (kC.drewN _))))
            go_wp2_with fail
            refine (parse_numeral (xs j) (HX.out j) _).mono ?_
            rintro e w15 ⟨rfl, rfl⟩
            go_wp2_with fail
            refine (parse_numeral v HV.out _).mono ?_
            rintro e w16 ⟨rfl, rfl⟩
            go_wp2_with fail
            refine (field_any xs j hj _).mono ?_
            rintro e w17 ⟨rfl, hb17⟩
            have hbr17 : Below w10.heap.size w10 w17 := (below_drewN hbr nq).trans (hb17.mono hbr.size)
            clear cvA cvC kA kC x0 x1 x2 x3 x4
            go_wp2
            go_roundw
            case rel => exact ⟨t + 1, by omega, by go_num, hbr17⟩
            case measure => simp [intOf]; omega
        · go_wp2
          go_ret
          exact ⟨rfl, hbw8.trans (hbr.mono hbw8.size)⟩
end Go.Proofs.Qxb6617319aDoor
