/-
  Seat b6617319aD: the walk of FnAppendStatsAppendsTheLineOfItsCounters.
-/
import Derived.Test.Qxb6617319aDoorKit
import Derived.Deep.DeepCutAuto
namespace Go.Proofs.Qxb6617319aDoor
open Go.RowKit

/-- What the caller knows of a slice of bytes that came in. -/
structure Came (w : World) (ao : Option Addr) (n k : Nat) (bs : List UInt8) : Prop where
  len : bs.length = n
  nil : ao = none → n = 0 ∧ k = 0
  cell : ∀ ad, ao = some ad → ∀ j, j < n → w.cell? (ad.add j) = some (.int .u8 (byteAt bs j))

theorem Came.later {w w' : World} {ao : Option Addr} {n k : Nat} {zs : List UInt8} (h : Came w ao n k zs) (hb : Below w.heap.size w w') : Came w' ao n k zs :=
  ⟨h.len, h.nil, fun ad ha j hj => cell_later hb (h.cell ad ha j hj)⟩

/-- A block of the five numbers. -/
abbrev five (xs : Nat → Nat) : Array Value := #[.int .u64 (xs 0), .int .u64 (xs 1), .int .u64 (xs 2), .int .u64 (xs 3), .int .u64 (xs 4)]

theorem blk_later {w w' : World} {k : Nat} {o : Obj} (h : w.heap[k]? = some o) (hb : Below w.heap.size w w') : w'.heap[k]? = some o := by
  rw [hb.block k (Array.getElem?_eq_some_iff.1 h).1]; exact h

set_option maxRecDepth 100000 in
set_option maxHeartbeats 4000000 in
theorem law_one (ao : Option Addr) (n k : Nat) (bs : List UInt8) (xs : Nat → Nat) (hx : ∀ i, xs i < 18446744073709551616) (w : World) (hl : n ≤ 1048576) (hc : Came w ao n k bs) (htab : Tab w) (hg : glob < w.heap.size) :
    Calls Tryd.prog 5 #[.slice ao n k, st xs] w fun e w' => e = .returned (.bool true) ∧ Below w.heap.size w w' := by
  have HX : Hid (∀ i, xs i < 18446744073709551616) := hx
  have HT : Hid (Tab w) := htab
  have HL : Hid (bs.length = n) := hc.len
  clear hx htab
  go_enter Tryd.func5, Tryd.ntmps5
  go_wp2_with fail
  refine (bytes14_yes xs ao n k hl _).mono ?_
  rintro e w1 ⟨rfl, hb1⟩
  have bx1 : w1.heap[w.heap.size]? = some (.cells (five xs) 36 (0, 0)) := blk_later (Deep.blk_alloc_new _ _) hb1
  have hbw1 : Below w.heap.size w w1 := ((Below.refl _ _).alloc (Nat.le_refl _) _).trans (hb1.mono (by simp))
  have hc1 := hc.later hbw1
  clear hb1 hc
  go_wp2_with fail
  refine (clone_any ao n k bs _ w1.heap.size (Nat.le_refl _) HL.out hl hc1.nil hc1.cell).mono ?_
  rintro e w2 ⟨a1, k1, rfl, hn1, _, hr2, hb2⟩
  have HN1 : Hid (a1 = none → n = 0 ∧ k1 = 0) := hn1
  have bx2 := blk_later bx1 hb2
  have hbw2 : Below w.heap.size w w2 := hbw1.trans (hb2.mono hbw1.size)
  have x20 : w2.cell? ⟨w.heap.size, 0, none⟩ = some (.int .u64 (xs 0)) := by simp [World.cell?, bx2]
  have x21 : w2.cell? ⟨w.heap.size, 1, none⟩ = some (.int .u64 (xs 1)) := by simp [World.cell?, bx2]
  have x22 : w2.cell? ⟨w.heap.size, 2, none⟩ = some (.int .u64 (xs 2)) := by simp [World.cell?, bx2]
  have x23 : w2.cell? ⟨w.heap.size, 3, none⟩ = some (.int .u64 (xs 3)) := by simp [World.cell?, bx2]
  have x24 : w2.cell? ⟨w.heap.size, 4, none⟩ = some (.int .u64 (xs 4)) := by simp [World.cell?, bx2]
  have hs2 := hbw2.size
  have ht2 : Tab w2 := HT.out.below hbw2 hg
  clear hn1 hb2 bx1 hc1 hbw1
  have hlp := line_pos xs 5
  have hll := line_length xs HX.out 5
  obtain ⟨L, hL⟩ : ∃ L, L = (line xs 5).length := ⟨_, rfl⟩
  have HLL : Hid (L = (line xs 5).length) := hL
  rw [← hL] at hlp hll
  clear hL
  go_wp2
  go_cut [5] (fun v wc => ∃ g1 cap1, v = .slice (some ⟨g1, 0, none⟩) (n + L) cap1 ∧ n + L ≤ cap1 ∧ cap1 ≤ maxLen ∧ RB wc (some ⟨g1, 0, none⟩) (bs ++ line xs 5) ∧ Below w2.heap.size w2 wc)
  case first =>
    go_region_with (first | (go_at_call 15; refine (clone_reads a1 n k1 bs _ w2.heap.size (by simp) HL.out hl HN1.out (by exact hr2)).mono ?_; rintro e w3 ⟨a3, k3, rfl, hn3, hown3, hr3, hb3⟩; have y0 := cell_later hb3 x20; have y1 := cell_later hb3 x21; have y2 := cell_later hb3 x22; have y3 := cell_later hb3 x23; have y4 := cell_later hb3 x24; have ht3 : Tab w3 := (show Tab w2.drew from ht2).below (B := w2.heap.size) hb3 (by omega); have hs3 : w2.heap.size ≤ w3.heap.size := hb3.size) | (go_at_call 16; refine (stats_at w2.heap.size n (n + L) _ bs xs HX.out _ hown3 HL.out (by rw [HLL.out]) hs3 (by omega) ht3 (by omega)).mono ?_; rintro e w4 ⟨g1, cap1, rfl, hr4, hcap1, hcm1, hb4, hk4⟩))
    all_goals
      go_wp2
      go_meet
      case rel => exact ⟨g1, cap1, rfl, hcap1, hcm1, hr4, (((Below.refl _ _).drew).trans hb3).trans hb4⟩
  case rest =>
    obtain ⟨g1, cap1, rfl, hcap1, hcm1, hr4, hb4⟩ := hcut
    have bx4 := blk_later bx2 hb4
    have hbw4 : Below w.heap.size w wc := hbw2.trans (hb4.mono hs2)
    have hr2' := hr2.later hb4
    have ht4 : Tab wc := HT.out.below hbw4 hg
    clear x20 x21 x22 x23 x24 bx2 hr2 ht2 hb4
    have x0 : wc.cell? ⟨w.heap.size, 0, none⟩ = some (.int .u64 (xs 0)) := by simp [World.cell?, bx4]
    have x1 : wc.cell? ⟨w.heap.size, 1, none⟩ = some (.int .u64 (xs 1)) := by simp [World.cell?, bx4]
    have x2 : wc.cell? ⟨w.heap.size, 2, none⟩ = some (.int .u64 (xs 2)) := by simp [World.cell?, bx4]
    have x3 : wc.cell? ⟨w.heap.size, 3, none⟩ = some (.int .u64 (xs 3)) := by simp [World.cell?, bx4]
    have x4 : wc.cell? ⟨w.heap.size, 4, none⟩ = some (.int .u64 (xs 4)) := by simp [World.cell?, bx4]
    have hs4 := hbw4.size
    go_wp2_with fail
    refine (stats_at wc.heap.size 0 L (.slice none 0 0) [] xs HX.out _ (World.ownsRow_nil _ _ _ _) rfl (by rw [HLL.out, Nat.zero_add]) (Nat.le_refl _) (by omega) ht4 (by omega)).mono ?_
    rintro e w5 ⟨g2, cap2, rfl, hr5, hcap2, hcm2, hb5, _⟩
    rw [List.nil_append] at hr5
    have bx5 := blk_later bx4 hb5
    have hbw5 : Below w.heap.size w w5 := hbw4.trans (hb5.mono hs4)
    have hr2'' := hr2'.later hb5
    have hr4' := hr4.later hb5
    have hrl : RB w5 (some ⟨g1, n, none⟩) (line xs 5) := by have := hr4'.right; rw [HL.out, Nat.zero_add] at this; exact this
    have hrb := hr4'.left
    unfold maxLen at hcm1 hcm2
    clear x0 x1 x2 x3 x4 bx4 hr2' hr4 hr4' hb5 ht4 hbw4 hs4 hbw2 hs2
    go_wp2_with fail
    refine (same_any _ _ n _ _ bs _ HL.out (by omega) hrb hr2'').mono ?_
    rintro e w6 ⟨rfl, q6, hw6⟩
    have hb6 : Below w5.heap.size w5 w6 := by rw [hw6]; exact below_drewN (Below.refl _ _) _
    have hrl6 := hrl.later hb6
    have hr6 := hr5.later hb6
    have bx6 := blk_later bx5 hb6
    have hbw6 : Below w.heap.size w w6 := hbw5.trans (hb6.mono hbw5.size)
    clear hw6 hb6 hrl hr5 bx5 hbw5 hrb hr2''
    go_wp2_with fail
    refine (same_any _ _ L _ _ (line xs 5) _ HLL.out.symm (by omega) hrl6 hr6).mono ?_
    rintro e w7 ⟨rfl, q7, hw7⟩
    have hb7 : Below w6.heap.size w6 w7 := by rw [hw7]; exact below_drewN (Below.refl _ _) _
    have hr7 := hr6.later hb7
    have bx7 := blk_later bx6 hb7
    have hbw7 : Below w.heap.size w w7 := hbw6.trans (hb7.mono hbw6.size)
    clear hw7 hb7 hrl6 hr6 bx6 hbw6
    go_wp2_with fail
    refine (count_at _ L _ (line xs 5) 6 _ HLL.out.symm (by omega) (by omega) hr7 (by rw [HLL.out, line_blanks]; rfl)).mono ?_
    rintro e w8 ⟨rfl, rfl⟩
    go_wp2_with fail
    refine (token_at _ L _ 0 0 5 0 0 5 (line xs 5) _ HLL.out.symm (by omega) (by omega) hr7 (line_tok xs 0 5 (by omega)) rfl rfl rfl).mono ?_
    rintro e w9 ⟨rfl, rfl⟩
    have hcv : ∀ cap, (convert 34 9 (.slice (some ⟨g2, 0, none⟩) 5 cap)).run Tryd.prog w9 = .ok (.string ⟨#[115, 116, 97, 116, 115]⟩) w9 := fun cap => by
      obtain ⟨post, h1, _⟩ := line_at xs 0 5 (by omega)
      have h2 : RB w9 (some ⟨g2, 0, none⟩) (stats ++ post) := by rw [h1] at hr7; exact hr7
      exact conv_rb h2.left cap
    have x0 : w9.cell? ⟨w.heap.size, 0, none⟩ = some (.int .u64 (xs 0)) := by simp [World.cell?, bx7]
    have x1 : w9.cell? ⟨w.heap.size, 1, none⟩ = some (.int .u64 (xs 1)) := by simp [World.cell?, bx7]
    have x2 : w9.cell? ⟨w.heap.size, 2, none⟩ = some (.int .u64 (xs 2)) := by simp [World.cell?, bx7]
    have x3 : w9.cell? ⟨w.heap.size, 3, none⟩ = some (.int .u64 (xs 3)) := by simp [World.cell?, bx7]
    have x4 : w9.cell? ⟨w.heap.size, 4, none⟩ = some (.int .u64 (xs 4)) := by simp [World.cell?, bx7]
    go_wp2_with fail
    refine (zzcounters_any w9.heap.size _).mono ?_
    rintro e w10 ⟨rfl, hw10⟩
    have hb10 : Below w9.heap.size w9 w10 := by rw [hw10]; exact (((Below.refl _ _).alloc (Nat.le_refl _) _).alloc (by simp) _).drew
    obtain ⟨H, hH⟩ : ∃ H, H = (w9.alloc (.cells (five xs) 40)).heap.size := ⟨_, rfl⟩
    have hcs : w10.heap[H]? = some (.cells (cells10 w9.heap.size) 51 (0, 0)) := by rw [hw10, hH]; exact Deep.blk_alloc_new _ _
    rw [← hH]
    have hr10 := hr7.later hb10
    have bx10 := blk_later bx7 hb10
    have hbw10 : Below w.heap.size w w10 := hbw7.trans (hb10.mono hbw7.size)
    clear hw10 hH hb10 hr7 bx7 hbw7 x0 x1 x2 x3 x4 hcv
    go_wp2
    go_loopw [11] (fun i wr => ∃ k : Nat, k ≤ 5 ∧ i = .int .i64 k ∧ Below w10.heap.size w10 wr) (fun i _ => 5 - (intOf i).toNat)
    case atStart => exact ⟨0, by omega, rfl, Below.refl _ _⟩
    case round =>
      obtain ⟨k, hk, rfl, hbr⟩ := hrel
      by_cases hlt : k < 5
      · have hr := hr10.later hbr
        have bx := blk_later bx10 hbr
        have hc := blk_later hcs hbr
        have ck : wr.cell? ⟨H, k * 2, none⟩ = some (.string (kb k)) := by
          match k, hlt with
          | 0, _ => simp [World.cell?, hc, cells10]
          | 1, _ => simp [World.cell?, hc, cells10]
          | 2, _ => simp [World.cell?, hc, cells10]
          | 3, _ => simp [World.cell?, hc, cells10]
          | 4, _ => simp [World.cell?, hc, cells10]
        have cp : wr.cell? ⟨H, k * 2 + 1, none⟩ = some (.pointer (some ⟨w9.heap.size, k, none⟩)) := by
          match k, hlt with
          | 0, _ => simp [World.cell?, hc, cells10]
          | 1, _ => simp [World.cell?, hc, cells10]
          | 2, _ => simp [World.cell?, hc, cells10]
          | 3, _ => simp [World.cell?, hc, cells10]
          | 4, _ => simp [World.cell?, hc, cells10]
        have tk := line_tok xs (k + 1) 5 (by omega)
        obtain ⟨post, hsplit, _⟩ := line_at xs (k + 1) 5 (by omega)
        have htl : (tok xs (k + 1)).length = (key k).length + 1 + (Lib.decDigits (xs k)).length := piece_length k (xs k)
        have hdp := dec_pos (xs k)
        have hrt : RB wr (some ⟨g2, (ahead xs (k + 1)).length, none⟩) (tok xs (k + 1)) := by
          have h := hr; rw [hsplit] at h
          have := h.left.right; rw [Nat.zero_add] at this; exact this
        obtain ⟨K, hK⟩ : ∃ K, K = kb k := ⟨_, rfl⟩
        have hKs : K.size = (key k).length := by rw [hK]; rfl
        obtain ⟨a, hA⟩ : ∃ a, a = (ahead xs (k + 1)).length := ⟨_, rfl⟩
        obtain ⟨m, hM⟩ : ∃ m, m = (tok xs (k + 1)).length := ⟨_, rfl⟩
        rw [← hK] at ck
        rw [← hA, ← hM] at tk
        rw [← hA] at hrt
        have hmK : K.size + 2 ≤ m := by omega
        have hmK2 : m = K.size + 1 + (Lib.decDigits (xs k)).length := by omega
        have ham : a + m ≤ L := by rw [HLL.out]; exact tk.en
        have HT2 : Hid (m = K.size + 1 + (Lib.decDigits (xs k)).length ∧ m = (tok xs (k + 1)).length ∧ K = kb k ∧ K.size = (key k).length) := ⟨hmK2, hM, hK, hKs⟩
        clear hM hmK2 hA hK hKs htl hsplit
        go_wp2_with fail
        refine (token_at _ L _ (k + 1) a (a + m) ((k : Int) + 1) a ((a : Int) + m) (line xs 5) _ HLL.out.symm (by omega) (by omega) hr tk (by omega) rfl (by omega)).mono ?_
        rintro e w11 ⟨rfl, rfl⟩
        go_wp2_with fail
        refine (key_any K _ _).mono ?_
        rintro e w12 ⟨rfl, hb12⟩
        have hrt12 : RB w12 (some ⟨g2, a, none⟩) (key k ++ (61 :: Lib.decDigits (xs k))) := hrt.later hb12
        have bx12 := blk_later bx hb12
        have hbr12 : Below w10.heap.size w10 w12 := hbr.trans (hb12.mono hbr.size)
        have hcv1 : ∀ cap, (convert 34 9 (.slice (some ⟨g2, a, none⟩) K.size cap)).run Tryd.prog w12 = .ok (.string K) w12 := fun cap => by
          have h := conv_rb hrt12.left cap
          obtain ⟨_, _, e1, e2⟩ := HT2.out
          rw [e2, e1]; exact h
        have c61 : w12.cell? ⟨g2, a + K.size, none⟩ = some (.int .u8 61) := by
          have h := hrt12.right
          rw [← HT2.out.2.2.2] at h
          obtain ⟨b', o', h1, h2⟩ := h.at rfl (j := 0) (by simp)
          cases h1
          exact h2
        have hcv2 : ∀ cap, (convert 34 9 (.slice (some ⟨g2, a + (K.size + 1), none⟩) (m - (K.size + 1)) cap)).run Tryd.prog w12 = .ok (.string (numeral (xs k))) w12 := fun cap => by
          have h : RB w12 (some ⟨g2, a, none⟩) ((key k ++ [61]) ++ Lib.decDigits (xs k)) := by simpa using hrt12
          have h2 := conv_rb h.right cap
          rw [List.length_append, ← HT2.out.2.2.2] at h2
          have e : m - (K.size + 1) = (Lib.decDigits (xs k)).length := by have := HT2.out.1; omega
          rw [e]
          exact h2
        have y0 : w12.cell? ⟨w.heap.size, 0, none⟩ = some (.int .u64 (xs 0)) := by simp [World.cell?, bx12]
        have y1 : w12.cell? ⟨w.heap.size, 1, none⟩ = some (.int .u64 (xs 1)) := by simp [World.cell?, bx12]
        have y2 : w12.cell? ⟨w.heap.size, 2, none⟩ = some (.int .u64 (xs 2)) := by simp [World.cell?, bx12]
        have y3 : w12.cell? ⟨w.heap.size, 3, none⟩ = some (.int .u64 (xs 3)) := by simp [World.cell?, bx12]
        have y4 : w12.cell? ⟨w.heap.size, 4, none⟩ = some (.int .u64 (xs 4)) := by simp [World.cell?, bx12]
        clear hb12 hrt12 bx12 hrt bx ck cp hc tk
        go_wp2_with fail
        refine (parse_numeral (xs k) (HX.out k) _).mono ?_
        rintro e w13 ⟨rfl, rfl⟩
        go_wp2_with fail
        refine (field_any xs k hlt _).mono ?_
        rintro e w14 ⟨rfl, hb14⟩
        have hbr14 : Below w10.heap.size w10 w14 := hbr12.trans (hb14.mono hbr12.size)
        clear hcv1 hcv2 c61 y0 y1 y2 y3 y4
        go_wp2
        go_roundw
        case rel => exact ⟨k + 1, by omega, by go_num, hbr14⟩
        case measure => simp [intOf]; omega
      · go_wp2
        go_ret
        exact ⟨rfl, hbw10.trans (hbr.mono hbw10.size)⟩
end Go.Proofs.Qxb6617319aDoor
