/-
  Seat b6619632a: the walk of FnMeasureResultAgreesAcrossAnyCut.
-/
import Derived.Test.Qxb6619632aCum
import Derived.Deep.QuietTactic
import Derived.BigQuiet
import Derived.OpenShut
namespace Go.Proofs.Qxb6619632a
open Go.RowKit

/-- What the caller knows of a slice that came in. -/
structure Came (w : World) (ao : Option Addr) (n k : Nat) (zs : List Int) : Prop where
  len : zs.length = n
  nil : ao = none → n = 0 ∧ k = 0
  cell : ∀ ad, ao = some ad → ∀ j, j < n → w.cell? (ad.add j) = some (.int .i64 (zs.getD j 0))

theorem Came.later {w w' : World} {ao : Option Addr} {n k : Nat} {zs : List Int} (h : Came w ao n k zs) (hb : Below w.heap.size w w') : Came w' ao n k zs :=
  ⟨h.len, h.nil, fun ad ha j hj => cell_later hb (h.cell ad ha j hj)⟩

theorem Reads.at {w : World} {ao : Option Addr} {n : Nat} {zs : List Int} (h : Reads w ao zs) (hn : zs.length = n) {j : Nat} (hj : j < n) :
    ∃ b off, ao = some ⟨b, off, none⟩ ∧ w.cell? ⟨b, off + j, none⟩ = some (.int .i64 (zs.getD j 0)) := by
  rcases h with h | ⟨b, off, h1, h2⟩
  · subst h; subst hn; simp at hj
  · exact ⟨b, off, h1, h2 j (by omega)⟩

theorem Try.info3' : (Try.prog.info? 3).map (fun i => (i.zero, i.size, i.bytes)) = some (some (.int .i64 0), 1, 8) := by kernel_rfl

theorem Reads.news {w : World} {ao : Option Addr} {zs : List Int} (h : Reads w ao zs) : ∀ ad, ao = some ad → ∀ j u, (zs.map (Value.int .i64))[j]? = some u → w.cell? (ad.add j) = some u := by
  intro ad ha j u hu
  have hj : j < zs.length := by simpa using (List.getElem?_eq_some_iff.1 hu).1
  obtain ⟨b, off, h1, h2⟩ := h.at rfl hj
  obtain rfl : ad = ⟨b, off, none⟩ := by rw [ha] at h1; exact Option.some.inj h1
  rw [add_at, h2]
  rw [List.getElem?_map, List.getElem?_eq_getElem hj] at hu
  rw [List.getD_eq_getElem?_getD, List.getElem?_eq_getElem hj]
  simpa using hu

theorem reads_own {w : World} {base g n cap : Nat} {za zb : List Int} (h : w.ownsRow base 3 1 (.slice (some ⟨g, 0, none⟩) n cap) n (za.map (Value.int .i64) ++ zb.map (Value.int .i64))) (hn : za.length + zb.length = n) : Reads w (some ⟨g, 0, none⟩) (za ++ zb) := by
  refine .inr ⟨g, 0, rfl, fun j hj => ?_⟩
  rw [List.length_append] at hj
  rw [Nat.zero_add, h.cellAt j (by omega), ← List.map_append, List.getElem?_map, List.getD_eq_getElem?_getD, List.getElem?_eq_getElem (by simpa using hj)]
  rfl

theorem Res.later {w w' : World} {d g n : Nat} {zs : List Int} {c r : Int} (h : Res w d g n zs c r) (hb : Below w.heap.size w w') : Res w' d g n zs c r :=
  ⟨rowIs_later h.rg hb, by rw [hb.block d (Array.getElem?_eq_some_iff.1 h.rd).1]; exact h.rd⟩

theorem below_grown {w w' : World} (h : w.grownBy w' none) : Below w.heap.size w w' := (Below.refl _ _).grown h (Nat.le_refl _) (fun k h => by cases h)

set_option maxRecDepth 100000 in
set_option maxHeartbeats 4000000 in
theorem cut_main (ao bo : Option Addr) (n k m k2 : Nat) (za zb : List Int) (c r : Int) (w : World) (hl : n ≤ 65536) (hl2 : m ≤ 65536) (ha : Came w ao n k za) (hb : Came w bo m k2 zb) :
    Calls Try.prog 4 #[.slice ao n k, .slice bo m k2, .int .i64 c, .int .i64 r] w fun e w' => e = .returned (.bool true) ∧ Below w.heap.size w w' := by
  obtain ⟨i0, hi, hz0, hz1, hz2⟩ := info_parts Try.info3'
  have HA : Hid (za.length = n) := ha.len
  have HB : Hid (zb.length = m) := hb.len
  go_enter Try.func4, Try.ntmps4
  go_wp2_with fail
  refine (bytes10_yes c r ao bo n k m k2 (by omega) _).mono ?_
  rintro e w0 ⟨rfl, rfl⟩
  go_wp2_with fail
  refine (clone_any ao n k za _ HA.out (by omega) ha.nil ha.cell).mono ?_
  rintro e w1 ⟨a1, k1, rfl, hn1, hr1, hb1⟩
  have HN1 : Hid (a1 = none → n = 0 ∧ k1 = 0) := hn1
  clear hn1
  go_wp2_with fail
  refine (clone_any bo m k2 zb _ HB.out (by omega) hb.nil (hb.later hb1).cell).mono ?_
  rintro e w2 ⟨b1, k3, rfl, hn2, hr2, hb2⟩
  have HN2 : Hid (b1 = none → m = 0 ∧ k3 = 0) := hn2
  have hr1 := hr1.later hb2
  have hbel : Below w0.heap.size w0 w2 := hb1.trans (hb2.mono hb1.size)
  clear hn2 hb1 hb2 ha hb
  go_wp2
  go_loop [9, 10] (fun t i => ∃ j : Nat, j ≤ n ∧ i = .int .i64 j ∧ t = .int .i64 (cum za j)) (fun _ i => n - (intOf i).toNat)
  case atStart => exact ⟨0, Nat.zero_le _, rfl, rfl⟩
  case round =>
    obtain ⟨j, hj, rfl, rfl⟩ := hrel
    by_cases hlt : j < n
    · obtain ⟨b, off, rfl, hcx⟩ := hr1.at HA.out hlt
      obtain ⟨z, hz⟩ : ∃ z, z = za.getD j 0 := ⟨_, rfl⟩
      have HZ : Hid (z = za.getD j 0) := hz
      rw [← hz] at hcx
      clear hz
      go_wp2
      go_round
      case rel => exact ⟨j + 1, by omega, by go_num, by show _ = Value.int .i64 (wrap64 (cum za j + za.getD j 0)); rw [← HZ.out]⟩
      case measure => simp [intOf]; omega
    · obtain rfl : n = j := by omega
      go_wp2
      go_loop [9, 11] (fun t i => ∃ q : Nat, q ≤ m ∧ i = .int .i64 q ∧ t = .int .i64 (cum (za ++ zb) (n + q))) (fun _ i => m - (intOf i).toNat)
      case atStart => exact ⟨0, Nat.zero_le _, rfl, by rw [Nat.add_zero, cum_left _ _ _ (by rw [HA.out]; exact Nat.le_refl _)]⟩
      case round =>
        obtain ⟨q, hq, rfl, rfl⟩ := hrel
        by_cases hlt : q < m
        · obtain ⟨b, off, rfl, hcx⟩ := hr2.at HB.out hlt
          obtain ⟨z, hz⟩ : ∃ z, z = (za ++ zb).getD (n + q) 0 := ⟨_, rfl⟩
          have HZ : Hid (z = (za ++ zb).getD (n + q) 0) := hz
          rw [← getD_right za zb q, HA.out, ← hz] at hcx
          clear hz
          go_wp2
          go_round
          case rel => exact ⟨q + 1, by omega, by go_num, by show _ = Value.int .i64 (wrap64 (cum (za ++ zb) (n + q) + (za ++ zb).getD (n + q) 0)); rw [← HZ.out]⟩
          case measure => simp [intOf]; omega
        · obtain rfl : m = q := by omega
          have hsz := hbel.size
          go_wp2_with (at_make; refine wpList_make_own _ rfl (.const (.int .i64 0)) (.tmp 67) 22 rfl w0.heap.size 3 i0 (.int .i64 0) 1 Try.underlying22 hi hz0 hz1 .i64 .i64 _ (n + m) rfl rfl ?_ ?_ ?_ ?_ ?_)
          case refine_2 => omega
          case refine_3 => unfold maxLen; omega
          intro w3 hown3 hgrow3
          have hc3 : Below w2.heap.size w2 w3 := below_grown hgrow3
          have hg3 : w2.heap.size < w3.heap.size := (hown3.lt _ rfl).2
          have hr1' : Reads w3 a1 za := hr1.later hc3
          obtain ⟨g, hg⟩ : ∃ g, g = w2.heap.size := ⟨_, rfl⟩
          have HG : Hid (g = w2.heap.size) := hg
          rw [← hg] at hown3 ⊢
          clear hgrow3 hg
          go_wp2_with (at_builtin; refine wpList_append_fits_any _ rfl (.tmp 69) (.tmp 70) 22 rfl w0.heap.size 3 i0 1 Try.underlying22 hi hz1 g 0 (n + m) [] rfl hown3 a1 n k1 (za.map (Value.int .i64)) rfl ?_ HN1.out ?_ (ints_oneCell _ _) ?_ ?_)
          case refine_1 => simp [HA.out]
          case refine_2 => exact hr1'.news
          case refine_3 => omega
          intro w4 hown4 hgrow4
          have hc4 : Below w2.heap.size w2 w4 := hc3.grown hgrow4 (by omega) (fun k h => by cases h; rw [HG.out]; exact Nat.le_refl _)
          have hr2' : Reads w4 b1 zb := hr2.later hc4
          clear hgrow4 hr1' hc3 hown3
          go_wp2_with (at_builtin; refine wpList_append_fits_any _ rfl (.tmp 72) (.tmp 73) 22 rfl w0.heap.size 3 i0 1 Try.underlying22 hi hz1 g n (n + m) (za.map (Value.int .i64)) rfl hown4 b1 m k3 (zb.map (Value.int .i64)) rfl ?_ HN2.out ?_ (ints_oneCell _ _) ?_ ?_)
          case refine_1 => simp [HB.out]
          case refine_2 => exact hr2'.news
          case refine_3 => omega
          intro w5 hown5 hgrow5
          have hg5 := hgrow5.size
          have hg4 := hc4.size
          have hc5 : Below w2.heap.size w2 w5 := hc4.grown hgrow5 hc4.size (fun k h => by cases h; rw [HG.out]; exact Nat.le_refl _)
          have hr1' : Reads w5 a1 za := hr1.later hc5
          have hr2'' : Reads w5 b1 zb := hr2.later hc5
          have hr3 : Reads w5 (some ⟨g, 0, none⟩) (za ++ zb) := reads_own hown5 (by rw [HA.out, HB.out])
          have hb5 : Below w0.heap.size w0 w5 := hbel.trans (hc5.mono hsz)
          clear hgrow5 hr2' hc4 hown4 hown5 hc5 hr1 hr2 hbel hg3 hg4 hg5
          go_wp2_with fail
          refine (clone_reads a1 n k1 za _ HA.out (by omega) HN1.out hr1').mono ?_
          rintro e w6 ⟨a2, k6, rfl, _, hr4, hb6⟩
          go_wp2_with fail
          refine (clone_reads b1 m k3 zb _ HB.out (by omega) HN2.out (hr2''.later hb6)).mono ?_
          rintro e w7 ⟨b2, k7, rfl, _, hr5, hb7⟩
          have hr4 := hr4.later hb7
          have hr3 := (hr3.later hb6).later hb7
          have hb7 : Below w0.heap.size w0 w7 := hb5.trans ((hb6.trans (hb7.mono hb6.size)).mono hb5.size)
          clear hb5 hb6 hr1' hr2''
          by_cases hc0 : c = 0
          case pos =>
            subst hc0
            go_wp2_with fail
            refine (newMeasure_any 0 0 _ 0 ⟨_, _, _, rfl⟩ _).mono ?_
            rintro e w8 ⟨rfl, hw8⟩
            have hb8 : Below w0.heap.size w0 w8 := by rw [hw8]; exact hb7.alloc hb7.size _
            have m3 : w8.cell? ⟨w7.heap.size, 3, none⟩ = some (.int .i64 0) := by rw [hw8]; simp
            clear hw8
            go_wp2_with fail
            refine (zzresult_none w7.heap.size r _ m3).mono ?_
            rintro e w9 ⟨rfl, rfl⟩
            clear m3
            go_wp2_with fail
            refine (newMeasure_any 0 0 _ 0 ⟨_, _, _, rfl⟩ _).mono ?_
            rintro e w10 ⟨rfl, hw10⟩
            have hb10 : Below w0.heap.size w0 w10 := by rw [hw10]; exact hb8.alloc hb8.size _
            have m3 : w10.cell? ⟨w9.heap.size, 3, none⟩ = some (.int .i64 0) := by rw [hw10]; simp
            clear hw10
            go_wp2_with fail
            refine (zzresult_none w9.heap.size r _ m3).mono ?_
            rintro e w11 ⟨rfl, rfl⟩
            clear m3
            go_wp2_with fail
            refine (newMeasure_any 0 0 _ 0 ⟨_, _, _, rfl⟩ _).mono ?_
            rintro e w12 ⟨rfl, hw12⟩
            have hb12 : Below w0.heap.size w0 w12 := by rw [hw12]; exact hb10.alloc hb10.size _
            have m3 : w12.cell? ⟨w11.heap.size, 3, none⟩ = some (.int .i64 0) := by rw [hw12]; simp
            clear hw12
            go_wp2_with fail
            refine (zzresult_none w11.heap.size r _ m3).mono ?_
            rintro e w13 ⟨rfl, rfl⟩
            clear m3
            go_wp2
            go_ret
            exact ⟨by simp, hb12⟩
          case neg =>
            have hc1 : (c == 0) = false := by simpa using hc0
            clear hc0
            go_wp2_with fail
            refine (newMeasure_any 0 0 _ c ⟨_, _, _, rfl⟩ _).mono ?_
            rintro e w8 ⟨rfl, hw8⟩
            have hx8 : Below w7.heap.size w7 w8 := by rw [hw8]; exact (Below.refl _ _).alloc (Nat.le_refl _) _
            have m2 : w8.cell? ⟨w7.heap.size, 2, none⟩ = some (.slice a2 n k6) := by rw [hw8]; simp
            have m3 : w8.cell? ⟨w7.heap.size, 3, none⟩ = some (.int .i64 c) := by rw [hw8]; simp
            clear hw8
            go_wp2_with fail
            refine (zzresult_some w7.heap.size a2 n k6 za c r _ hc1 HA.out (by omega) m2 m3 (hr4.later hx8)).mono ?_
            rintro e w9 ⟨dA, gA, rfl, rA, hx9⟩
            have hx79 : Below w7.heap.size w7 w9 := hx8.trans (hx9.mono hx8.size)
            have hr5 := hr5.later hx79
            have hr3 := hr3.later hx79
            have hb9 : Below w0.heap.size w0 w9 := hb7.trans (hx79.mono hb7.size)
            clear hr4 m2 m3 hx8 hx9 hx79 hb7
            go_wp2_with fail
            refine (newMeasure_any 0 0 _ c ⟨_, _, _, rfl⟩ _).mono ?_
            rintro e w10 ⟨rfl, hw10⟩
            have hx10 : Below w9.heap.size w9 w10 := by rw [hw10]; exact (Below.refl _ _).alloc (Nat.le_refl _) _
            have m2 : w10.cell? ⟨w9.heap.size, 2, none⟩ = some (.slice b2 m k7) := by rw [hw10]; simp
            have m3 : w10.cell? ⟨w9.heap.size, 3, none⟩ = some (.int .i64 c) := by rw [hw10]; simp
            clear hw10
            go_wp2_with fail
            refine (zzresult_some w9.heap.size b2 m k7 zb c r _ hc1 HB.out (by omega) m2 m3 (hr5.later hx10)).mono ?_
            rintro e w11 ⟨dB, gB, rfl, rB, hx11⟩
            have hx911 : Below w9.heap.size w9 w11 := hx10.trans (hx11.mono hx10.size)
            have hr3 := hr3.later hx911
            have rA := rA.later hx911
            have hb11 : Below w0.heap.size w0 w11 := hb9.trans (hx911.mono hb9.size)
            clear hr5 m2 m3 hx10 hx11 hx911 hb9
            go_wp2_with fail
            refine (newMeasure_any 0 0 _ c ⟨_, _, _, rfl⟩ _).mono ?_
            rintro e w12 ⟨rfl, hw12⟩
            have hx12 : Below w11.heap.size w11 w12 := by rw [hw12]; exact (Below.refl _ _).alloc (Nat.le_refl _) _
            have m2 : w12.cell? ⟨w11.heap.size, 2, none⟩ = some (.slice (some ⟨g, 0, none⟩) (n + m) (n + m)) := by rw [hw12]; simp
            have m3 : w12.cell? ⟨w11.heap.size, 3, none⟩ = some (.int .i64 c) := by rw [hw12]; simp
            clear hw12
            go_wp2_with fail
            refine (zzresult_some w11.heap.size (some ⟨g, 0, none⟩) (n + m) (n + m) (za ++ zb) c r _ hc1 (by rw [List.length_append, HA.out, HB.out]) (by omega) m2 m3 (hr3.later hx12)).mono ?_
            rintro e w13 ⟨dC, gC, rfl, rC, hx13⟩
            have hx1113 : Below w11.heap.size w11 w13 := hx12.trans (hx13.mono hx12.size)
            have rA := rA.later hx1113
            have rB := rB.later hx1113
            have hb13 : Below w0.heap.size w0 w13 := hb11.trans (hx1113.mono hb11.size)
            clear hr3 m2 m3 hx12 hx13 hx1113 hb11
            have tl : wrap64 0 = 0 := by simp [wrap64]
            have A0 : w13.cell? ⟨dA, 0, none⟩ = some (.slice (some ⟨gA, 0, none⟩) n n) := by simp [World.cell?, rA.rd]
            have A1 : w13.cell? ⟨dA, 1, none⟩ = some (.int .i64 c) := by simp [World.cell?, rA.rd]
            have B0 : w13.cell? ⟨dB, 0, none⟩ = some (.slice (some ⟨gB, 0, none⟩) m m) := by simp [World.cell?, rB.rd]
            have B1 : w13.cell? ⟨dB, 1, none⟩ = some (.int .i64 c) := by simp [World.cell?, rB.rd]
            have C0 : w13.cell? ⟨dC, 0, none⟩ = some (.slice (some ⟨gC, 0, none⟩) (n + m) (n + m)) := by simp [World.cell?, rC.rd]
            have C1 : w13.cell? ⟨dC, 1, none⟩ = some (.int .i64 c) := by simp [World.cell?, rC.rd]
            have C2 : w13.cell? ⟨dC, 2, none⟩ = some (.int .i64 r) := by simp [World.cell?, rC.rd]
            have gA' := rA.rg
            have gB' := rB.rg
            have gC' := rC.rg
            have hA1 : 0 < n → w13.cell? ⟨gA, n - 1, none⟩ = some (.int .i64 (cum za n)) := fun h => by
              rw [gA'.cell (i := n - 1) (by omega)]; simp only [Nat.sub_add_cancel h]
            clear rA rB rC
            rcases (show 0 < n ∨ (n ≤ 0 ∧ 0 < m) ∨ (n ≤ 0 ∧ m ≤ 0) by omega) with hq1 | ⟨hq1, hq2⟩ | ⟨hq1, hq2⟩
            · go_wp2
              go_loopw [19] (fun i wr => ∃ j nq : Nat, j ≤ n ∧ i = .int .i64 j ∧ wr = w13.drewN nq) (fun i _ => n - (intOf i).toNat)
              case atStart => exact ⟨0, 0, Nat.zero_le _, rfl, rfl⟩
              case round =>
                obtain ⟨j, nq, hj, rfl, rfl⟩ := hrel
                by_cases hlt : j < n
                · have hcA : w13.cell? ⟨gA, j, none⟩ = some (.int .i64 (cum za (j + 1))) := gA'.cell hlt
                  have hcC : w13.cell? ⟨gC, j, none⟩ = some (.int .i64 (cum za (j + 1))) := by
                    rw [gC'.cell (i := j) (by omega)]
                    simp only [cum_left za zb (j + 1) (by rw [HA.out]; omega)]
                  have i0 : (0 : Int) ≤ (j : Int) := by omega
                  have i1 : (j : Int) < (n : Int) := by omega
                  have i2 : (j : Int) < (n : Int) + (m : Int) := by omega
                  go_wp2
                  go_quiet (fail)
                  go_wp2
                  go_roundw
                  case rel => exact ⟨j + 1, _, by omega, by go_num, rfl⟩
                  case measure => simp [intOf]; omega
                · obtain rfl : n = j := by omega
                  go_wp2
                  go_loopw [20] (fun i wr => ∃ q nq : Nat, q ≤ m ∧ i = .int .i64 q ∧ wr = w13.drewN nq) (fun i _ => m - (intOf i).toNat)
                  case atStart => exact ⟨0, nq, Nat.zero_le _, rfl, rfl⟩
                  case round =>
                    obtain ⟨q, nq2, hq, rfl, rfl⟩ := hrel
                    by_cases hlt2 : q < m
                    · obtain ⟨y, hy⟩ : ∃ y, y = cum zb (q + 1) := ⟨_, rfl⟩
                      have hcB : w13.cell? ⟨gB, q, none⟩ = some (.int .i64 y) := by rw [hy]; exact gB'.cell hlt2
                      have hyb : -9223372036854775808 ≤ y ∧ y ≤ 9223372036854775807 := by rw [hy]; exact cum_in _ _
                      obtain ⟨hy1, hy2⟩ := hyb
                      have hcC : w13.cell? ⟨gC, n + q, none⟩ = some (.int .i64 (wrap64 (cum za n + y))) := by
                        rw [hy, gC'.cell (i := n + q) (by omega)]
                        have := cum_right za zb (q + 1)
                        rw [HA.out] at this
                        rw [← this]; rfl
                      clear hy
                      have i0 : (0 : Int) ≤ (q : Int) := by omega
                      have i1 : (q : Int) < (m : Int) := by omega
                      have i2 : (n : Int) + (q : Int) < (n : Int) + (m : Int) := by omega
                      have i3 : (0 : Int) ≤ (n : Int) + (q : Int) := by omega
                      go_wp2
                      go_quiet (fail)
                      go_wp2
                      go_roundw
                      case rel => exact ⟨q + 1, _, by omega, by go_num, rfl⟩
                      case measure => simp [intOf]; omega
                    · obtain rfl : m = q := by omega
                      have hcC : w13.cell? ⟨gC, n + m - 1, none⟩ = some (.int .i64 (cum (za ++ zb) (n + m))) := by
                        rw [gC'.cell (i := n + m - 1) (by omega)]
                        have e : n + m - 1 + 1 = n + m := by omega
                        simp only [e]
                      have i0 : (0 : Int) < (n : Int) + (m : Int) := by omega
                      have i1 : (0 : Int) ≤ (n : Int) + (m : Int) - 1 := by omega
                      have i2 : (n : Int) + (m : Int) - 1 < (n : Int) + (m : Int) := by omega
                      go_wp2
                      go_quiet (fail)
                      go_wp2
                      go_ret
                      exact ⟨rfl, below_drewN (below_drewN hb13 _) _⟩
            · go_wp2
              go_loopw [19] (fun i wr => ∃ j nq : Nat, j ≤ n ∧ i = .int .i64 j ∧ wr = w13.drewN nq) (fun i _ => n - (intOf i).toNat)
              case atStart => exact ⟨0, 0, Nat.zero_le _, rfl, rfl⟩
              case round =>
                obtain ⟨j, nq, hj, rfl, rfl⟩ := hrel
                by_cases hlt : j < n
                · exfalso; omega
                · obtain rfl : n = j := by omega
                  go_wp2
                  go_loopw [20] (fun i wr => ∃ q nq : Nat, q ≤ m ∧ i = .int .i64 q ∧ wr = w13.drewN nq) (fun i _ => m - (intOf i).toNat)
                  case atStart => exact ⟨0, nq, Nat.zero_le _, rfl, rfl⟩
                  case round =>
                    obtain ⟨q, nq2, hq, rfl, rfl⟩ := hrel
                    by_cases hlt2 : q < m
                    · obtain ⟨y, hy⟩ : ∃ y, y = cum zb (q + 1) := ⟨_, rfl⟩
                      have hcB : w13.cell? ⟨gB, q, none⟩ = some (.int .i64 y) := by rw [hy]; exact gB'.cell hlt2
                      have hyb : -9223372036854775808 ≤ y ∧ y ≤ 9223372036854775807 := by rw [hy]; exact cum_in _ _
                      obtain ⟨hy1, hy2⟩ := hyb
                      have hcC : w13.cell? ⟨gC, n + q, none⟩ = some (.int .i64 y) := by
                        rw [hy, gC'.cell (i := n + q) (by omega)]
                        have e0 : za = [] := List.length_eq_zero_iff.1 (by rw [HA.out]; omega)
                        have e1 : n = 0 := by omega
                        rw [e0, e1]; simp
                      clear hy
                      have i0 : (0 : Int) ≤ (q : Int) := by omega
                      have i1 : (q : Int) < (m : Int) := by omega
                      have i2 : (n : Int) + (q : Int) < (n : Int) + (m : Int) := by omega
                      have i3 : (0 : Int) ≤ (n : Int) + (q : Int) := by omega
                      go_wp2
                      go_quiet (fail)
                      go_wp2
                      go_roundw
                      case rel => exact ⟨q + 1, _, by omega, by go_num, rfl⟩
                      case measure => simp [intOf]; omega
                    · obtain rfl : m = q := by omega
                      have hcC : w13.cell? ⟨gC, n + m - 1, none⟩ = some (.int .i64 (cum (za ++ zb) (n + m))) := by
                        rw [gC'.cell (i := n + m - 1) (by omega)]
                        have e : n + m - 1 + 1 = n + m := by omega
                        simp only [e]
                      have i0 : (0 : Int) < (n : Int) + (m : Int) := by omega
                      have i1 : (0 : Int) ≤ (n : Int) + (m : Int) - 1 := by omega
                      have i2 : (n : Int) + (m : Int) - 1 < (n : Int) + (m : Int) := by omega
                      go_wp2
                      go_quiet (fail)
                      go_wp2
                      go_ret
                      exact ⟨rfl, below_drewN (below_drewN hb13 _) _⟩
            · go_wp2
              go_loopw [19] (fun i wr => ∃ j nq : Nat, j ≤ n ∧ i = .int .i64 j ∧ wr = w13.drewN nq) (fun i _ => n - (intOf i).toNat)
              case atStart => exact ⟨0, 0, Nat.zero_le _, rfl, rfl⟩
              case round =>
                obtain ⟨j, nq, hj, rfl, rfl⟩ := hrel
                by_cases hlt : j < n
                · exfalso; omega
                · obtain rfl : n = j := by omega
                  go_wp2
                  go_loopw [20] (fun i wr => ∃ q nq : Nat, q ≤ m ∧ i = .int .i64 q ∧ wr = w13.drewN nq) (fun i _ => m - (intOf i).toNat)
                  case atStart => exact ⟨0, nq, Nat.zero_le _, rfl, rfl⟩
                  case round =>
                    obtain ⟨q, nq2, hq, rfl, rfl⟩ := hrel
                    by_cases hlt2 : q < m
                    · exfalso; omega
                    · obtain rfl : m = q := by omega
                      have i0 : decide ((0 : Int) < (n : Int) + (m : Int)) = false := decide_eq_false (by omega)
                      go_wp2
                      go_quiet (fail)
                      go_wp2
                      go_ret
                      exact ⟨rfl, below_drewN (below_drewN hb13 _) _⟩

set_option maxRecDepth 100000 in
set_option maxHeartbeats 1000000 in
theorem cut_walk (ao bo : Option Addr) (n k m k2 : Nat) (za zb : List Int) (c r : Int) (w : World) (hn : n ≤ maxLen) (hm : m ≤ maxLen) (ha : Came w ao n k za) (hb : Came w bo m k2 zb) :
    Calls Try.prog 4 #[.slice ao n k, .slice bo m k2, .int .i64 c, .int .i64 r] w fun e w' => e = .returned (.bool true) ∧ Below w.heap.size w w' := by
  unfold maxLen at hn hm
  by_cases h1 : 1048576 < n + m
  · clear ha hb
    go_enter Try.func4, Try.ntmps4
    go_wp2_with fail
    refine (bytes10_no c r ao bo n k m k2 h1 hn hm _).mono ?_
    rintro e w0 ⟨rfl, rfl⟩
    go_wp2_with fail
    go_ret
    exact ⟨rfl, Below.refl _ _⟩
  by_cases h2 : 65536 < n
  · clear ha hb
    go_enter Try.func4, Try.ntmps4
    go_wp2_with fail
    refine (bytes10_yes c r ao bo n k m k2 (by omega) _).mono ?_
    rintro e w0 ⟨rfl, rfl⟩
    go_wp2_with fail
    go_ret
    exact ⟨rfl, Below.refl _ _⟩
  by_cases h3 : 65536 < m
  · clear ha hb
    go_enter Try.func4, Try.ntmps4
    go_wp2_with fail
    refine (bytes10_yes c r ao bo n k m k2 (by omega) _).mono ?_
    rintro e w0 ⟨rfl, rfl⟩
    go_wp2_with fail
    go_ret
    exact ⟨rfl, Below.refl _ _⟩
  exact cut_main ao bo n k m k2 za zb c r w (by omega) (by omega) ha hb
end Go.Proofs.Qxb6619632a
