/-
  Seat b6617319aD: AppendStats.
-/
import Derived.Test.Qxb6617319aDoorSmall
import Derived.Lib.AppendStr
import Derived.Lib.OthersKept
import Derived.Lib.OwnKind
namespace Go.Proofs.Qxb6617319aDoor
open Go.RowKit

def glob : Nat := 0
theorem glob_eq : Tryd.prog.globalNamed powName = some glob := by kernel_rfl

theorem Tab.below {B : Nat} {w w' : World} (h : Tab w) (hb : Below B w w') (hg : glob < B) : Tab w' := var?_below hb glob_eq hg h

theorem kept_block {w w' : World} (h : Lib.OthersKept 5 none w w') {k : Nat} {t : TypeId} {c : Array Value} (ht : t ≠ 5) (hb : w.heap[k]? = some (.cells c t (0, 0))) : w'.heap[k]? = some (.cells c t (0, 0)) :=
  h k _ hb (by simp) (by intro c' fz e; cases e; exact ht rfl)
theorem one_byte_at (w : World) (u : Value) (t : TypeId) (b : Nat) (hb : b = w.heap.size) : ∀ j x, [u][j]? = some x → (w.alloc (.cells #[u] t)).cell? ((⟨b, 0, none⟩ : Addr).add j) = some x := by
  subst hb; exact cell_one_new _ _ _
theorem kb_size (k : Nat) : (kb k).size = (key k).length := rfl
theorem strCells_kb (k : Nat) : Lib.strCells (kb k) = Lib.byteCells (key k) := rfl

set_option maxHeartbeats 4000000 in
theorem stats_any (B n : Nat) (sv : Value) (bs : List UInt8) (xs : Nat → Nat) (hx : ∀ i, xs i < 18446744073709551616) (w : World) (hown : w.ownsRow B 5 1 sv n (Lib.byteCells bs)) (hBw : B ≤ w.heap.size) (hlim : n ≤ 2000000) (htab : Tab w) (hg : glob < B) :
    Calls Tryd.prog 16 #[sv, st xs] w fun e w' => ∃ v', e = .returned v' ∧ w'.ownsRow B 5 1 v' (n + (line xs 5).length) (Lib.byteCells (bs ++ line xs 5)) ∧ Below B w w' ∧ Lib.OthersKept 5 none w w' := by
  obtain ⟨i0, hi, hz0, hz1, hz2⟩ := info_parts Tryd.inf5
  have HX : Hid (∀ i, xs i < 18446744073709551616) := hx
  have HT : Hid (Tab w) := htab
  clear hx htab
  go_enter Tryd.func16, Tryd.ntmps16
  go_wp2_with (at_builtin; refine Lib.wpList_append_own_string _ rfl (.tmp 7) _ 34 9 rfl B 5 i0 Tryd.underlying34 Tryd.underlying9 hi hz0 hz1 hz2 _ _ _ rfl (hown.alloc _) ⟨stats.toArray⟩ rfl ?_ ?_ ?_ ?_)
  case refine_1 => unfold maxLen; simp [ByteArray.size, stats]; omega
  case refine_2 => simp [ByteArray.size, stats]; omega
  case refine_3 => simp; omega
  intro v1 w1 hown1 hgrow1 _
  have hb1 : Below B w w1 := ((Below.refl _ _).alloc hBw _).grown hgrow1 (by simp; omega) (fun k hk => (hown.lt k hk).1)
  have hk1 : Lib.OthersKept 5 none w w1 := ((Lib.OthersKept.refl _ _ _).alloc _).grown hgrow1 (Lib.ownsRow_kind (hown.alloc _))
  have hbox1 : w1.heap[w.heap.size]? = some (.cells #[.int .u64 (xs 0), .int .u64 (xs 1), .int .u64 (xs 2), .int .u64 (xs 3), .int .u64 (xs 4)] 40 (0, 0)) := by
    rw [hgrow1.block w.heap.size (by simp) (fun e => ?_)]
    · exact Deep.blk_alloc_new _ _
    · have := (hown.lt w.heap.size e.symm).2; omega
  have hs1 : w.heap.size < w1.heap.size := (Array.getElem?_eq_some_iff.1 hbox1).1
  clear hgrow1 hown
  go_wp2_with fail
  refine (counters_any w.heap.size _).mono ?_
  rintro e w2 ⟨rfl, hw2⟩
  have hown2 : w2.ownsRow B 5 1 v1 (n + stats.length) (Lib.byteCells bs ++ Lib.strCells ⟨stats.toArray⟩) := by rw [hw2]; exact (hown1.alloc _).drew
  have hb2 : Below B w w2 := by rw [hw2]; exact (hb1.alloc (by omega) _).drew
  have hk2 : Lib.OthersKept 5 none w w2 := by rw [hw2]; exact (hk1.alloc _).drew
  have hbox2 : w2.heap[w.heap.size]? = some (.cells #[.int .u64 (xs 0), .int .u64 (xs 1), .int .u64 (xs 2), .int .u64 (xs 3), .int .u64 (xs 4)] 40 (0, 0)) := by
    rw [hw2]; show (w1.alloc _).heap[w.heap.size]? = _; rw [Deep.blk_alloc_lt _ _ _ hs1]; exact hbox1
  obtain ⟨H, hH⟩ : ∃ H, H = w1.heap.size := ⟨_, rfl⟩
  have hcs2 : w2.heap[H]? = some (.cells (cells10 w.heap.size) 51 (0, 0)) := by
    rw [hw2, hH]; exact Deep.blk_alloc_new _ _
  rw [← hH]
  clear hw2 hown1 hb1 hk1 hbox1 hs1 hH
  go_wp2
  go_loopw [0, 11] (fun v i wr => ∃ k : Nat, k ≤ 5 ∧ i = .int .i64 k ∧ wr.ownsRow B 5 1 v (n + (line xs k).length) (Lib.byteCells (bs ++ line xs k)) ∧ Below B w wr ∧ Lib.OthersKept 5 none w wr ∧ wr.heap[w.heap.size]? = some (.cells #[.int .u64 (xs 0), .int .u64 (xs 1), .int .u64 (xs 2), .int .u64 (xs 3), .int .u64 (xs 4)] 40 (0, 0)) ∧ wr.heap[H]? = some (.cells (cells10 w.heap.size) 51 (0, 0))) (fun _ i _ => 5 - (intOf i).toNat)
  case atStart =>
    refine ⟨0, by omega, rfl, ?_, hb2, hk2, hbox2, hcs2⟩
    rw [Lib.byteCells_append]
    exact hown2
  case round =>
    clear hown2 hb2 hk2 hbox2 hcs2
    obtain ⟨k, hk, rfl, hown, hb, hkept, hbox, hcs⟩ := hrel
    by_cases hlt : k < 5
    · have ck : wr.cell? ⟨H, k * 2, none⟩ = some (.string (kb k)) := by
        match k, hlt with
        | 0, _ => simp [World.cell?, hcs, cells10]
        | 1, _ => simp [World.cell?, hcs, cells10]
        | 2, _ => simp [World.cell?, hcs, cells10]
        | 3, _ => simp [World.cell?, hcs, cells10]
        | 4, _ => simp [World.cell?, hcs, cells10]
      have cp : wr.cell? ⟨H, k * 2 + 1, none⟩ = some (.pointer (some ⟨w.heap.size, k, none⟩)) := by
        match k, hlt with
        | 0, _ => simp [World.cell?, hcs, cells10]
        | 1, _ => simp [World.cell?, hcs, cells10]
        | 2, _ => simp [World.cell?, hcs, cells10]
        | 3, _ => simp [World.cell?, hcs, cells10]
        | 4, _ => simp [World.cell?, hcs, cells10]
      have cx : wr.cell? ⟨w.heap.size, k, none⟩ = some (.int .u64 (xs k)) := by
        match k, hlt with
        | 0, _ => simp [World.cell?, hbox]
        | 1, _ => simp [World.cell?, hbox]
        | 2, _ => simp [World.cell?, hbox]
        | 3, _ => simp [World.cell?, hbox]
        | 4, _ => simp [World.cell?, hbox]
      have hll := line_length xs HX.out k
      have hkl := key_length k
      have hsz := hb.size
      have HLL : Hid ((line xs k).length ≤ 5 + 34 * k) := hll
      obtain ⟨m, hm⟩ : ∃ m, m = n + (line xs k).length := ⟨_, rfl⟩
      have hmb : m ≤ 2000200 := by omega
      rw [← hm] at hown
      obtain ⟨X, hX⟩ : ∃ X, X = Lib.byteCells (bs ++ line xs k) := ⟨_, rfl⟩
      rw [← hX] at hown
      have HMX : Hid (m = n + (line xs k).length ∧ X = Lib.byteCells (bs ++ line xs k)) := ⟨hm, hX⟩
      clear hm hX hll
      go_wp2_with (at_builtin; refine wpList_append_own _ rfl (.tmp 15) (.tmp 16) 34 rfl B 5 i0 (.int .u8 0) 1 1 Tryd.underlying34 hi hz0 hz1 hz2 rfl (by decide) _ _ _ rfl ((hown.alloc _).alloc _) ⟨wr.heap.size + 1, 0, none⟩ 1 1 [.int .u8 32] rfl rfl ?_ ?_ ?_ ?_ ?_ ?_)
      case refine_1 => exact one_byte_at _ _ _ _ (by simp)
      case refine_2 => intro u hu; simp at hu; subst hu; rfl
      case refine_3 => unfold maxLen; omega
      case refine_4 => omega
      case refine_5 => simp; omega
      intro v3 w3 hown3 hgrow3 _
      have k3 : Lib.OthersKept 5 none ((wr.alloc (.cells #[.string (kb k), .pointer (some ⟨w.heap.size, k, none⟩)] 51)).alloc (.cells #[.int .u8 32] 5)) w3 := (Lib.OthersKept.refl _ _ _).grown hgrow3 (Lib.ownsRow_kind ((hown.alloc _).alloc _))
      have b3 : Below B w w3 := ((hb.alloc (by omega) _).alloc (by simp; omega) _).grown hgrow3 (by simp; omega) (fun k hk => (hown.lt k hk).1)
      have hc3 : w3.heap[wr.heap.size]? = some (.cells #[.string (kb k), .pointer (some ⟨w.heap.size, k, none⟩)] 51 (0, 0)) := by
        refine kept_block k3 (by decide) ?_
        rw [Deep.blk_alloc_lt _ _ _ (by simp)]; exact Deep.blk_alloc_new _ _
      have hbox3 := kept_block (((Lib.OthersKept.refl 5 none wr).alloc _).alloc _ |>.trans k3) (by decide) hbox
      have hcs3 := kept_block (((Lib.OthersKept.refl 5 none wr).alloc _).alloc _ |>.trans k3) (by decide) hcs
      have kept3 : Lib.OthersKept 5 none w w3 := (hkept.alloc _).alloc _ |>.trans k3
      have c30 : w3.cell? ⟨wr.heap.size, 0, none⟩ = some (.string (kb k)) := by simp [World.cell?, hc3]
      have hs3 : wr.heap.size < w3.heap.size := (Array.getElem?_eq_some_iff.1 hc3).1
      clear hgrow3 k3 hown hb hkept hbox hcs ck cp cx
      go_wp2_with (at_builtin; refine Lib.wpList_append_own_string _ rfl (.tmp 18) (.tmp 20) 34 9 rfl B 5 i0 Tryd.underlying34 Tryd.underlying9 hi hz0 hz1 hz2 _ _ _ rfl hown3 (kb k) rfl ?_ ?_ ?_ ?_)
      case refine_1 => rw [kb_size]; unfold maxLen; omega
      case refine_2 => rw [kb_size]; omega
      case refine_3 => omega
      intro v4 w4 hown4 hgrow4 _
      have k4 : Lib.OthersKept 5 none w3 w4 := (Lib.OthersKept.refl _ _ _).grown hgrow4 (Lib.ownsRow_kind hown3)
      have b4 : Below B w w4 := b3.grown hgrow4 (by omega) (fun k hk => (hown3.lt k hk).1)
      have hc4 := kept_block k4 (by decide) hc3
      have hbox4 := kept_block k4 (by decide) hbox3
      have hcs4 := kept_block k4 (by decide) hcs3
      have kept4 := kept3.trans k4
      have hs4 : wr.heap.size < w4.heap.size := (Array.getElem?_eq_some_iff.1 hc4).1
      clear hgrow4 k4 hown3 b3 kept3 hbox3 hcs3 hc3 c30
      go_wp2_with (at_builtin; refine wpList_append_own _ rfl (.tmp 22) (.tmp 23) 34 rfl B 5 i0 (.int .u8 0) 1 1 Tryd.underlying34 hi hz0 hz1 hz2 rfl (by decide) _ _ _ rfl (hown4.alloc _) ⟨w4.heap.size, 0, none⟩ 1 1 [.int .u8 61] rfl rfl ?_ ?_ ?_ ?_ ?_ ?_)
      case refine_1 => exact one_byte_at _ _ _ _ (by simp)
      case refine_2 => intro u hu; simp at hu; subst hu; rfl
      case refine_3 => rw [kb_size]; unfold maxLen; omega
      case refine_4 => rw [kb_size]; omega
      case refine_5 => simp; omega
      intro v5 w5 hown5 hgrow5 _
      have k5 : Lib.OthersKept 5 none w4 w5 := ((Lib.OthersKept.refl _ _ _).alloc _).grown hgrow5 (Lib.ownsRow_kind (hown4.alloc _))
      have b5 : Below B w w5 := (b4.alloc (by omega) _).grown hgrow5 (by simp; omega) (fun k hk => (hown4.lt k hk).1)
      have hc5 := kept_block k5 (by decide) hc4
      have hbox5 := kept_block k5 (by decide) hbox4
      have hcs5 := kept_block k5 (by decide) hcs4
      have kept5 := kept4.trans k5
      have c51 : w5.cell? ⟨wr.heap.size, 1, none⟩ = some (.pointer (some ⟨w.heap.size, k, none⟩)) := by simp [World.cell?, hc5]
      have c52 : w5.cell? ⟨w.heap.size, k, none⟩ = some (.int .u64 (xs k)) := by
        match k, hlt with
        | 0, _ => simp [World.cell?, hbox5]
        | 1, _ => simp [World.cell?, hbox5]
        | 2, _ => simp [World.cell?, hbox5]
        | 3, _ => simp [World.cell?, hbox5]
        | 4, _ => simp [World.cell?, hbox5]
      have b5s := b5.size
      clear hgrow5 k5 hown4 b4 kept4 hbox4 hcs4 hc4
      go_wp2_with fail
      refine (appendUint_any B _ (xs k) (HX.out k) v5 _ _ hown5 (by omega) (by rw [kb_size]; omega) (HT.out.below b5 hg)).mono ?_
      rintro e w6 ⟨v6, rfl, hown6, b6, k6⟩
      have hbox6 := kept_block k6 (by decide) hbox5
      have hcs6 := kept_block k6 (by decide) hcs5
      have kept6 := kept5.trans k6
      have bw6 := b5.trans b6
      have hown7 : w6.ownsRow B 5 1 v6 (n + (line xs (k + 1)).length) (Lib.byteCells (bs ++ line xs (k + 1))) := by
        obtain ⟨e1, e2⟩ := HMX.out
        have e3 : n + (line xs (k + 1)).length = m + 1 + (kb k).size + 1 + (Lib.decDigits (xs k)).length := by
          show n + (line xs k ++ (32 :: piece k (xs k))).length = _
          rw [e1, kb_size, List.length_append, List.length_cons, piece_length]; omega
        have e4 : Lib.byteCells (bs ++ line xs (k + 1)) = X ++ [.int .u8 32] ++ Lib.strCells (kb k) ++ [.int .u8 61] ++ Lib.byteCells (Lib.decDigits (xs k)) := by
          show Lib.byteCells (bs ++ (line xs k ++ (32 :: piece k (xs k)))) = _
          rw [e2, strCells_kb]
          simp [Lib.byteCells, piece]
        rw [e3, e4]
        first | exact hown6 | simpa using hown6
      clear hown6 hown5 k6 b6 b5 kept5 hbox5 hcs5 hc5 c51 c52
      go_wp2
      go_roundw
      case rel => exact ⟨k + 1, by omega, by go_num, hown7, bw6, kept6, hbox6, hcs6⟩
      case measure => simp [intOf]; omega
    · obtain rfl : k = 5 := by omega
      go_wp2
      go_ret
      exact ⟨_, rfl, hown, hb, hkept⟩
end Go.Proofs.Qxb6617319aDoor
