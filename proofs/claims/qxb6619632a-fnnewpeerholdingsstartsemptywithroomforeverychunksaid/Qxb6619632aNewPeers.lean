/-
  Seat b6619632a: what newPeerHoldings makes.
-/
import Derived.Test.Qxb6619632aRows
import Derived.WalkKit
import Derived.WalkSpells
import Derived.WalkLawsBesides
import Derived.Deep.OwnRows
import Derived.Deep.DeepCutAuto
import Derived.Deep.RegionHeld3
import Derived.BigRegion
namespace Go.Proofs.Qxb6619632a
open Go.RowKit

theorem Try.info3 : (Try.prog.info? 3).map (fun i => (i.zero, i.size, i.bytes)) = some (some (.int .i64 0), 1, 8) := by kernel_rfl
theorem Try.info38 : (Try.prog.info? 38).map (fun i => (i.zero, i.size, i.bytes)) = some (some (.int .u64 0), 1, 8) := by kernel_rfl

theorem rowIs_made_at (W : World) (z : Value) (n : Nat) (t : TypeId) (b : Nat) (hb : b = W.heap.size) : (W.alloc (.cells (madeCells #[z] n) t)).rowIs b t n (fun _ => z) := by
  subst hb; exact World.rowIs_made _ _ _ _

/-- -1 in the first k places, 0 behind. -/
def filled (k : Nat) (j : Nat) : Value := if j < k then .int .i64 (-1) else .int .i64 0

/-- The seven fields. -/
def fields (p s N h l o i : Nat) : Array Value := #[.int .i64 p, .int .i64 (((s : Int) + 63) / 64), .slice (some ⟨h, 0, none⟩) N N, .slice (some ⟨l, 0, none⟩) p p, .slice (some ⟨o, 0, none⟩) s s, .int .i64 0, .slice (some ⟨i, 0, none⟩) p p]

/-- The four rows and the struct, when the first k peers have been set. -/
structure Made (w : World) (p s N h l o i b k : Nat) : Prop where
  rh : w.rowIs h 38 N (fun _ => .int .u64 0)
  rl : w.rowIs l 3 p (filled k)
  ro : w.rowIs o 3 s (fun _ => .int .i64 0)
  ri : w.rowIs i 3 p (filled k)
  rb : w.heap[b]? = some (.cells (fields p s N h l o i) 44 (0, 0))

/-- The blocks are five. -/
structure Apart (B h l o i b : Nat) : Prop where
  lh : l ≠ h
  lo : l ≠ o
  li : l ≠ i
  lb : l ≠ b
  ih : i ≠ h
  io : i ≠ o
  ib : i ≠ b
  bl : B ≤ l
  bi : B ≤ i

theorem heap_new_at (W : World) (o : Obj) (b : Nat) (hb : b = W.heap.size) : (W.alloc o).heap[b]? = some o := by
  subst hb; exact Deep.blk_alloc_new _ _

theorem filled_zero : filled 0 = fun _ => .int .i64 0 := by funext j; simp [filled]

theorem filled_step (k : Nat) (j : Nat) : (if j = k then Value.int .i64 (-1) else filled k j) = filled (k + 1) j := by
  unfold filled
  by_cases h : j = k
  · subst h; simp
  · by_cases h2 : j < k
    · rw [if_neg h, if_pos h2, if_pos (by omega)]
    · rw [if_neg h, if_neg h2, if_neg (by omega)]

theorem Made.drew {w : World} {p s N h l o i b k : Nat} (m : Made w p s N h l o i b k) : Made w.drew p s N h l o i b k := ⟨m.rh, m.rl, m.ro, m.ri, m.rb⟩

theorem Made.step {w : World} {p s N h l o i b k B : Nat} (m : Made w p s N h l o i b k) (a : Apart B h l o i b) :
    Made ((w.setCell ⟨l, k, none⟩ (.int .i64 (-1))).setCell ⟨i, k, none⟩ (.int .i64 (-1))) p s N h l o i b (k + 1) where
  rh := (m.rh.setOther (fun e => a.lh e.symm) _).setOther (fun e => a.ih e.symm) _
  rl := ((m.rl.set k _).setOther a.li _).congr fun j _ => filled_step k j
  ro := (m.ro.setOther (fun e => a.lo e.symm) _).setOther (fun e => a.io e.symm) _
  ri := ((m.ri.setOther (fun e => a.li e.symm) _).set k _).congr fun j _ => filled_step k j
  rb := by rw [Deep.blk_setCell_other _ _ _ _ (fun e => a.ib e.symm), Deep.blk_setCell_other _ _ _ _ (fun e => a.lb e.symm)]; exact m.rb

theorem rel_box {w0 W : World} {p s N h l o i b : Nat} (hb : b = W.heap.size) (rh : W.rowIs h 38 N (fun _ => .int .u64 0)) (rl : W.rowIs l 3 p (fun _ => .int .i64 0)) (ro : W.rowIs o 3 s (fun _ => .int .i64 0)) (ri : W.rowIs i 3 p (fun _ => .int .i64 0))
    (hl : w0.heap.size ≤ l) (hi : w0.heap.size ≤ i) (n1 : l ≠ h) (n2 : l ≠ o) (n3 : l ≠ i) (n4 : i ≠ h) (n5 : i ≠ o) (bel : Below w0.heap.size w0 W) :
    ∃ h' l' o' i' b', Value.pointer (some ⟨b, 0, none⟩) = .pointer (some ⟨b', 0, none⟩) ∧ Made ((W.alloc (.cells (fields p s N h l o i) 44)).drew) p s N h' l' o' i' b' 0 ∧ Apart w0.heap.size h' l' o' i' b' ∧ Below w0.heap.size w0 ((W.alloc (.cells (fields p s N h l o i) 44)).drew) := by
  have h1 := rl.lt
  have h2 := ri.lt
  refine ⟨h, l, o, i, b, rfl, Made.drew ⟨rh.alloc _, ?_, ro.alloc _, ?_, heap_new_at _ _ _ hb⟩, ⟨n1, n2, n3, by omega, n4, n5, by omega, hl, hi⟩, (bel.alloc bel.size _).drew⟩
  · rw [filled_zero]; exact rl.alloc _
  · rw [filled_zero]; exact ri.alloc _

set_option maxHeartbeats 8000000 in
theorem new_any (p s N : Nat) (hp : p ≤ 65536) (hs : s ≤ 65536) (hN : N ≤ 67108864) (hP : (p : Int) * (((s : Int) + 63) / 64) = (N : Int)) (w : World) :
    Calls Try.prog 14 #[.int .i64 p, .int .i64 s] w fun e w' => ∃ h l o i b, e = .returned (.pointer (some ⟨b, 0, none⟩)) ∧ Made w' p s N h l o i b p ∧ Below w.heap.size w w' := by
  have mp := run_make_row' (P := Try.prog) 22 3 (.int .i64 0) 8 Try.underlying22 Try.info3 rfl .i64 .i64 p (by omega) (by omega)
  have ms := run_make_row' (P := Try.prog) 22 3 (.int .i64 0) 8 Try.underlying22 Try.info3 rfl .i64 .i64 s (by omega) (by omega)
  have mh := run_make_row' (P := Try.prog) 34 38 (.int .u64 0) 8 Try.underlying34 Try.info38 rfl .i64 .i64 N (by omega) (by omega)
  go_enter Try.func14, Try.ntmps14
  go_wp2
  go_cut [6] (fun v wc => ∃ h l o i b, v = .pointer (some ⟨b, 0, none⟩) ∧ Made wc p s N h l o i b 0 ∧ Apart w.heap.size h l o i b ∧ Below w.heap.size w wc)
  case first =>
    go_region
    all_goals
      go_wp2
      go_meet
      case rel =>
        refine rel_box (by simp) ?_ ?_ ?_ ?_ (by omega) (by omega) (by omega) (by omega) (by omega) (by omega) (by omega) ?_
        · repeat (first | (refine rowIs_made_at _ _ _ _ _ ?_; simp; done) | refine World.rowIs.alloc ?_ _)
        · repeat (first | (refine rowIs_made_at _ _ _ _ _ ?_; simp; done) | refine World.rowIs.alloc ?_ _)
        · repeat (first | (refine rowIs_made_at _ _ _ _ _ ?_; simp; done) | refine World.rowIs.alloc ?_ _)
        · repeat (first | (refine rowIs_made_at _ _ _ _ _ ?_; simp; done) | refine World.rowIs.alloc ?_ _)
        · exact ((((Below.refl _ _).alloc (by simp) _).alloc (by simp <;> omega) _).alloc (by simp <;> omega) _).alloc (by simp <;> omega) _
  case rest =>
    obtain ⟨h, l, o, i, b, rfl, hm, ha, hb⟩ := hcut
    clear mp ms mh
    go_wp2
    go_loopw [7] (fun v wr => ∃ k : Nat, k ≤ p ∧ v = .int .i64 k ∧ Made wr p s N h l o i b k ∧ Below w.heap.size w wr) (fun v _ => p - (intOf v).toNat)
    case atStart => exact ⟨0, Nat.zero_le _, rfl, hm, hb⟩
    case round =>
      clear hm hb
      obtain ⟨k, hk, rfl, hm, hb⟩ := hrel
      by_cases hlt : k < p
      · have hlt' : (k : Int) < (p : Int) := by omega
        have hk0 : (0 : Int) ≤ (k : Int) := by omega
        have c3 : wr.cell? ⟨b, 3, none⟩ = some (.slice (some ⟨l, 0, none⟩) p p) := by simp [World.cell?, hm.rb, fields]
        have c6 : wr.cell? ⟨b, 6, none⟩ = some (.slice (some ⟨i, 0, none⟩) p p) := by simp [World.cell?, hm.rb, fields]
        have cl := hm.rl.cell hlt
        have ci := hm.ri.cell hlt
        have fl := hm.rl.frozen k
        have fi := hm.ri.frozen k
        have n1 := ha.li
        have n2 := ha.lb
        have n3 := ha.ib
        go_wp2
        go_region_held3 (fun w' => w'.cell? ⟨b, 3, none⟩ = some (.slice (some ⟨l, 0, none⟩) p p) ∧ w'.cell? ⟨b, 6, none⟩ = some (.slice (some ⟨i, 0, none⟩) p p)) (go_keep) (fail)
        go_wp2
        go_roundw
        case rel => exact ⟨k + 1, by omega, by go_num, (hm.step ha).drew, ((hb.setCell ha.bl _).setCell ha.bi _).drew⟩
        case measure => simp [intOf]; omega
      · obtain rfl : k = p := by omega
        go_wp2
        go_ret
        exact ⟨h, l, o, i, b, rfl, hm, hb⟩
end Go.Proofs.Qxb6619632a
