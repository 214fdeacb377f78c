/-
  Seat b6619216a: what 'refusals' and 'ZZRefusals' answer: a slice of the call's own that holds 'refs a r p q'.
-/
import Derived.Test.Qxb6619216aRows
import Derived.WalkKit
import Derived.WalkSpells
import Derived.WalkLawsBesides
namespace Go.Proofs.Qxb6619216a
open Go.RowKit

/-- The two codes, as the program's text lays them. -/
def unauth : ByteArray := { data := #[117, 110, 97, 117, 116, 104, 111, 114, 105, 122, 101, 100] }
def limited : ByteArray := { data := #[114, 97, 116, 101, 95, 108, 105, 109, 105, 116, 101, 100] }

theorem Try.info24 : (Try.prog.info? 24).map (fun i => (i.zero, i.size, i.bytes)) = some (some (.string ByteArray.empty), 1, 16) := by kernel_rfl

/-- What 'refusals' answers. -/
def refs (a r p q : Bool) : List ByteArray := (if a && !p then [unauth] else []) ++ (if r && !q then [limited] else [])

set_option maxHeartbeats 400000 in
theorem refusals_none (a r p q : Bool) (h1 : (a && !p) = false) (h2 : (r && !q) = false) (w : World) :
    Calls Try.prog 11 #[.agg #[.bool a, .bool r], .bool p, .bool q] w fun e w' => e = .returned (.slice none 0 0) ∧ Below w.heap.size w w' := by
  cases a <;> cases r <;> cases p <;> cases q <;> simp at h1 h2
  all_goals
    go_enter Try.func11, Try.ntmps11
    go_wp2
    go_ret
    exact ⟨rfl, (Below.refl _ _).alloc (Nat.le_refl _) _⟩

/-- A slice of the call's own that holds the strings ss, in whatever later world. -/
def Out (w : World) (v : Value) (ss : List ByteArray) : Prop := w.ownsRow 0 24 1 v ss.length (ss.map Value.string)

theorem own_one {base : Nat} {w : World} {v : Value} {n : Nat} {xs : List Value} (h : w.ownsRow base 24 1 v n xs) : w.ownsRow 0 24 1 v n xs := by
  obtain ⟨h1, h2⟩ := h
  refine ⟨h1, ?_⟩
  rcases h2 with h2 | ⟨g, cap, cur, hv, hg, r⟩
  · exact Or.inl h2
  · exact Or.inr ⟨g, cap, cur, hv, Nat.zero_le _, r⟩

theorem one_new_at (w : World) (u : Value) (t : TypeId) (b : Nat) (hb : b = w.heap.size) : ∀ j x, [u][j]? = some x → (w.alloc (.cells #[u] t)).cell? ((⟨b, 0, none⟩ : Addr).add j) = some x := by
  subst hb; exact cell_one_new _ _ _

set_option maxHeartbeats 400000 in
theorem refusals_u (a r p q : Bool) (h1 : (a && !p) = true) (h2 : (r && !q) = false) (w : World) :
    Calls Try.prog 11 #[.agg #[.bool a, .bool r], .bool p, .bool q] w fun e w' => ∃ v, e = .returned v ∧ Out w' v [unauth] ∧ Below w.heap.size w w' := by
  obtain ⟨i0, hi, hz0, hz1, hz2⟩ := info_parts Try.info24
  cases a <;> cases r <;> cases p <;> cases q <;> simp at h1 h2
  all_goals
    go_enter Try.func11, Try.ntmps11
    go_wp2_with (at_builtin; refine wpList_append_own _ rfl _ _ 22 rfl w.heap.size 24 i0 (.string ByteArray.empty) 1 16 Try.underlying22 hi hz0 hz1 hz2 rfl (by decide) _ _ _ rfl (World.ownsRow_nil _ _ _ _) ⟨w.heap.size + 1, 0, none⟩ 1 1 [.string unauth] rfl rfl ?_ ?_ ?_ ?_ ?_ ?_)
    case refine_1 => exact one_new_at _ _ _ _ (by simp)
    case refine_2 => intro u hu; simp at hu; subst hu; rfl
    case refine_3 => unfold maxLen; omega
    case refine_4 => omega
    case refine_5 => simp; omega
    intro v' w1 hown hgrow _
    have hb : Below w.heap.size w w1 := (((Below.refl _ _).alloc (Nat.le_refl _) _).alloc (by simp) _).grown hgrow (by simp; omega) (fun k h => by simp [Value.ownBlock] at h)
    have hc1 : w1.cell? ⟨w.heap.size, 1, none⟩ = _ := hgrow.cell (a := ⟨w.heap.size, 1, none⟩) (by simp [World.cell?_alloc_past]; rfl) (by simp [Value.ownBlock])
    go_wp2
    go_ret
    exact ⟨_, rfl, own_one hown, hb⟩

set_option maxHeartbeats 400000 in
theorem refusals_r (a r p q : Bool) (h1 : (a && !p) = false) (h2 : (r && !q) = true) (w : World) :
    Calls Try.prog 11 #[.agg #[.bool a, .bool r], .bool p, .bool q] w fun e w' => ∃ v, e = .returned v ∧ Out w' v [limited] ∧ Below w.heap.size w w' := by
  obtain ⟨i0, hi, hz0, hz1, hz2⟩ := info_parts Try.info24
  cases a <;> cases r <;> cases p <;> cases q <;> simp at h1 h2
  all_goals
    go_enter Try.func11, Try.ntmps11
    go_wp2_with (at_builtin; refine wpList_append_own _ rfl _ _ 22 rfl w.heap.size 24 i0 (.string ByteArray.empty) 1 16 Try.underlying22 hi hz0 hz1 hz2 rfl (by decide) _ _ _ rfl (World.ownsRow_nil _ _ _ _) ⟨w.heap.size + 1, 0, none⟩ 1 1 [.string limited] rfl rfl ?_ ?_ ?_ ?_ ?_ ?_)
    case refine_1 => exact one_new_at _ _ _ _ (by simp)
    case refine_2 => intro u hu; simp at hu; subst hu; rfl
    case refine_3 => unfold maxLen; omega
    case refine_4 => omega
    case refine_5 => simp; omega
    intro v' w1 hown hgrow _
    have hb : Below w.heap.size w w1 := (((Below.refl _ _).alloc (Nat.le_refl _) _).alloc (by simp) _).grown hgrow (by simp; omega) (fun k h => by simp [Value.ownBlock] at h)
    go_wp2
    go_ret
    exact ⟨_, rfl, own_one hown, hb⟩

set_option maxHeartbeats 400000 in
theorem refusals_ur (w : World) :
    Calls Try.prog 11 #[.agg #[.bool true, .bool true], .bool false, .bool false] w fun e w' => ∃ v, e = .returned v ∧ Out w' v [unauth, limited] ∧ Below w.heap.size w w' := by
  obtain ⟨i0, hi, hz0, hz1, hz2⟩ := info_parts Try.info24
  go_enter Try.func11, Try.ntmps11
  go_wp2_with (at_builtin; refine wpList_append_own _ rfl (.tmp 14) (.tmp 15) 22 rfl w.heap.size 24 i0 (.string ByteArray.empty) 1 16 Try.underlying22 hi hz0 hz1 hz2 rfl (by decide) _ _ _ rfl (World.ownsRow_nil _ _ _ _) ⟨w.heap.size + 1, 0, none⟩ 1 1 [.string unauth] rfl rfl ?_ ?_ ?_ ?_ ?_ ?_)
  case refine_1 => exact one_new_at _ _ _ _ (by simp)
  case refine_2 => intro u hu; simp at hu; subst hu; rfl
  case refine_3 => unfold maxLen; omega
  case refine_4 => omega
  case refine_5 => simp; omega
  intro v' w1 hown hgrow _
  have hb : Below w.heap.size w w1 := (((Below.refl _ _).alloc (Nat.le_refl _) _).alloc (by simp) _).grown hgrow (by simp; omega) (fun k h => by simp [Value.ownBlock] at h)
  have hc1 : w1.cell? ⟨w.heap.size, 1, none⟩ = _ := hgrow.cell (a := ⟨w.heap.size, 1, none⟩) (by simp [World.cell?_alloc_past]; rfl) (by simp [Value.ownBlock])
  have hsz := hb.size
  clear hgrow
  go_wp2_with (at_builtin; refine wpList_append_own _ rfl (.tmp 23) (.tmp 24) 22 rfl w.heap.size 24 i0 (.string ByteArray.empty) 1 16 Try.underlying22 hi hz0 hz1 hz2 rfl (by decide) _ _ _ rfl (hown.alloc _) ⟨w1.heap.size, 0, none⟩ 1 1 [.string limited] rfl rfl ?_ ?_ ?_ ?_ ?_ ?_)
  case refine_1 => exact one_new_at _ _ _ _ (by simp)
  case refine_2 => intro u hu; simp at hu; subst hu; rfl
  case refine_3 => unfold maxLen; omega
  case refine_4 => omega
  case refine_5 => simp; omega
  intro v2 w2 hown2 hgrow2 _
  have hb2 : Below w.heap.size w w2 := (hb.alloc hsz _).grown hgrow2 (by simp; omega) (fun k h => (hown.lt k h).1)
  go_wp2
  go_ret
  exact ⟨_, rfl, own_one hown2, hb2⟩

/-- 'refusals', at every input. -/
theorem refusals_any (a r p q : Bool) (w : World) :
    Calls Try.prog 11 #[.agg #[.bool a, .bool r], .bool p, .bool q] w fun e w' => ∃ v, e = .returned v ∧ Out w' v (refs a r p q) ∧ Below w.heap.size w w' := by
  by_cases h1 : (a && !p) = true
  · by_cases h2 : (r && !q) = true
    · have hh1 := h1
      have hh2 := h2
      simp at hh1 hh2
      obtain ⟨rfl, rfl⟩ := hh1
      obtain ⟨rfl, rfl⟩ := hh2
      exact refusals_ur w
    · have h2' : (r && !q) = false := by simpa using h2
      have e1 : refs a r p q = [unauth] := by simp [refs, h1, h2']
      rw [e1]
      exact refusals_u a r p q h1 h2' w
  · have h1' : (a && !p) = false := by simpa using h1
    by_cases h2 : (r && !q) = true
    · have e1 : refs a r p q = [limited] := by simp [refs, h1', h2]
      rw [e1]
      exact refusals_r a r p q h1' h2 w
    · have h2' : (r && !q) = false := by simpa using h2
      have e1 : refs a r p q = [] := by simp [refs, h1', h2']
      rw [e1]
      refine (refusals_none a r p q h1' h2' w).mono fun e w' ⟨he, hb⟩ => ⟨_, he, World.ownsRow_nil _ _ _ _, hb⟩

/-- 'ZZRefusals', at every input. -/
theorem zzrefusals_any (a r p q : Bool) (w : World) :
    Calls Try.prog 6 #[.bool a, .bool r, .bool p, .bool q] w fun e w' => ∃ v, e = .returned v ∧ Out w' v (refs a r p q) ∧ Below w.heap.size w w' := by
  go_enter Try.func6, Try.ntmps6
  go_wp2_with (go_at_call 11; refine (refusals_any a r p q _).mono ?_; rintro e w' ⟨v, rfl, ho, hb⟩)
  go_ret
  exact ⟨_, rfl, ho, hb⟩

end Go.Proofs.Qxb6619216a
