/-
  Seat b6617319aD: the plain law: the stats line, its pieces, their numerals. No Go in sight.
-/
import Derived.Test.Qxb6617319aDoorToks
import Derived.Lib.ItoaNum
namespace Go.Proofs.Qxb6617319aDoor
open Go.RowKit

def key : Nat → List UInt8
  | 0 => [118, 105, 101, 119, 115]
  | 1 => [109, 115, 103, 115, 95, 97, 112, 112]
  | 2 => [109, 115, 103, 115, 95, 99, 111, 110, 116, 114, 111, 108]
  | 3 => [115, 121, 110, 99, 95, 115, 101, 110, 116]
  | 4 => [102, 111, 114, 119, 97, 114, 100, 101, 100]
  | _ => []
def stats : List UInt8 := [115, 116, 97, 116, 115]
def piece (k u : Nat) : List UInt8 := key k ++ 61 :: Lib.decDigits u
def line (xs : Nat → Nat) : Nat → List UInt8
  | 0 => stats
  | k + 1 => line xs k ++ (32 :: piece k (xs k))

theorem byteAt_left (a b : List UInt8) (j : Nat) (h : j < a.length) : byteAt (a ++ b) j = byteAt a j := by
  unfold byteAt; rw [List.getD_eq_getElem?_getD, List.getD_eq_getElem?_getD, List.getElem?_append_left h]
theorem byteAt_right (a b : List UInt8) (j : Nat) : byteAt (a ++ b) (a.length + j) = byteAt b j := by
  unfold byteAt; rw [List.getD_eq_getElem?_getD, List.getD_eq_getElem?_getD, List.getElem?_append_right (by omega)]
  congr 4; omega
theorem byteAt_mem (a : List UInt8) (j : Nat) (h : j < a.length) : ∃ x ∈ a, byteAt a j = (x.toNat : Int) :=
  ⟨a[j], List.getElem_mem h, by simp [byteAt, h]⟩

def Bare (l : List UInt8) : Prop := ∀ x ∈ l, ¬ x = 32
theorem Bare.byte {l : List UInt8} (h : Bare l) {j : Nat} (hj : j < l.length) : ¬ byteAt l j = 32 := by
  obtain ⟨x, hx, he⟩ := byteAt_mem l j hj
  have := h x hx
  rw [he]
  intro h2
  apply this
  apply UInt8.toNat_inj.1
  have : (32 : UInt8).toNat = 32 := rfl
  omega

theorem blanks_left (a b : List UInt8) : ∀ j, j ≤ a.length → blanks (a ++ b) j = blanks a j
  | 0, _ => rfl
  | j + 1, h => by simp only [blanks]; rw [blanks_left a b j (by omega), byteAt_left a b j (by omega)]
theorem blanks_right (a b : List UInt8) : ∀ j, blanks (a ++ b) (a.length + j) = blanks a a.length + blanks b j
  | 0 => by rw [Nat.add_zero, blanks_left a b _ (Nat.le_refl _)]; rfl
  | j + 1 => by
    show blanks (a ++ b) (a.length + j) + (if byteAt (a ++ b) (a.length + j) = 32 then 1 else 0) = blanks a a.length + (blanks b j + if byteAt b j = 32 then 1 else 0)
    rw [blanks_right a b j, byteAt_right]; omega
theorem Bare.blanks {l : List UInt8} (h : Bare l) : ∀ j, j ≤ l.length → Qxb6617319aDoor.blanks l j = 0
  | 0, _ => rfl
  | j + 1, hj => by rw [blanks_no l j (h.byte (by omega)), Bare.blanks h j (by omega)]
theorem blanks_mono (l : List UInt8) (i : Nat) : ∀ d, blanks l i ≤ blanks l (i + d)
  | 0 => Nat.le_refl _
  | d + 1 => by have := blanks_mono l i d; show _ ≤ blanks l (i + d) + _; omega

/-- The t-th piece of bs lies at s up to e. -/
structure Tok (bs : List UInt8) (t s e : Nat) : Prop where
  se : s ≤ e
  en : e ≤ bs.length
  bg : begins bs e = s
  bl : ∀ j, j < e → byteAt bs j = 32 → blanks bs j < t
  nd : e < bs.length → byteAt bs e = 32 ∧ blanks bs e = t

theorem begins_in (a tok post : List UInt8) (hs : begins (a ++ tok ++ post) a.length = a.length) (ht : Bare tok) : ∀ j, j ≤ tok.length → begins (a ++ tok ++ post) (a.length + j) = a.length
  | 0, _ => hs
  | j + 1, h => by
    rw [← Nat.add_assoc, begins_no, begins_in a tok post hs ht j (by omega)]
    rw [List.append_assoc, byteAt_right, byteAt_left _ _ _ (by omega)]
    exact ht.byte (by omega)

theorem tok_of (a tok post : List UInt8) (t : Nat) (hb : blanks a a.length = t) (ha : a = [] ∨ ∃ a', a = a' ++ [32]) (ht : Bare tok) (hp : post = [] ∨ ∃ r, post = 32 :: r) :
    Tok (a ++ tok ++ post) t a.length (a.length + tok.length) where
  se := by omega
  en := by simp
  bg := by
    refine begins_in a tok post ?_ ht _ (Nat.le_refl _)
    rcases ha with rfl | ⟨a', rfl⟩
    · rfl
    · have e : (a' ++ [32]).length = a'.length + 1 := by simp
      rw [e]
      apply begins_yes
      rw [List.append_assoc, List.append_assoc]
      exact byteAt_right a' _ 0
  bl := by
    intro j hj h32
    by_cases h1 : j < a.length
    · have h2 : blanks (a ++ tok ++ post) (j + 1) = blanks (a ++ tok ++ post) j + 1 := blanks_yes _ j h32
      have h3 := blanks_mono (a ++ tok ++ post) (j + 1) (a.length - (j + 1))
      rw [show j + 1 + (a.length - (j + 1)) = a.length by omega, List.append_assoc, blanks_left a _ _ (Nat.le_refl _), hb] at h3
      rw [List.append_assoc] at h2
      rw [List.append_assoc]
      omega
    · exfalso
      obtain ⟨d, rfl⟩ : ∃ d, j = a.length + d := ⟨j - a.length, by omega⟩
      rw [List.append_assoc, byteAt_right, byteAt_left _ _ _ (by omega)] at h32
      exact ht.byte (by omega) h32
  nd := by
    intro he
    have hl : (a ++ tok).length = a.length + tok.length := by simp
    rcases hp with rfl | ⟨r, rfl⟩
    · simp at he
    · refine ⟨?_, ?_⟩
      · rw [← hl]; exact byteAt_right (a ++ tok) _ 0
      · rw [← hl, blanks_left _ _ _ (Nat.le_refl _), hl, blanks_right, hb, ht.blanks _ (Nat.le_refl _)]; rfl

theorem dec_digit (u : Nat) : ∀ x ∈ Lib.decDigits u, 48 ≤ x.toNat ∧ x.toNat ≤ 57 := by
  intro x hx
  rw [Lib.decDigits_eq] at hx
  obtain ⟨t, _, rfl⟩ := List.mem_map.1 hx
  unfold Lib.dg
  have h : (UInt8.ofNat (48 + u / 10 ^ (Lib.nDigits u - 1 - t) % 10)).toNat = 48 + u / 10 ^ (Lib.nDigits u - 1 - t) % 10 := by
    have : u / 10 ^ (Lib.nDigits u - 1 - t) % 10 < 10 := Nat.mod_lt _ (by decide)
    simp; omega
  rw [h]; have : u / 10 ^ (Lib.nDigits u - 1 - t) % 10 < 10 := Nat.mod_lt _ (by decide); omega

theorem key_range (k : Nat) : ∀ x ∈ key k, 95 ≤ x.toNat ∧ x.toNat ≤ 122 := by
  match k with
  | 0 => decide
  | 1 => decide
  | 2 => decide
  | 3 => decide
  | 4 => decide
  | k + 5 => intro x hx; cases hx
theorem key_length (k : Nat) : (key k).length ≤ 12 := by
  match k with
  | 0 => decide
  | 1 => decide
  | 2 => decide
  | 3 => decide
  | 4 => decide
  | k + 5 => exact Nat.zero_le _
theorem key_pos (k : Nat) (h : k < 5) : 5 ≤ (key k).length := by
  match k, h with
  | 0, _ => decide
  | 1, _ => decide
  | 2, _ => decide
  | 3, _ => decide
  | 4, _ => decide

theorem piece_bare (k u : Nat) : Bare (piece k u) := by
  intro x hx h
  subst h
  unfold piece at hx
  rcases List.mem_append.1 hx with h | h
  · have := (key_range k _ h).1; simp at this
  · rcases List.mem_cons.1 h with h | h
    · simp at h
    · have := (dec_digit u _ h).1; simp at this
theorem stats_bare : Bare stats := by unfold Bare; decide

theorem line_blanks (xs : Nat → Nat) : ∀ k, blanks (line xs k) (line xs k).length = k
  | 0 => stats_bare.blanks _ (Nat.le_refl _)
  | k + 1 => by
    have e1 : line xs (k + 1) = line xs k ++ ([32] ++ piece k (xs k)) := rfl
    rw [e1, List.length_append, blanks_right, line_blanks xs k, List.length_append, blanks_right, (piece_bare k (xs k)).blanks _ (Nat.le_refl _)]
    rfl

theorem line_split (xs : Nat → Nat) (t : Nat) : ∀ d, ∃ post, line xs (t + d) = line xs t ++ post ∧ (post = [] ∨ ∃ r, post = 32 :: r)
  | 0 => ⟨[], by simp, .inl rfl⟩
  | d + 1 => by
    obtain ⟨post, h1, h2⟩ := line_split xs t d
    refine ⟨post ++ (32 :: piece (t + d) (xs (t + d))), ?_, ?_⟩
    · have e : line xs (t + (d + 1)) = line xs (t + d) ++ (32 :: piece (t + d) (xs (t + d))) := rfl
      rw [e, h1, List.append_assoc]
    · rcases h2 with rfl | ⟨r, rfl⟩
      · exact .inr ⟨_, rfl⟩
      · exact .inr ⟨_, rfl⟩

/-- What lies ahead of the t-th piece; the piece. -/
def ahead (xs : Nat → Nat) : Nat → List UInt8
  | 0 => []
  | t + 1 => line xs t ++ [32]
def tok (xs : Nat → Nat) : Nat → List UInt8
  | 0 => stats
  | t + 1 => piece t (xs t)

theorem line_at (xs : Nat → Nat) (t k : Nat) (h : t ≤ k) : ∃ post, line xs k = ahead xs t ++ tok xs t ++ post ∧ (post = [] ∨ ∃ r, post = 32 :: r) := by
  obtain ⟨d, rfl⟩ : ∃ d, k = t + d := ⟨k - t, by omega⟩
  obtain ⟨post, h1, h2⟩ := line_split xs t d
  refine ⟨post, ?_, h2⟩
  rw [h1]
  match t with
  | 0 => rfl
  | t + 1 => show line xs t ++ (32 :: piece t (xs t)) ++ post = line xs t ++ [32] ++ piece t (xs t) ++ post; simp

theorem tok_bare (xs : Nat → Nat) (t : Nat) : Bare (tok xs t) := by
  match t with
  | 0 => exact stats_bare
  | t + 1 => exact piece_bare _ _

theorem line_tok (xs : Nat → Nat) (t k : Nat) (h : t ≤ k) : Tok (line xs k) t (ahead xs t).length ((ahead xs t).length + (tok xs t).length) := by
  obtain ⟨post, h1, h2⟩ := line_at xs t k h
  rw [h1]
  refine tok_of _ _ _ _ ?_ ?_ (tok_bare xs t) h2
  · match t with
    | 0 => rfl
    | t + 1 => show blanks (line xs t ++ [32]) (line xs t ++ [32]).length = t + 1; rw [List.length_append, blanks_right, line_blanks]; rfl
  · match t with
    | 0 => exact .inl rfl
    | t + 1 => exact .inr ⟨_, rfl⟩

theorem dec_length (u : Nat) (h : u < 18446744073709551616) : (Lib.decDigits u).length ≤ 20 := by
  rw [Lib.decDigits_length]
  by_cases h0 : u < 10
  · rw [Lib.nDigits_small h0]; omega
  · have := Lib.numDigits_eq u (by omega) h
    split at this <;> omega
theorem dec_pos (u : Nat) : 1 ≤ (Lib.decDigits u).length := by rw [Lib.decDigits_length]; exact Lib.nDigits_pos u
theorem piece_length (k u : Nat) : (piece k u).length = (key k).length + 1 + (Lib.decDigits u).length := by simp [piece]; omega
theorem line_length (xs : Nat → Nat) (hx : ∀ i, xs i < 18446744073709551616) : ∀ k, (line xs k).length ≤ 5 + 34 * k
  | 0 => by show stats.length ≤ _; decide
  | k + 1 => by
    have h1 := line_length xs hx k
    have h2 := key_length k
    have h3 := dec_length (xs k) (hx k)
    have h4 := piece_length k (xs k)
    show (line xs k ++ (32 :: piece k (xs k))).length ≤ _
    simp only [List.length_append, List.length_cons]
    omega
theorem line_pos (xs : Nat → Nat) : ∀ k, 5 ≤ (line xs k).length
  | 0 => by show 5 ≤ stats.length; decide
  | k + 1 => by have := line_pos xs k; show 5 ≤ (line xs k ++ _).length; rw [List.length_append]; omega

/-- '=' stands behind the key, and nowhere ahead. -/
theorem piece_eq (k u : Nat) : byteAt (piece k u) (key k).length = 61 := byteAt_right (key k) (61 :: Lib.decDigits u) 0
theorem piece_ne (k u j : Nat) (h : j < (key k).length) : ¬ byteAt (piece k u) j = 61 := by
  show ¬ byteAt (key k ++ _) j = 61
  rw [byteAt_left _ _ _ h]
  obtain ⟨x, hx, he⟩ := byteAt_mem (key k) j h
  have := (key_range k x hx).1
  rw [he]; omega

theorem pow_le_nDigits (u : Nat) : 1 < Lib.nDigits u → 10 ^ (Lib.nDigits u - 1) ≤ u := by
  induction u using Nat.strongRecOn with
  | _ u ih =>
    intro h
    by_cases h0 : u < 10
    · rw [Lib.nDigits_small h0] at h; omega
    · rw [Lib.nDigits_big h0, Nat.add_sub_cancel]
      by_cases h1 : 1 < Lib.nDigits (u / 10)
      · have := ih (u / 10) (by omega) h1
        have e : Lib.nDigits (u / 10) = (Lib.nDigits (u / 10) - 1) + 1 := by omega
        rw [e, Nat.pow_succ]
        omega
      · have h2 := Lib.nDigits_pos (u / 10)
        have e : Lib.nDigits (u / 10) = 1 := by omega
        rw [e]; omega

/-- The numeral as a Go string. -/
def numeral (u : Nat) : ByteArray := ⟨(Lib.decDigits u).toArray⟩
theorem numeral_size (u : Nat) : (numeral u).size = Lib.nDigits u := by
  show (Lib.decDigits u).toArray.size = _; simp [Lib.decDigits_length]
theorem numeral_at (u j : Nat) (h : j < (numeral u).size) : ((numeral u)[j]'h).toNat = 48 + u / 10 ^ (Lib.nDigits u - 1 - j) % 10 := by
  have h' : j < Lib.nDigits u := by rw [← numeral_size]; exact h
  have e : (numeral u)[j]'h = Lib.dg u (Lib.nDigits u - 1 - j) := by
    show (Lib.decDigits u).toArray[j]'_ = _
    simp [Lib.decDigits_eq]
  rw [e]
  unfold Lib.dg
  have : u / 10 ^ (Lib.nDigits u - 1 - j) % 10 < 10 := Nat.mod_lt _ (by decide)
  simp; omega

/-- What the first j digits give. -/
def val (u : Nat) (j : Nat) : Int := ((u / 10 ^ (Lib.nDigits u - j) : Nat) : Int)
theorem val_zero (u : Nat) : val u 0 = 0 := by
  unfold val; rw [Nat.sub_zero, Nat.div_eq_of_lt (Lib.lt_pow_nDigits u)]; rfl
theorem val_all (u : Nat) : val u (numeral u).size = (u : Int) := by
  unfold val; rw [numeral_size, Nat.sub_self]; simp
theorem val_step (u j : Nat) (h : j < (numeral u).size) (hu : u < 18446744073709551616) :
    48 ≤ (((numeral u)[j]'h).toNat : Int) ∧ (((numeral u)[j]'h).toNat : Int) ≤ 57 ∧ val u (j + 1) = val u j * 10 + ((((numeral u)[j]'h).toNat : Int) - 48) ∧ 0 ≤ val u j ∧ val u (j + 1) ≤ 18446744073709551615 := by
  have h' : j < Lib.nDigits u := by rw [← numeral_size]; exact h
  rw [numeral_at u j h]
  have hm : u / 10 ^ (Lib.nDigits u - 1 - j) % 10 < 10 := Nat.mod_lt _ (by decide)
  have e1 : Lib.nDigits u - (j + 1) = Lib.nDigits u - 1 - j := by omega
  have e2 : Lib.nDigits u - j = (Lib.nDigits u - 1 - j) + 1 := by omega
  have e3 : u / 10 ^ (Lib.nDigits u - j) = u / 10 ^ (Lib.nDigits u - 1 - j) / 10 := by rw [e2, Nat.pow_succ, Nat.div_div_eq_div_mul]
  have h5 : u / 10 ^ (Lib.nDigits u - 1 - j) ≤ u := Nat.div_le_self _ _
  unfold val
  rw [e1, e3]
  generalize u / 10 ^ (Lib.nDigits u - 1 - j) = q at *
  omega
theorem numeral_head (u : Nat) (h0 : 0 < (numeral u).size) (h : 1 < (numeral u).size) : ¬ ((((numeral u)[0]'h0).toNat : Int) = 48) := by
  rw [numeral_at u 0 h0]
  rw [numeral_size] at h
  have h1 := pow_le_nDigits u h
  have h2 := Lib.lt_pow_nDigits u
  rw [Nat.sub_zero]
  have h3 : 1 ≤ u / 10 ^ (Lib.nDigits u - 1) := (Nat.le_div_iff_mul_le (Nat.pow_pos (by decide))).2 (by omega)
  have h4 : u / 10 ^ (Lib.nDigits u - 1) < 10 := by
    rw [Nat.div_lt_iff_lt_mul (Nat.pow_pos (by decide))]
    have e : Lib.nDigits u = (Lib.nDigits u - 1) + 1 := by omega
    rw [e, Nat.pow_succ] at h2
    omega
  generalize u / 10 ^ (Lib.nDigits u - 1) = q at *
  omega

/-- zzParseCanon reads the numeral back. -/
theorem parse_numeral (u : Nat) (hu : u < 18446744073709551616) (w : World) :
    Calls Tryd.prog 11 #[.string (numeral u)] w fun e w' => e = .returned (.tuple #[.int .u64 u, .bool true]) ∧ w' = w := by
  have h0 : 0 < (numeral u).size := by rw [numeral_size]; exact Lib.nDigits_pos u
  have hl : (numeral u).size ≤ 1000 := by have := dec_length u hu; rw [Lib.decDigits_length] at this; rw [numeral_size]; omega
  have := parse_any (numeral u) (val u) w h0 hl (val_zero u) (fun j h => val_step u j h hu) (fun h => numeral_head u h0 h)
  rwa [val_all] at this
end Go.Proofs.Qxb6617319aDoor
