/-
  Plain facts of numerals with dots between them: no program in sight.
-/
import Derived.Test.YtomldkhafbpniaaDoorDec
namespace Go.Proofs.YtomldkhafbpniaaDoor
open Go.Lib

def tails (r : List Int) : List UInt8 := r.flatMap (fun y => 46 :: itoa y)
theorem dotted_cons (x : Int) (r : List Int) : dotted (x :: r) = itoa x ++ tails r := rfl
theorem tails_cons (x : Int) (r : List Int) : tails (x :: r) = 46 :: (itoa x ++ tails r) := by simp [tails]
theorem tails_nil : tails [] = [] := rfl
theorem tails_append (r s : List Int) : tails (r ++ s) = tails r ++ tails s := by simp [tails]

/-- a digit -/
def dig (c : UInt8) : Bool := decide (48 ≤ c.toNat) && decide (c.toNat ≤ 57)
theorem dig_of (d : Nat) (h : d < 10) : dig (UInt8.ofNat (48 + d)) = true := by
  have : (UInt8.ofNat (48 + d)).toNat = 48 + d := by rw [UInt8.toNat_ofNat']; omega
  unfold dig; rw [this]; simp; omega
theorem decDigits_dig (u : Nat) : ∀ b ∈ decDigits u, dig b = true := by
  induction u using Nat.strongRecOn with
  | _ u ih =>
    intro b hb
    by_cases h : u < 10
    · rw [decDigits_one h] at hb
      rw [List.mem_singleton] at hb
      rw [hb]
      exact dig_of u h
    · rw [decDigits_more h, List.mem_append] at hb
      rcases hb with hb | hb
      · exact ih (u / 10) (by omega) b hb
      · rw [List.mem_singleton] at hb
        rw [hb]
        exact dig_of (u % 10) (by omega)
theorem decDigits_ne (u : Nat) : decDigits u ≠ [] := by
  intro e
  have := decDigits_length u
  rw [e] at this
  have := nDigits_pos u
  simp at *
  omega
theorem itoa_cases (x : Int) : (∃ u : Nat, x = (u : Int) ∧ itoa x = decDigits u) ∨ (∃ u : Nat, 1 ≤ u ∧ x = -(u : Int) ∧ itoa x = 45 :: decDigits u) := by
  by_cases h : x < 0
  · obtain ⟨u, rfl⟩ : ∃ u : Nat, x = -(u : Int) := ⟨x.natAbs, by omega⟩
    exact .inr ⟨u, by omega, rfl, itoa_neg u (by omega)⟩
  · obtain ⟨u, rfl⟩ : ∃ u : Nat, x = (u : Int) := ⟨x.toNat, by omega⟩
    exact .inl ⟨u, rfl, itoa_nonneg u⟩
theorem dig_ne46 {c : UInt8} (h : dig c = true) : c ≠ 46 := by rintro rfl; exact absurd h (by decide)
theorem dig_ne45 {c : UInt8} (h : dig c = true) : c ≠ 45 := by rintro rfl; exact absurd h (by decide)
theorem itoa_ne46 (x : Int) : ∀ b ∈ itoa x, b ≠ 46 := by
  intro b hb
  rcases itoa_cases x with ⟨u, _, e⟩ | ⟨u, _, _, e⟩
  · rw [e] at hb; exact dig_ne46 (decDigits_dig u b hb)
  · rw [e, List.mem_cons] at hb
    rcases hb with rfl | hb
    · decide
    · exact dig_ne46 (decDigits_dig u b hb)
theorem itoa_ne (x : Int) : itoa x ≠ [] := by
  intro e
  have := itoa_pos x
  rw [e] at this
  exact absurd this (by simp)

/-! the numeral tells its number -/
def val (l : List UInt8) : Nat := l.foldl (fun a b => a * 10 + (b.toNat - 48)) 0
theorem val_snoc (l : List UInt8) (c : UInt8) : val (l ++ [c]) = val l * 10 + (c.toNat - 48) := by simp [val]
theorem val_digits (u : Nat) : val (decDigits u) = u := by
  induction u using Nat.strongRecOn with
  | _ u ih =>
    by_cases h : u < 10
    · rw [decDigits_one h]
      have : (UInt8.ofNat (48 + u)).toNat = 48 + u := by rw [UInt8.toNat_ofNat']; omega
      simp only [val, List.foldl_cons, List.foldl_nil, this]
      omega
    · have : (UInt8.ofNat (48 + u % 10)).toNat = 48 + u % 10 := by rw [UInt8.toNat_ofNat']; omega
      rw [decDigits_more h, val_snoc, ih (u / 10) (by omega), this]
      omega
theorem decDigits_inj {u v : Nat} (h : decDigits u = decDigits v) : u = v := by rw [← val_digits u, h, val_digits v]
theorem not_minus (u v : Nat) : decDigits u ≠ 45 :: decDigits v := by
  intro e
  exact dig_ne45 (decDigits_dig u 45 (by rw [e]; simp)) rfl
theorem itoa_inj {x y : Int} (h : itoa x = itoa y) : x = y := by
  rcases itoa_cases x with ⟨u, hx, e⟩ | ⟨u, _, hx, e⟩ <;> rcases itoa_cases y with ⟨v, hy, f⟩ | ⟨v, _, hy, f⟩ <;> rw [e, f] at h
  · rw [hx, hy, decDigits_inj h]
  · exact absurd h (not_minus u v)
  · exact absurd h.symm (not_minus v u)
  · rw [hx, hy, decDigits_inj (List.cons.inj h).2]

/-! the text tells its numbers -/
def Starts (s : List UInt8) : Prop := s = [] ∨ ∃ t, s = 46 :: t
theorem tails_starts (r : List Int) : Starts (tails r) := by
  cases r with
  | nil => exact .inl rfl
  | cons x r => exact .inr ⟨_, tails_cons x r⟩
theorem cut : ∀ {p q s t : List UInt8}, (∀ b ∈ p, b ≠ 46) → (∀ b ∈ q, b ≠ 46) → Starts s → Starts t → p ++ s = q ++ t → p = q ∧ s = t
  | [], [], s, t, _, _, _, _, h => ⟨rfl, by simpa using h⟩
  | [], y :: q, s, t, _, hq, hs, _, h => by
    rcases hs with rfl | ⟨s', rfl⟩
    · simp at h
    · simp only [List.nil_append, List.cons_append, List.cons.injEq] at h
      exact absurd h.1.symm (hq y (by simp))
  | x :: p, [], s, t, hp, _, _, ht, h => by
    rcases ht with rfl | ⟨t', rfl⟩
    · simp at h
    · simp only [List.nil_append, List.cons_append, List.cons.injEq] at h
      exact absurd h.1 (hp x (by simp))
  | x :: p, y :: q, s, t, hp, hq, hs, ht, h => by
    simp only [List.cons_append, List.cons.injEq] at h
    obtain ⟨rfl, h⟩ := h
    obtain ⟨rfl, h2⟩ := cut (fun b hb => hp b (by simp [hb])) (fun b hb => hq b (by simp [hb])) hs ht h
    exact ⟨rfl, h2⟩
theorem tails_inj : ∀ {r s : List Int}, tails r = tails s → r = s
  | [], [], _ => rfl
  | [], y :: s, h => by rw [tails_cons, tails_nil] at h; exact absurd h (by simp)
  | x :: r, [], h => by rw [tails_cons, tails_nil] at h; exact absurd h (by simp)
  | x :: r, y :: s, h => by
    rw [tails_cons, tails_cons] at h
    obtain ⟨h1, h2⟩ := cut (itoa_ne46 x) (itoa_ne46 y) (tails_starts r) (tails_starts s) (List.cons.inj h).2
    rw [itoa_inj h1, tails_inj h2]
theorem dotted_ne {z : List Int} (h : z ≠ []) : dotted z ≠ [] := by
  cases z with
  | nil => exact absurd rfl h
  | cons x r => rw [dotted_cons]; simp [itoa_ne]
theorem dotted_inj : ∀ {z y : List Int}, dotted z = dotted y → z = y
  | [], [], _ => rfl
  | [], y :: s, h => absurd h.symm (dotted_ne (by simp))
  | x :: r, [], h => absurd h (dotted_ne (by simp))
  | x :: r, y :: s, h => by
    rw [dotted_cons, dotted_cons] at h
    obtain ⟨h1, h2⟩ := cut (itoa_ne46 x) (itoa_ne46 y) (tails_starts r) (tails_starts s) h
    rw [itoa_inj h1, tails_inj h2]
theorem dotted_append {z y : List Int} (hz : z ≠ []) (hy : y ≠ []) : dotted (z ++ y) = dotted z ++ [46] ++ dotted y := by
  cases z with
  | nil => exact absurd rfl hz
  | cons x r =>
    cases y with
    | nil => exact absurd rfl hy
    | cons x' s =>
      rw [List.cons_append, dotted_cons, dotted_cons, dotted_cons, tails_append, tails_cons]
      simp

/-! what stands in the text -/
/-- the law's look at a byte: b says whether a dot stands ahead -/
def okc (b : Bool) (c : UInt8) : Bool := (c == 46 && !b) || (c == 45 && b) || dig c
def good : Bool → List UInt8 → Bool
  | b, [] => !b
  | b, c :: r => okc b c && good (c == 46) r
theorem good_digits : ∀ {l : List UInt8} {r : List UInt8} {b : Bool}, l ≠ [] → (∀ c ∈ l, dig c = true) → good b (l ++ r) = good false r
  | [], _, _, h, _ => absurd rfl h
  | [c], r, b, _, hd => by
    have h := hd c (by simp)
    have h2 : (c == 46) = false := by simpa using dig_ne46 h
    simp [good, okc, h, h2]
  | c :: c' :: l, r, b, _, hd => by
    have h := hd c (by simp)
    have h2 : (c == 46) = false := by simpa using dig_ne46 h
    have ih := good_digits (l := c' :: l) (r := r) (b := false) (by simp) (fun c hc => hd c (by simp at hc ⊢; exact .inr hc))
    rw [List.cons_append, good, h2, ih]
    simp [okc, h]
theorem good_itoa (x : Int) (r : List UInt8) : good true (itoa x ++ r) = good false r := by
  rcases itoa_cases x with ⟨u, _, e⟩ | ⟨u, _, _, e⟩
  · rw [e, good_digits (decDigits_ne u) (decDigits_dig u)]
  · rw [e, List.cons_append, good, show ((45 : UInt8) == 46) = false from rfl, good_digits (decDigits_ne u) (decDigits_dig u)]
    simp [okc]
theorem good_tails : ∀ r : List Int, good false (tails r) = true
  | [] => rfl
  | x :: r => by
    rw [tails_cons, good, show ((46 : UInt8) == 46) = true from rfl, good_itoa, good_tails r]
    rfl
theorem good_dotted {z : List Int} (h : z ≠ []) : good true (dotted z) = true := by
  cases z with
  | nil => exact absurd rfl h
  | cons x r => rw [dotted_cons, good_itoa, good_tails]

theorem count_itoa (x : Int) : (itoa x).count 46 = 0 := List.count_eq_zero.2 (fun h => itoa_ne46 x 46 h rfl)
theorem count_tails : ∀ r : List Int, (tails r).count 46 = r.length
  | [] => rfl
  | x :: r => by rw [tails_cons, List.count_cons, List.count_append, count_itoa, count_tails r]; simp
theorem count_dotted {z : List Int} (h : z ≠ []) : (dotted z).count 46 = z.length - 1 := by
  cases z with
  | nil => exact absurd rfl h
  | cons x r => rw [dotted_cons, List.count_append, count_itoa, count_tails]; simp
end Go.Proofs.YtomldkhafbpniaaDoor
