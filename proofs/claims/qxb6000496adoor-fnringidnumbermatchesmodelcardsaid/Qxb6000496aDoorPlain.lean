/-
  Seat b6000496aD: the plain laws (no Go in sight): what (RingID).number computes, as a function on lists of bytes; the decimal numeral read back.
-/
import Derived.Lib.ItoaNum
import Derived.Lib.ItoaMem
import Derived.Lib.AtoiAll
import Derived.Lib.Strings
namespace Go.Proofs.Qxb6000496aDoor
open Go.Lib

theorem u8_toNat_small (d : Nat) (h : d < 10) : (UInt8.ofNat (48 + d)).toNat = 48 + d := by
  rw [UInt8.toNat_ofNat']; omega

theorem dd_small {u : Nat} (h : u < 10) : decDigits u = [UInt8.ofNat (48 + u)] := by rw [decDigits, dif_pos h]
theorem dd_big {u : Nat} (h : ¬ u < 10) : decDigits u = decDigits (u / 10) ++ [UInt8.ofNat (48 + u % 10)] := by rw [decDigits, dif_neg h]

theorem dd_ne_nil (u : Nat) : decDigits u ≠ [] := by
  intro h
  have h1 := decDigits_length u
  have h2 := nDigits_pos u
  rw [h] at h1
  simp at h1
  omega

/-- One more digit behind a number that is not 0. -/
theorem dd_snoc (v d : Nat) (hv : 1 ≤ v) (hd : d < 10) : decDigits (v * 10 + d) = decDigits v ++ [UInt8.ofNat (48 + d)] := by
  rw [dd_big (by omega), show (v * 10 + d) / 10 = v by omega, show (v * 10 + d) % 10 = d by omega]

theorem parseUint10_append : ∀ (a b : List UInt8) (acc u : Nat), parseUint10 acc a = .ok u → parseUint10 acc (a ++ b) = parseUint10 u b
  | [], b, acc, u, h => by
    simp only [parseUint10] at h
    injection h with h
    subst h
    rfl
  | c :: r, b, acc, u, h => by
    simp only [parseUint10] at h
    simp only [List.cons_append, parseUint10]
    split at h
    · rename_i h1
      rw [if_pos h1]
      split at h
      · cases h
      · rename_i h2
        rw [if_neg h2]
        split at h
        · cases h
        · rename_i h3
          rw [if_neg h3]
          exact parseUint10_append r b _ u h
    · cases h

/-- The numeral of a uint64 reads back. -/
theorem parse_dd (u : Nat) (h : u < 18446744073709551616) : parseUint10 0 (decDigits u) = .ok u := by
  induction u using Nat.strongRecOn with
  | _ u ih =>
    by_cases hs : u < 10
    · have e := u8_toNat_small u hs
      rw [dd_small hs]
      simp only [parseUint10, e]
      rw [if_pos (by omega), if_neg (by omega), if_neg (by omega)]
      congr 1
      omega
    · have e := u8_toNat_small (u % 10) (by omega)
      rw [dd_big hs, parseUint10_append _ _ _ _ (ih (u / 10) (by omega) (by omega))]
      simp only [parseUint10, e]
      rw [if_pos (by omega), if_neg (by omega), if_neg (by omega)]
      congr 1
      omega

/-- Every byte of the numeral is a digit. -/
theorem dd_digit (u : Nat) : ∀ c ∈ decDigits u, 48 ≤ c.toNat ∧ c.toNat ≤ 57 := by
  induction u using Nat.strongRecOn with
  | _ u ih =>
    by_cases hs : u < 10
    · rw [dd_small hs]
      intro c hc
      simp only [List.mem_singleton] at hc
      subst hc
      rw [u8_toNat_small u hs]
      omega
    · rw [dd_big hs]
      intro c hc
      rcases List.mem_append.1 hc with h | h
      · exact ih (u / 10) (by omega) c h
      · simp only [List.mem_singleton] at h
        subst h
        rw [u8_toNat_small (u % 10) (by omega)]
        omega

/-- strconv.Atoi of the numeral of a number that an int holds. -/
theorem atoi_dd (u : Nat) (h : u < 9223372036854775808) : atoiAll (decDigits u) = .ok (u : Int) := by
  cases hl : decDigits u with
  | nil => exact absurd hl (dd_ne_nil u)
  | cons c r =>
    have hc : 48 ≤ c.toNat ∧ c.toNat ≤ 57 := dd_digit u c (by rw [hl]; exact List.mem_cons_self)
    have hp : parseMag (c :: r) = .ok u := by
      unfold parseMag
      rw [if_neg (by simp), ← hl]
      exact parse_dd u (by omega)
    have e1 : ¬ (c.toNat = 43 ∨ c.toNat = 45) := by omega
    have e2 : ¬ c.toNat = 45 := by omega
    simp only [atoiAll, if_neg e1, hp]
    rw [if_neg (by omega), if_neg (by omega), if_neg e2]

/-- WHAT (RingID).number COMPUTES, on the two strings' bytes. -/
def numOf (id name : List UInt8) : Int :=
  if hasPrefix id name = true then
    if trimPrefix id name = [] then 1
    else match atoiAll (trimPrefix (trimPrefix id name) [35]) with
      | .ok n => if hasPrefix (trimPrefix id name) [35] = true ∧ 2 ≤ n ∧ itoa n = trimPrefix (trimPrefix id name) [35] then n else 0
      | _ => 0
  else 0

theorem hasPrefix_append (a b : List UInt8) : hasPrefix (a ++ b) a = true := by
  unfold hasPrefix
  rw [List.isPrefixOf_iff_prefix]
  exact List.prefix_append a b
theorem trimPrefix_append (a b : List UInt8) : trimPrefix (a ++ b) a = b := by
  unfold trimPrefix
  rw [if_pos (hasPrefix_append a b), List.drop_left]
theorem of_hasPrefix {s p : List UInt8} (h : hasPrefix s p = true) : s = p ++ trimPrefix s p := by
  unfold hasPrefix at h
  rw [List.isPrefixOf_iff_prefix] at h
  obtain ⟨t, rfl⟩ := h
  rw [trimPrefix_append]

/-- name itself bears 1. -/
theorem numOf_self (name : List UInt8) : numOf name name = 1 := by
  have h1 := hasPrefix_append name []
  have h2 := trimPrefix_append name []
  rw [List.append_nil] at h1 h2
  unfold numOf
  rw [if_pos h1, if_pos h2]

/-- name#n in canonical decimal bears n. -/
theorem numOf_numbered (name : List UInt8) (u : Nat) (h2 : 2 ≤ u) (hu : u < 9223372036854775808) : numOf (name ++ (35 :: decDigits u)) name = (u : Int) := by
  have e1 : trimPrefix (35 :: decDigits u) [35] = decDigits u := trimPrefix_append [35] (decDigits u)
  have e2 : hasPrefix (35 :: decDigits u) [35] = true := hasPrefix_append [35] (decDigits u)
  unfold numOf
  rw [if_pos (hasPrefix_append _ _), trimPrefix_append, if_neg (by simp), e1, atoi_dd u hu, e2]
  show (if true = true ∧ 2 ≤ (u : Int) ∧ itoa (u : Int) = decDigits u then (u : Int) else 0) = (u : Int)
  rw [if_pos ⟨rfl, by omega, itoa_nonneg u⟩]

/-- Never negative; 1 for name itself alone; a number from 2 on for name#k alone. -/
theorem numOf_cases (id name : List UInt8) : numOf id name = 0 ∨ (numOf id name = 1 ∧ id = name) ∨ ∃ u : Nat, 2 ≤ u ∧ numOf id name = (u : Int) ∧ id = name ++ (35 :: decDigits u) := by
  unfold numOf
  by_cases h1 : hasPrefix id name = true
  · rw [if_pos h1]
    have e1 := of_hasPrefix h1
    by_cases h2 : trimPrefix id name = []
    · rw [if_pos h2]
      rw [h2, List.append_nil] at e1
      exact Or.inr (Or.inl ⟨rfl, e1⟩)
    · rw [if_neg h2]
      split
      · rename_i n hn
        split
        · rename_i h3
          obtain ⟨h3, h4, h5⟩ := h3
          have e2 := of_hasPrefix h3
          obtain ⟨u, rfl⟩ : ∃ u : Nat, n = (u : Int) := ⟨n.toNat, by omega⟩
          rw [itoa_nonneg] at h5
          refine Or.inr (Or.inr ⟨u, by omega, rfl, ?_⟩)
          rw [← h5] at e2
          rw [e2] at e1
          exact e1
        · exact Or.inl rfl
      · exact Or.inl rfl
  · rw [if_neg h1]
    exact Or.inl rfl

theorem numOf_lt (id name : List UInt8) : numOf id name ≤ 9223372036854775807 := by
  unfold numOf
  split
  · split
    · omega
    · split
      · rename_i n hn
        split
        · have hb : n ≤ 9223372036854775807 := by
            revert hn
            unfold atoiAll
            split
            · intro h; cases h
            · simp only
              split
              · intro h; cases h
              · intro h; cases h
              · split
                · intro h; cases h
                · split
                  · intro h; cases h
                  · intro h
                    injection h with h
                    split at h <;> omega
          exact hb
        · omega
      · omega
  · omega

/-! ### zzCanonDecimal -/

/-- What zzCanonDecimal has gathered behind so many digits. -/
def accFrom (v : Nat) (l : List UInt8) : Nat := l.foldl (fun v c => v * 10 + (c.toNat - 48)) v
theorem accFrom_snoc (v : Nat) (l : List UInt8) (c : UInt8) : accFrom v (l ++ [c]) = accFrom v l * 10 + (c.toNat - 48) := by
  unfold accFrom
  rw [List.foldl_append]
  rfl
theorem accFrom_lt : ∀ (l : List UInt8) (v : Nat), (∀ c ∈ l, 48 ≤ c.toNat ∧ c.toNat ≤ 57) → accFrom v l < (v + 1) * 10 ^ l.length
  | [], v, _ => by simp [accFrom]
  | c :: r, v, hd => by
    have h1 := accFrom_lt r (v * 10 + (c.toNat - 48)) (fun x hx => hd x (List.mem_cons_of_mem _ hx))
    have h2 := hd c List.mem_cons_self
    have h3 : (v * 10 + (c.toNat - 48) + 1) * 10 ^ r.length ≤ ((v + 1) * 10) * 10 ^ r.length := Nat.mul_le_mul_right _ (by omega)
    have e : (v + 1) * 10 ^ (c :: r).length = ((v + 1) * 10) * 10 ^ r.length := by
      rw [List.length_cons, Nat.pow_succ, Nat.mul_assoc, Nat.mul_comm 10]
    have e2 : accFrom v (c :: r) = accFrom (v * 10 + (c.toNat - 48)) r := rfl
    omega
theorem dd_accFrom : ∀ (l : List UInt8) (v : Nat), 1 ≤ v → (∀ c ∈ l, 48 ≤ c.toNat ∧ c.toNat ≤ 57) → decDigits (accFrom v l) = decDigits v ++ l
  | [], v, _, _ => by simp [accFrom]
  | c :: r, v, hv, hd => by
    have h2 := hd c List.mem_cons_self
    have h1 := dd_accFrom r (v * 10 + (c.toNat - 48)) (by omega) (fun x hx => hd x (List.mem_cons_of_mem _ hx))
    have e2 : accFrom v (c :: r) = accFrom (v * 10 + (c.toNat - 48)) r := rfl
    have e3 : UInt8.ofNat (48 + (c.toNat - 48)) = c := by
      rw [show 48 + (c.toNat - 48) = c.toNat by omega]
      exact UInt8.ofNat_toNat
    rw [e2, h1, dd_snoc v _ hv (by omega), e3, List.append_assoc]
    rfl
/-- A row of digits that does not open with '0' is the numeral of what it spells. -/
theorem dd_canon (c : UInt8) (r : List UInt8) (h0 : c.toNat ≠ 48) (hd : ∀ x ∈ c :: r, 48 ≤ x.toNat ∧ x.toNat ≤ 57) : decDigits (accFrom 0 (c :: r)) = c :: r := by
  have h2 := hd c List.mem_cons_self
  have e2 : accFrom 0 (c :: r) = accFrom (c.toNat - 48) r := by
    show accFrom (0 * 10 + (c.toNat - 48)) r = _
    rw [show 0 * 10 + (c.toNat - 48) = c.toNat - 48 by omega]
  have e3 : UInt8.ofNat (48 + (c.toNat - 48)) = c := by
    rw [show 48 + (c.toNat - 48) = c.toNat by omega]
    exact UInt8.ofNat_toNat
  rw [e2, dd_accFrom r _ (by omega) (fun x hx => hd x (List.mem_cons_of_mem _ hx)), dd_small (by omega), e3]
  rfl
end Go.Proofs.Qxb6000496aDoor
