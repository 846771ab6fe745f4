/-
  Seat b6000912aD: the plain laws (no Go in sight): the decimal numeral read back.
-/
import Derived.Lib.ItoaNum
import Derived.Lib.ItoaMem
namespace Go.Proofs.Qxb6000912aDoor
open Go.Lib

theorem u8_toNat_small (d : Nat) (h : d < 10) : (UInt8.ofNat (48 + d)).toNat = 48 + d := by
  rw [UInt8.toNat_ofNat']; omega
theorem dd_small {u : Nat} (h : u < 10) : decDigits u = [UInt8.ofNat (48 + u)] := by rw [decDigits, dif_pos h]
theorem dd_big {u : Nat} (h : ¬ u < 10) : decDigits u = decDigits (u / 10) ++ [UInt8.ofNat (48 + u % 10)] := by rw [decDigits, dif_neg h]

/-- What parseFallback has gathered behind so many digits. -/
def accOf (l : List UInt8) : Nat := l.foldl (fun v c => v * 10 + (c.toNat - 48)) 0
theorem accOf_snoc (l : List UInt8) (c : UInt8) : accOf (l ++ [c]) = accOf l * 10 + (c.toNat - 48) := by
  unfold accOf
  rw [List.foldl_append]
  rfl
theorem accOf_dd (u : Nat) : accOf (decDigits u) = u := by
  induction u using Nat.strongRecOn with
  | _ u ih =>
    by_cases hs : u < 10
    · rw [dd_small hs]
      show 0 * 10 + ((UInt8.ofNat (48 + u)).toNat - 48) = u
      rw [u8_toNat_small u hs]
      omega
    · rw [dd_big hs, accOf_snoc, ih (u / 10) (by omega), u8_toNat_small (u % 10) (by omega)]
      omega
theorem dd_digit (u : Nat) : ∀ c ∈ decDigits u, 48 ≤ c.toNat ∧ c.toNat ≤ 57 := by
  induction u using Nat.strongRecOn with
  | _ u ih =>
    by_cases hs : u < 10
    · rw [dd_small hs]
      intro c hc
      simp only [List.mem_singleton] at hc
      subst hc
      rw [u8_toNat_small u hs]
      omega
    · rw [dd_big hs]
      intro c hc
      rcases List.mem_append.1 hc with h | h
      · exact ih (u / 10) (by omega) c h
      · simp only [List.mem_singleton] at h
        subst h
        rw [u8_toNat_small (u % 10) (by omega)]
        omega
theorem accOf_mono : ∀ (l : List UInt8) (v : Nat), v ≤ l.foldl (fun v c => v * 10 + (c.toNat - 48)) v
  | [], v => Nat.le_refl _
  | c :: r, v => by
    have := accOf_mono r (v * 10 + (c.toNat - 48))
    show v ≤ r.foldl (fun v c => v * 10 + (c.toNat - 48)) (v * 10 + (c.toNat - 48))
    omega
theorem accOf_take (l : List UInt8) (k : Nat) : accOf (l.take k) ≤ accOf l := by
  conv => rhs; rw [← List.take_append_drop k l]
  unfold accOf
  rw [List.foldl_append]
  exact accOf_mono _ _
theorem dd_ne_nil (u : Nat) : decDigits u ≠ [] := by
  intro h
  have h1 := decDigits_length u
  have h2 := nDigits_pos u
  rw [h] at h1
  simp at h1
  omega
theorem dd_len3 (u : Nat) (h : u ≤ 255) : 0 < (decDigits u).length ∧ (decDigits u).length ≤ 3 := by
  refine ⟨List.length_pos_iff.2 (dd_ne_nil u), ?_⟩
  rw [decDigits_length]
  by_cases h1 : u < 10
  · rw [nDigits_small h1]; omega
  · rw [nDigits_big h1]
    by_cases h2 : u / 10 < 10
    · rw [nDigits_small h2]; omega
    · rw [nDigits_big h2, nDigits_small (by omega)]; omega
/-- A numeral of more than one digit does not open with '0'. -/
theorem dd_head (u : Nat) (h : 1 ≤ u) : ∀ c, (decDigits u).head? = some c → c.toNat ≠ 48 := by
  induction u using Nat.strongRecOn with
  | _ u ih =>
    intro c hc
    by_cases hs : u < 10
    · rw [dd_small hs] at hc
      simp only [List.head?_cons, Option.some.injEq] at hc
      subst hc
      rw [u8_toNat_small u hs]
      omega
    · rw [dd_big hs] at hc
      cases hl : decDigits (u / 10) with
      | nil => exact absurd hl (dd_ne_nil _)
      | cons a r =>
        rw [hl] at hc
        exact ih (u / 10) (by omega) (by omega) c (by rw [hl]; exact hc)
end Go.Proofs.Qxb6000912aDoor
