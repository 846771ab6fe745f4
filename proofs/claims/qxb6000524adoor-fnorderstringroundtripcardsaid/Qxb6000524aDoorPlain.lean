/-
  Seat b6000524aD: the plain laws (no Go in sight): the text of an Order; the decimal numeral read back.
-/
import Derived.Lib.ItoaNum
import Derived.Lib.ItoaMem
namespace Go.Proofs.Qxb6000524aDoor
open Go.Lib

/-- WHAT (Order).String WRITES. -/
def strOf (o : Int) : List UInt8 :=
  if o = 0 then [101, 113, 117, 97, 108]
  else if o = 1 then [98, 101, 102, 111, 114, 101]
  else if o = 2 then [97, 102, 116, 101, 114]
  else if o = 3 then [99, 111, 110, 99, 117, 114, 114, 101, 110, 116]
  else [79, 114, 100, 101, 114, 40] ++ itoa o ++ [41]

/-! ### A word, a parenthesis -/
def isParen (l : List UInt8) : Bool := l.any fun c => (c.toNat : Int) == 40
def isWord (l : List UInt8) : Bool := l.all fun c => decide (97 ≤ (c.toNat : Int)) && decide ((c.toNat : Int) ≤ 122)
theorem isParen_snoc (l : List UInt8) (c : UInt8) : isParen (l ++ [c]) = (isParen l || (c.toNat : Int) == 40) := by simp [isParen]
theorem isWord_snoc (l : List UInt8) (c : UInt8) : isWord (l ++ [c]) = (isWord l && (decide (97 ≤ (c.toNat : Int)) && decide ((c.toNat : Int) ≤ 122))) := by simp [isWord]

theorem named_word (o : Int) (h0 : 0 ≤ o) (h3 : o ≤ 3) : isWord (strOf o) = true ∧ isParen (strOf o) = false := by
  obtain rfl | rfl | rfl | rfl : o = 0 ∨ o = 1 ∨ o = 2 ∨ o = 3 := by omega
  all_goals decide
theorem other_paren (o : Int) (h : o < 0 ∨ 3 < o) : isParen (strOf o) = true := by
  unfold strOf
  rw [if_neg (by omega), if_neg (by omega), if_neg (by omega), if_neg (by omega)]
  simp [isParen]

/-! ### Reading back -/
theorem u8_toNat_small (d : Nat) (h : d < 10) : (UInt8.ofNat (48 + d)).toNat = 48 + d := by
  rw [UInt8.toNat_ofNat']; omega
theorem dd_small {u : Nat} (h : u < 10) : decDigits u = [UInt8.ofNat (48 + u)] := by rw [decDigits, dif_pos h]
theorem dd_big {u : Nat} (h : ¬ u < 10) : decDigits u = decDigits (u / 10) ++ [UInt8.ofNat (48 + u % 10)] := by rw [decDigits, dif_neg h]

/-- What parseOrderText has gathered behind so many digits (it counts downward). -/
def accOf (l : List UInt8) : Nat := l.foldl (fun v c => v * 10 + (c.toNat - 48)) 0
theorem accOf_snoc (l : List UInt8) (c : UInt8) : accOf (l ++ [c]) = accOf l * 10 + (c.toNat - 48) := by
  unfold accOf
  rw [List.foldl_append]
  rfl
theorem accOf_dd (u : Nat) : accOf (decDigits u) = u := by
  induction u using Nat.strongRecOn with
  | _ u ih =>
    by_cases hs : u < 10
    · rw [dd_small hs]
      show 0 * 10 + ((UInt8.ofNat (48 + u)).toNat - 48) = u
      rw [u8_toNat_small u hs]
      omega
    · rw [dd_big hs, accOf_snoc, ih (u / 10) (by omega), u8_toNat_small (u % 10) (by omega)]
      omega
theorem dd_digit (u : Nat) : ∀ c ∈ decDigits u, 48 ≤ c.toNat ∧ c.toNat ≤ 57 := by
  induction u using Nat.strongRecOn with
  | _ u ih =>
    by_cases hs : u < 10
    · rw [dd_small hs]
      intro c hc
      simp only [List.mem_singleton] at hc
      subst hc
      rw [u8_toNat_small u hs]
      omega
    · rw [dd_big hs]
      intro c hc
      rcases List.mem_append.1 hc with h | h
      · exact ih (u / 10) (by omega) c h
      · simp only [List.mem_singleton] at h
        subst h
        rw [u8_toNat_small (u % 10) (by omega)]
        omega
/-- What has been gathered grows. -/
theorem accOf_mono : ∀ (l : List UInt8) (v : Nat), v ≤ l.foldl (fun v c => v * 10 + (c.toNat - 48)) v
  | [], v => Nat.le_refl _
  | c :: r, v => by
    have := accOf_mono r (v * 10 + (c.toNat - 48))
    show v ≤ r.foldl (fun v c => v * 10 + (c.toNat - 48)) (v * 10 + (c.toNat - 48))
    omega
theorem accOf_take (l : List UInt8) (k : Nat) : accOf (l.take k) ≤ accOf l := by
  conv => rhs; rw [← List.take_append_drop k l]
  unfold accOf
  rw [List.foldl_append]
  exact accOf_mono _ _
theorem dd_ne_nil (u : Nat) : decDigits u ≠ [] := by
  intro h
  have h1 := decDigits_length u
  have h2 := nDigits_pos u
  rw [h] at h1
  simp at h1
  omega
end Go.Proofs.Qxb6000524aDoor
