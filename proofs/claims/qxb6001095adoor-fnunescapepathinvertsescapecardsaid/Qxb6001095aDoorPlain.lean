/-
  Seat b6001095aD: the plain laws (no Go in sight): escaping as mountinfo writes it, its inverse, and how much shorter what is unescaped is.
-/
namespace Go.Proofs.Qxb6001095aDoor

/-- strconv.ParseUint(s, 8, 8) on the bytes of s, s not empty: the number, or none (an error). -/
def oct (acc : Nat) : List UInt8 → Option Nat
  | [] => some acc
  | c :: r =>
    if 48 ≤ c.toNat ∧ c.toNat ≤ 55 then
      if 255 < acc * 8 + (c.toNat - 48) then none else oct (acc * 8 + (c.toNat - 48)) r
    else none

theorem oct_le : ∀ (l : List UInt8) (acc n : Nat), acc ≤ 255 → oct acc l = some n → n ≤ 255
  | [], acc, n, ha, h => by
    simp only [oct, Option.some.injEq] at h
    omega
  | c :: r, acc, n, ha, h => by
    simp only [oct] at h
    split at h
    · split at h
      · cases h
      · exact oct_le r _ n (by omega) h
    · cases h

/-- WHAT unescapePath COMPUTES, by fuel. -/
def un : Nat → List UInt8 → List UInt8
  | 0, _ => []
  | _ + 1, [] => []
  | f + 1, c :: r =>
    if c.toNat = 92 ∧ 3 ≤ r.length then
      match oct 0 (r.take 3) with
      | some n => UInt8.ofNat n :: un f (r.drop 3)
      | none => c :: un f r
    else c :: un f r

theorem un_nil (f : Nat) : un f [] = [] := by cases f <;> rfl

/-- The fuel does not matter once there is enough of it. -/
theorem un_fuel : ∀ (f g : Nat) (l : List UInt8), l.length ≤ f → l.length ≤ g → un f l = un g l
  | _, _, [], _, _ => by rw [un_nil, un_nil]
  | 0, _, _ :: _, h, _ => by simp at h
  | _ + 1, 0, _ :: _, _, h => by simp at h
  | f + 1, g + 1, c :: r, hf, hg => by
    simp only [List.length_cons] at hf hg
    have h1 := un_fuel f g r (by omega) (by omega)
    have h2 := un_fuel f g (r.drop 3) (by simp; omega) (by simp; omega)
    simp only [un, h1, h2]

/-- The whole. -/
def unAll (l : List UInt8) : List UInt8 := un l.length l

theorem unAll_nil : unAll [] = [] := rfl
theorem unAll_plain (c : UInt8) (r : List UInt8) (h : ¬ (c.toNat = 92 ∧ 3 ≤ r.length)) : unAll (c :: r) = c :: unAll r := by
  show un (r.length + 1) (c :: r) = _
  rw [un, if_neg h]
  rfl
theorem unAll_miss (c : UInt8) (r : List UInt8) (h : oct 0 (r.take 3) = none) : unAll (c :: r) = c :: unAll r := by
  show un (r.length + 1) (c :: r) = _
  rw [un, h]
  split <;> rfl
theorem unAll_hit (c : UInt8) (r : List UInt8) (n : Nat) (h : c.toNat = 92) (h3 : 3 ≤ r.length) (ho : oct 0 (r.take 3) = some n) : unAll (c :: r) = UInt8.ofNat n :: unAll (r.drop 3) := by
  show un (r.length + 1) (c :: r) = _
  rw [un, if_pos ⟨h, h3⟩, ho]
  show UInt8.ofNat n :: un r.length (r.drop 3) = _
  rw [un_fuel r.length (r.drop 3).length (r.drop 3) (by simp) (Nat.le_refl _)]
  rfl

/-! ### Shrinking by whole escapes -/

theorem un_shrinks : ∀ (f : Nat) (l : List UInt8), l.length ≤ f → ∃ k, (un f l).length + 3 * k = l.length ∧ k ≤ l.countP (fun c => c.toNat == 92)
  | f, [], _ => ⟨0, by rw [un_nil]; rfl, Nat.zero_le _⟩
  | 0, _ :: _, h => by simp at h
  | f + 1, c :: r, h => by
    simp only [List.length_cons] at h
    obtain ⟨k, h1, h2⟩ := un_shrinks f r (by omega)
    have plain : ∃ k, (c :: un f r).length + 3 * k = (c :: r).length ∧ k ≤ (c :: r).countP (fun c => c.toNat == 92) :=
      ⟨k, by simp only [List.length_cons]; omega, by rw [List.countP_cons]; omega⟩
    simp only [un]
    split
    · rename_i hc
      split
      · rename_i n _
        obtain ⟨j, h3, h4⟩ := un_shrinks f (r.drop 3) (by simp; omega)
        refine ⟨j + 1, by simp only [List.length_cons, List.length_drop] at *; omega, ?_⟩
        have h5 : (r.drop 3).countP (fun c => c.toNat == 92) ≤ r.countP (fun c => c.toNat == 92) := (List.drop_sublist 3 r).countP_le
        have e : (c.toNat == 92) = true := by simp [hc.1]
        rw [List.countP_cons, e]
        simp only [if_true]
        omega
      · exact plain
    · exact plain

theorem un_same : ∀ (f : Nat) (l : List UInt8), l.length ≤ f → (∀ c ∈ l, c.toNat ≠ 92) → un f l = l
  | f, [], _, _ => un_nil f
  | 0, _ :: _, h, _ => by simp at h
  | f + 1, c :: r, h, hn => by
    simp only [List.length_cons] at h
    have hc := hn c List.mem_cons_self
    simp only [un]
    rw [if_neg (fun e => hc e.1), un_same f r (by omega) (fun x hx => hn x (List.mem_cons_of_mem _ hx))]

/-! ### Escaping -/

/-- The four bytes that are escaped. -/
def special (c : UInt8) : Bool := c.toNat == 32 || c.toNat == 9 || c.toNat == 10 || c.toNat == 92

def oct3 (c : UInt8) : List UInt8 := [92, UInt8.ofNat (48 + c.toNat / 64), UInt8.ofNat (48 + c.toNat / 8 % 8), UInt8.ofNat (48 + c.toNat % 8)]
def esc1 (c : UInt8) : List UInt8 := if special c = true then oct3 c else [c]
/-- WHAT zzEscapeAsMountinfo COMPUTES. -/
def esc (l : List UInt8) : List UInt8 := l.flatMap esc1

theorem esc_snoc (l : List UInt8) (c : UInt8) : esc (l ++ [c]) = esc l ++ esc1 c := by
  unfold esc
  rw [List.flatMap_append]
  simp
theorem esc1_len (c : UInt8) : (esc1 c).length ≤ 4 := by
  unfold esc1
  split
  · exact Nat.le_refl _
  · simp
theorem esc_len : ∀ l : List UInt8, (esc l).length ≤ 4 * l.length
  | [] => Nat.le_refl _
  | c :: r => by
    have h1 := esc_len r
    have h2 := esc1_len c
    show (esc1 c ++ esc r).length ≤ _
    rw [List.length_append, List.length_cons]
    omega

theorem oct_oct3 : ∀ c : UInt8, oct 0 [UInt8.ofNat (48 + c.toNat / 64), UInt8.ofNat (48 + c.toNat / 8 % 8), UInt8.ofNat (48 + c.toNat % 8)] = some c.toNat := by
  intro c
  have h := c.toNat_lt
  have e1 : (UInt8.ofNat (48 + c.toNat / 64)).toNat = 48 + c.toNat / 64 := by rw [UInt8.toNat_ofNat']; omega
  have e2 : (UInt8.ofNat (48 + c.toNat / 8 % 8)).toNat = 48 + c.toNat / 8 % 8 := by rw [UInt8.toNat_ofNat']; omega
  have e3 : (UInt8.ofNat (48 + c.toNat % 8)).toNat = 48 + c.toNat % 8 := by rw [UInt8.toNat_ofNat']; omega
  simp only [oct, e1, e2, e3]
  rw [if_pos (by omega), if_neg (by omega), if_pos (by omega), if_neg (by omega), if_pos (by omega), if_neg (by omega)]
  congr 1
  omega

/-- A path that is escaped so decodes back to itself. -/
theorem un_esc : ∀ l : List UInt8, unAll (esc l) = l
  | [] => rfl
  | c :: r => by
    have ih := un_esc r
    show unAll (esc1 c ++ esc r) = _
    unfold esc1
    split
    · have h92 : (92 : UInt8).toNat = 92 := rfl
      show unAll ((92 : UInt8) :: ([UInt8.ofNat (48 + c.toNat / 64), UInt8.ofNat (48 + c.toNat / 8 % 8), UInt8.ofNat (48 + c.toNat % 8)] ++ esc r)) = _
      rw [unAll_hit 92 _ c.toNat h92 (by simp) (by
        rw [List.take_append_of_le_length (by simp), List.take_of_length_le (by simp)]
        exact oct_oct3 c), List.drop_append_of_le_length (by simp), List.drop_of_length_le (by simp), List.nil_append, ih, UInt8.ofNat_toNat]
    · rename_i h
      have hc : c.toNat ≠ 92 := fun e => h (by simp [special, e])
      show unAll (c :: esc r) = _
      rw [unAll_plain c _ (fun e => hc e.1), ih]
end Go.Proofs.Qxb6001095aDoor
