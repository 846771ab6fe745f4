/-
  Seat b6000524aD: the walks of (Order).String and of FnOrderStringNamedExactlyInRange.
-/
import Derived.Test.Qxb6000524aDoorShelf
import Derived.Test.Qxb6000524aDoorPlain
import Derived.Lib.Strings
import Derived.Lib.Hide
import Derived.WalkKit
import Derived.WalkSpells
import Derived.WalkLawsBesides
namespace Go.Proofs.Qxb6000524aDoor
open Go.RowKit Go.Shelf

/-- What lay below stays, where the world has drawn and blocks have been laid behind. -/
theorem below_grow (w : World) (q : Nat) (os : Array Obj) : Below w.heap.size w (Sort.grow (w.drewN q) os) :=
  ⟨rfl, rfl, rfl, by show w.heap.size ≤ (w.heap ++ os).size; rw [Array.size_append]; omega, fun i hi => by
    show (w.heap ++ os)[i]? = _
    rw [Array.getElem?_append_left hi]⟩

/-- strconv.Itoa, its result under a name. -/
theorem ito_any (n : Int) (t : ByteArray) (w : World) (h0 : -9223372036854775808 ≤ n) (h1 : n ≤ 9223372036854775807) (ht : t.data.toList = Lib.itoa n)
    (htab : Lib.TabIs Tryd.prog w "internal/strconv.uint64pow10" .u64 Lib.pow10Tab) :
    Calls Tryd.prog 7 #[.int .i64 n] w fun e w' => e = .returned (.string t) ∧ Below w.heap.size w w' := by
  have h := Any.strconv_Itoa Tryd.laysItoa n h0 h1 w htab
  rw [← ht, Lib.mk_data] at h
  refine h.mono ?_
  rintro e w' ⟨rfl, k, os, rfl⟩
  exact ⟨rfl, below_grow _ _ _⟩

theorem itoa_len (n : Int) (h0 : -9223372036854775808 ≤ n) (h1 : n ≤ 9223372036854775807) : (Lib.itoa n).length ≤ 21 := by
  have all : ∀ u : Nat, u < 18446744073709551616 → (Lib.decDigits u).length ≤ 20 := fun u hu => by
    rw [Lib.decDigits_length]
    rcases Nat.eq_zero_or_pos u with rfl | hp
    · rw [Lib.nDigits_small (by omega)]; omega
    · have := Lib.numDigits_eq u hp hu
      split at this <;> omega
  unfold Lib.itoa
  split
  · have := all n.natAbs (by omega)
    simp only [List.length_cons]
    omega
  · have := all n.toNat (by omega)
    omega

theorem data_append (a b : ByteArray) : (a ++ b).data.toList = a.data.toList ++ b.data.toList := by
  rw [ByteArray.data_append, Array.toList_append]

theorem ret_str {a b : ByteArray} (h : a = b) : Ending.returned (.string a) = .returned (.string b) := by rw [h]
theorem bytes_eq {a b : ByteArray} (h : a.data.toList = b.data.toList) : a = b := by rw [← Lib.mk_data a, h, Lib.mk_data]

set_option maxHeartbeats 400000 in
/-- (Order).String. -/
theorem string_any (o : Int) (t : ByteArray) (w : World) (h0 : -9223372036854775808 ≤ o) (h1 : o ≤ 9223372036854775807) (ht : t.data.toList = strOf o)
    (htab : Lib.TabIs Tryd.prog w "internal/strconv.uint64pow10" .u64 Lib.pow10Tab) :
    Calls Tryd.prog 5 #[.int .i64 o] w fun e w' => e = .returned (.string t) ∧ Below w.heap.size w w' := by
  have HT := Lib.hid htab
  clear htab
  by_cases c0 : o = 0
  · subst c0
    have HE : Hid (⟨#[101, 113, 117, 97, 108]⟩ = t) := bytes_eq ht.symm
    clear ht
    go_enter Tryd.func5, Tryd.ntmps5
    go_wp2
    go_ret
    exact ⟨ret_str HE.out, Below.refl _ _⟩
  · by_cases c1 : o = 1
    · subst c1
      have HE : Hid (⟨#[98, 101, 102, 111, 114, 101]⟩ = t) := bytes_eq ht.symm
      clear ht
      go_enter Tryd.func5, Tryd.ntmps5
      go_wp2
      go_ret
      exact ⟨ret_str HE.out, Below.refl _ _⟩
    · by_cases c2 : o = 2
      · subst c2
        have HE : Hid (⟨#[97, 102, 116, 101, 114]⟩ = t) := bytes_eq ht.symm
        clear ht
        go_enter Tryd.func5, Tryd.ntmps5
        go_wp2
        go_ret
        exact ⟨ret_str HE.out, Below.refl _ _⟩
      · by_cases c3 : o = 3
        · subst c3
          have HE : Hid (⟨#[99, 111, 110, 99, 117, 114, 114, 101, 110, 116]⟩ = t) := bytes_eq ht.symm
          clear ht
          go_enter Tryd.func5, Tryd.ntmps5
          go_wp2
          go_ret
          exact ⟨ret_str HE.out, Below.refl _ _⟩
        · have b0 : (o == 0) = false := by simpa using c0
          have b1 : (o == 1) = false := by simpa using c1
          have b2 : (o == 2) = false := by simpa using c2
          have b3 : (o == 3) = false := by simpa using c3
          obtain ⟨d, hd⟩ : ∃ d : ByteArray, d.data.toList = Lib.itoa o := ⟨⟨_⟩, rfl⟩
          have HD := Lib.hid hd
          have hdl : d.size ≤ 21 := by rw [Lib.size_eq, hd]; exact itoa_len o h0 h1
          have HE : Hid ((⟨#[79, 114, 100, 101, 114, 40]⟩ : ByteArray) ++ d ++ ⟨#[41]⟩ = t) := bytes_eq (by
            rw [ht, data_append, data_append, hd]
            unfold strOf
            rw [if_neg c0, if_neg c1, if_neg c2, if_neg c3])
          clear ht hd c0 c1 c2 c3
          go_enter Tryd.func5, Tryd.ntmps5
          go_wp2_with (go_at_call 7; refine (ito_any _ d _ h0 h1 HD.out HT.out).mono ?_; rintro e w' ⟨rfl, hb⟩; have HB := Lib.hid hb; clear hb)
          go_ret
          exact ⟨ret_str HE.out, HB.out⟩

theorem take_snoc (s : ByteArray) (k : Nat) (h : k < s.size) : s.data.toList.take (k + 1) = s.data.toList.take k ++ [s[k]] := by
  rw [List.take_succ_eq_append_getElem (by rw [← Lib.size_eq]; exact h)]; rfl

theorem strOf_len (o : Int) (h0 : -9223372036854775808 ≤ o) (h1 : o ≤ 9223372036854775807) : 0 < (strOf o).length ∧ (strOf o).length ≤ 28 := by
  have := itoa_len o h0 h1
  unfold strOf
  split
  · decide
  · split
    · decide
    · split
      · decide
      · split
        · decide
        · simp only [List.length_append, List.length_cons, List.length_nil]
          omega

theorem ret_bool {a b : Bool} (h : a = b) : Ending.returned (.bool a) = .returned (.bool b) := by rw [h]

set_option maxHeartbeats 1000000 in
theorem law4_any (o : Int) (w : World) (h0 : -9223372036854775808 ≤ o) (h1 : o ≤ 9223372036854775807) (htab : Lib.TabIs Tryd.prog w "internal/strconv.uint64pow10" .u64 Lib.pow10Tab) :
    Calls Tryd.prog 4 #[.int .i64 o] w fun e w' => e = .returned (.bool true) ∧ Below w.heap.size w w' := by
  have HT := Lib.hid htab
  clear htab
  obtain ⟨t, ht⟩ : ∃ t : ByteArray, t.data.toList = strOf o := ⟨⟨_⟩, rfl⟩
  have HS := Lib.hid ht
  have hl := strOf_len o h0 h1
  rw [← ht, ← Lib.size_eq] at hl
  obtain ⟨hl0, hl1⟩ := hl
  have HN : Hid (t.data.toList.length = t.size) := (Lib.size_eq t).symm
  by_cases hneg : o < 0
  · have HR : Hid (isParen t.data.toList = true) := by rw [ht]; exact other_paren o (Or.inl hneg)
    clear ht
    go_enter Tryd.func4, Tryd.ntmps4
    go_wp2_with (go_at_call 5; refine (string_any _ t _ h0 h1 HS.out HT.out).mono ?_; rintro e w1 ⟨rfl, hb⟩; have HB := Lib.hid hb; clear hb)
    go_loop [5, 6, 7] (fun vp vq i => ∃ (k : Nat) (p q : Bool), k ≤ t.size ∧ i = .int .i64 k ∧ vp = .bool p ∧ vq = .bool q ∧ Hid (p = isParen (t.data.toList.take k)) ∧ Hid (q = isWord (t.data.toList.take k))) (fun _ _ i => t.size - (intOf i).toNat)
    case atStart => exact ⟨0, false, true, Nat.zero_le _, rfl, rfl, rfl, rfl, rfl⟩
    case round =>
      obtain ⟨k, p, q, hk, rfl, rfl, rfl, HP, HQ⟩ := hrel
      by_cases hlt : k < t.size
      · cases c40 : ((t[k].toNat : Int) == 40)
        · by_cases clo : 97 ≤ (t[k].toNat : Int)
          · by_cases chi : (t[k].toNat : Int) ≤ 122
            · have HPs : Hid (isParen (t.data.toList.take (k + 1)) = p) := by
                show isParen _ = _
                rw [take_snoc t k hlt, isParen_snoc, ← HP.out, c40]
                simp
              have HQs : Hid (isWord (t.data.toList.take (k + 1)) = q) := by
                show isWord _ = _
                rw [take_snoc t k hlt, isWord_snoc, ← HQ.out]
                simp [clo, chi]
              go_wp2
              go_round
              case rel => exact ⟨k + 1, p, q, by omega, by go_num, rfl, rfl, HPs.out.symm, HQs.out.symm⟩
              case measure => simp [intOf]; omega
            · have HPs : Hid (isParen (t.data.toList.take (k + 1)) = p) := by
                show isParen _ = _
                rw [take_snoc t k hlt, isParen_snoc, ← HP.out, c40]
                simp
              have HQs : Hid (isWord (t.data.toList.take (k + 1)) = false) := by
                show isWord _ = _
                rw [take_snoc t k hlt, isWord_snoc, ← HQ.out]
                simp; omega
              go_wp2
              go_round
              case rel => exact ⟨k + 1, p, false, by omega, by go_num, rfl, rfl, HPs.out.symm, HQs.out.symm⟩
              case measure => simp [intOf]; omega
          · have HPs : Hid (isParen (t.data.toList.take (k + 1)) = p) := by
              show isParen _ = _
              rw [take_snoc t k hlt, isParen_snoc, ← HP.out, c40]
              simp
            have HQs : Hid (isWord (t.data.toList.take (k + 1)) = false) := by
              show isWord _ = _
              rw [take_snoc t k hlt, isWord_snoc, ← HQ.out]
              simp; omega
            go_wp2
            go_round
            case rel => exact ⟨k + 1, p, false, by omega, by go_num, rfl, rfl, HPs.out.symm, HQs.out.symm⟩
            case measure => simp [intOf]; omega
        · by_cases clo : 97 ≤ (t[k].toNat : Int)
          · by_cases chi : (t[k].toNat : Int) ≤ 122
            · have HPs : Hid (isParen (t.data.toList.take (k + 1)) = true) := by
                show isParen _ = _
                rw [take_snoc t k hlt, isParen_snoc, ← HP.out, c40]
                simp
              have HQs : Hid (isWord (t.data.toList.take (k + 1)) = q) := by
                show isWord _ = _
                rw [take_snoc t k hlt, isWord_snoc, ← HQ.out]
                simp [clo, chi]
              go_wp2
              go_round
              case rel => exact ⟨k + 1, true, q, by omega, by go_num, rfl, rfl, HPs.out.symm, HQs.out.symm⟩
              case measure => simp [intOf]; omega
            · have HPs : Hid (isParen (t.data.toList.take (k + 1)) = true) := by
                show isParen _ = _
                rw [take_snoc t k hlt, isParen_snoc, ← HP.out, c40]
                simp
              have HQs : Hid (isWord (t.data.toList.take (k + 1)) = false) := by
                show isWord _ = _
                rw [take_snoc t k hlt, isWord_snoc, ← HQ.out]
                simp; omega
              go_wp2
              go_round
              case rel => exact ⟨k + 1, true, false, by omega, by go_num, rfl, rfl, HPs.out.symm, HQs.out.symm⟩
              case measure => simp [intOf]; omega
          · have HPs : Hid (isParen (t.data.toList.take (k + 1)) = true) := by
              show isParen _ = _
              rw [take_snoc t k hlt, isParen_snoc, ← HP.out, c40]
              simp
            have HQs : Hid (isWord (t.data.toList.take (k + 1)) = false) := by
              show isWord _ = _
              rw [take_snoc t k hlt, isWord_snoc, ← HQ.out]
              simp; omega
            go_wp2
            go_round
            case rel => exact ⟨k + 1, true, false, by omega, by go_num, rfl, rfl, HPs.out.symm, HQs.out.symm⟩
            case measure => simp [intOf]; omega
      · have hall : t.data.toList.take k = t.data.toList := List.take_of_length_le (by rw [HN.out]; omega)
        have hp := HP.out
        have hq := HQ.out
        rw [hall] at hp hq
        clear hall HP HQ
        obtain rfl : p = true := hp.trans HR.out
        clear hp hq
        go_wp2
        go_ret
        exact ⟨rfl, HB.out⟩
  · have hpos : 0 ≤ o := by omega
    clear hneg
    by_cases hle : o ≤ 3
    · have HR : Hid (isWord t.data.toList = true ∧ isParen t.data.toList = false) := by rw [ht]; exact named_word o hpos hle
      clear ht
      go_enter Tryd.func4, Tryd.ntmps4
      go_wp2_with (go_at_call 5; refine (string_any _ t _ h0 h1 HS.out HT.out).mono ?_; rintro e w1 ⟨rfl, hb⟩; have HB := Lib.hid hb; clear hb)
      go_loop [5, 6, 7] (fun vp vq i => ∃ (k : Nat) (p q : Bool), k ≤ t.size ∧ i = .int .i64 k ∧ vp = .bool p ∧ vq = .bool q ∧ Hid (p = isParen (t.data.toList.take k)) ∧ Hid (q = isWord (t.data.toList.take k))) (fun _ _ i => t.size - (intOf i).toNat)
      case atStart => exact ⟨0, false, true, Nat.zero_le _, rfl, rfl, rfl, rfl, rfl⟩
      case round =>
        obtain ⟨k, p, q, hk, rfl, rfl, rfl, HP, HQ⟩ := hrel
        by_cases hlt : k < t.size
        · cases c40 : ((t[k].toNat : Int) == 40)
          · by_cases clo : 97 ≤ (t[k].toNat : Int)
            · by_cases chi : (t[k].toNat : Int) ≤ 122
              · have HPs : Hid (isParen (t.data.toList.take (k + 1)) = p) := by
                  show isParen _ = _
                  rw [take_snoc t k hlt, isParen_snoc, ← HP.out, c40]
                  simp
                have HQs : Hid (isWord (t.data.toList.take (k + 1)) = q) := by
                  show isWord _ = _
                  rw [take_snoc t k hlt, isWord_snoc, ← HQ.out]
                  simp [clo, chi]
                go_wp2
                go_round
                case rel => exact ⟨k + 1, p, q, by omega, by go_num, rfl, rfl, HPs.out.symm, HQs.out.symm⟩
                case measure => simp [intOf]; omega
              · have HPs : Hid (isParen (t.data.toList.take (k + 1)) = p) := by
                  show isParen _ = _
                  rw [take_snoc t k hlt, isParen_snoc, ← HP.out, c40]
                  simp
                have HQs : Hid (isWord (t.data.toList.take (k + 1)) = false) := by
                  show isWord _ = _
                  rw [take_snoc t k hlt, isWord_snoc, ← HQ.out]
                  simp; omega
                go_wp2
                go_round
                case rel => exact ⟨k + 1, p, false, by omega, by go_num, rfl, rfl, HPs.out.symm, HQs.out.symm⟩
                case measure => simp [intOf]; omega
            · have HPs : Hid (isParen (t.data.toList.take (k + 1)) = p) := by
                show isParen _ = _
                rw [take_snoc t k hlt, isParen_snoc, ← HP.out, c40]
                simp
              have HQs : Hid (isWord (t.data.toList.take (k + 1)) = false) := by
                show isWord _ = _
                rw [take_snoc t k hlt, isWord_snoc, ← HQ.out]
                simp; omega
              go_wp2
              go_round
              case rel => exact ⟨k + 1, p, false, by omega, by go_num, rfl, rfl, HPs.out.symm, HQs.out.symm⟩
              case measure => simp [intOf]; omega
          · by_cases clo : 97 ≤ (t[k].toNat : Int)
            · by_cases chi : (t[k].toNat : Int) ≤ 122
              · have HPs : Hid (isParen (t.data.toList.take (k + 1)) = true) := by
                  show isParen _ = _
                  rw [take_snoc t k hlt, isParen_snoc, ← HP.out, c40]
                  simp
                have HQs : Hid (isWord (t.data.toList.take (k + 1)) = q) := by
                  show isWord _ = _
                  rw [take_snoc t k hlt, isWord_snoc, ← HQ.out]
                  simp [clo, chi]
                go_wp2
                go_round
                case rel => exact ⟨k + 1, true, q, by omega, by go_num, rfl, rfl, HPs.out.symm, HQs.out.symm⟩
                case measure => simp [intOf]; omega
              · have HPs : Hid (isParen (t.data.toList.take (k + 1)) = true) := by
                  show isParen _ = _
                  rw [take_snoc t k hlt, isParen_snoc, ← HP.out, c40]
                  simp
                have HQs : Hid (isWord (t.data.toList.take (k + 1)) = false) := by
                  show isWord _ = _
                  rw [take_snoc t k hlt, isWord_snoc, ← HQ.out]
                  simp; omega
                go_wp2
                go_round
                case rel => exact ⟨k + 1, true, false, by omega, by go_num, rfl, rfl, HPs.out.symm, HQs.out.symm⟩
                case measure => simp [intOf]; omega
            · have HPs : Hid (isParen (t.data.toList.take (k + 1)) = true) := by
                show isParen _ = _
                rw [take_snoc t k hlt, isParen_snoc, ← HP.out, c40]
                simp
              have HQs : Hid (isWord (t.data.toList.take (k + 1)) = false) := by
                show isWord _ = _
                rw [take_snoc t k hlt, isWord_snoc, ← HQ.out]
                simp; omega
              go_wp2
              go_round
              case rel => exact ⟨k + 1, true, false, by omega, by go_num, rfl, rfl, HPs.out.symm, HQs.out.symm⟩
              case measure => simp [intOf]; omega
        · have hall : t.data.toList.take k = t.data.toList := List.take_of_length_le (by rw [HN.out]; omega)
          have hp := HP.out
          have hq := HQ.out
          rw [hall] at hp hq
          clear hall HP HQ
          obtain rfl : p = false := hp.trans HR.out.2
          obtain rfl : q = true := hq.trans HR.out.1
          clear hp hq
          go_wp2
          go_ret
          exact ⟨rfl, HB.out⟩
    · have hgt : 3 < o := by omega
      clear hle
      have HR : Hid (isParen t.data.toList = true) := by rw [ht]; exact other_paren o (Or.inr hgt)
      clear ht
      go_enter Tryd.func4, Tryd.ntmps4
      go_wp2_with (go_at_call 5; refine (string_any _ t _ h0 h1 HS.out HT.out).mono ?_; rintro e w1 ⟨rfl, hb⟩; have HB := Lib.hid hb; clear hb)
      go_loop [5, 6, 7] (fun vp vq i => ∃ (k : Nat) (p q : Bool), k ≤ t.size ∧ i = .int .i64 k ∧ vp = .bool p ∧ vq = .bool q ∧ Hid (p = isParen (t.data.toList.take k)) ∧ Hid (q = isWord (t.data.toList.take k))) (fun _ _ i => t.size - (intOf i).toNat)
      case atStart => exact ⟨0, false, true, Nat.zero_le _, rfl, rfl, rfl, rfl, rfl⟩
      case round =>
        obtain ⟨k, p, q, hk, rfl, rfl, rfl, HP, HQ⟩ := hrel
        by_cases hlt : k < t.size
        · cases c40 : ((t[k].toNat : Int) == 40)
          · by_cases clo : 97 ≤ (t[k].toNat : Int)
            · by_cases chi : (t[k].toNat : Int) ≤ 122
              · have HPs : Hid (isParen (t.data.toList.take (k + 1)) = p) := by
                  show isParen _ = _
                  rw [take_snoc t k hlt, isParen_snoc, ← HP.out, c40]
                  simp
                have HQs : Hid (isWord (t.data.toList.take (k + 1)) = q) := by
                  show isWord _ = _
                  rw [take_snoc t k hlt, isWord_snoc, ← HQ.out]
                  simp [clo, chi]
                go_wp2
                go_round
                case rel => exact ⟨k + 1, p, q, by omega, by go_num, rfl, rfl, HPs.out.symm, HQs.out.symm⟩
                case measure => simp [intOf]; omega
              · have HPs : Hid (isParen (t.data.toList.take (k + 1)) = p) := by
                  show isParen _ = _
                  rw [take_snoc t k hlt, isParen_snoc, ← HP.out, c40]
                  simp
                have HQs : Hid (isWord (t.data.toList.take (k + 1)) = false) := by
                  show isWord _ = _
                  rw [take_snoc t k hlt, isWord_snoc, ← HQ.out]
                  simp; omega
                go_wp2
                go_round
                case rel => exact ⟨k + 1, p, false, by omega, by go_num, rfl, rfl, HPs.out.symm, HQs.out.symm⟩
                case measure => simp [intOf]; omega
            · have HPs : Hid (isParen (t.data.toList.take (k + 1)) = p) := by
                show isParen _ = _
                rw [take_snoc t k hlt, isParen_snoc, ← HP.out, c40]
                simp
              have HQs : Hid (isWord (t.data.toList.take (k + 1)) = false) := by
                show isWord _ = _
                rw [take_snoc t k hlt, isWord_snoc, ← HQ.out]
                simp; omega
              go_wp2
              go_round
              case rel => exact ⟨k + 1, p, false, by omega, by go_num, rfl, rfl, HPs.out.symm, HQs.out.symm⟩
              case measure => simp [intOf]; omega
          · by_cases clo : 97 ≤ (t[k].toNat : Int)
            · by_cases chi : (t[k].toNat : Int) ≤ 122
              · have HPs : Hid (isParen (t.data.toList.take (k + 1)) = true) := by
                  show isParen _ = _
                  rw [take_snoc t k hlt, isParen_snoc, ← HP.out, c40]
                  simp
                have HQs : Hid (isWord (t.data.toList.take (k + 1)) = q) := by
                  show isWord _ = _
                  rw [take_snoc t k hlt, isWord_snoc, ← HQ.out]
                  simp [clo, chi]
                go_wp2
                go_round
                case rel => exact ⟨k + 1, true, q, by omega, by go_num, rfl, rfl, HPs.out.symm, HQs.out.symm⟩
                case measure => simp [intOf]; omega
              · have HPs : Hid (isParen (t.data.toList.take (k + 1)) = true) := by
                  show isParen _ = _
                  rw [take_snoc t k hlt, isParen_snoc, ← HP.out, c40]
                  simp
                have HQs : Hid (isWord (t.data.toList.take (k + 1)) = false) := by
                  show isWord _ = _
                  rw [take_snoc t k hlt, isWord_snoc, ← HQ.out]
                  simp; omega
                go_wp2
                go_round
                case rel => exact ⟨k + 1, true, false, by omega, by go_num, rfl, rfl, HPs.out.symm, HQs.out.symm⟩
                case measure => simp [intOf]; omega
            · have HPs : Hid (isParen (t.data.toList.take (k + 1)) = true) := by
                show isParen _ = _
                rw [take_snoc t k hlt, isParen_snoc, ← HP.out, c40]
                simp
              have HQs : Hid (isWord (t.data.toList.take (k + 1)) = false) := by
                show isWord _ = _
                rw [take_snoc t k hlt, isWord_snoc, ← HQ.out]
                simp; omega
              go_wp2
              go_round
              case rel => exact ⟨k + 1, true, false, by omega, by go_num, rfl, rfl, HPs.out.symm, HQs.out.symm⟩
              case measure => simp [intOf]; omega
        · have hall : t.data.toList.take k = t.data.toList := List.take_of_length_le (by rw [HN.out]; omega)
          have hp := HP.out
          have hq := HQ.out
          rw [hall] at hp hq
          clear hall HP HQ
          obtain rfl : p = true := hp.trans HR.out
          clear hp hq
          go_wp2
          go_ret
          exact ⟨rfl, HB.out⟩
end Go.Proofs.Qxb6000524aDoor
