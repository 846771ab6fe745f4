/-
  Seat b6000524aD: the walks of parseOrderText and of FnOrderStringRoundTrip.
-/
import Derived.Test.Qxb6000524aDoorWalks
namespace Go.Proofs.Qxb6000524aDoor
open Go.RowKit Go.Shelf

set_option maxHeartbeats 1000000 in
theorem parse_named (o : Int) (t : ByteArray) (w : World) (ho : 0 ≤ o) (ho3 : o ≤ 3) (ht : t.data.toList = strOf o) :
    Calls Tryd.prog 6 #[.string t] w fun e w' => e = .returned (.tuple #[.int .i64 o, .bool true]) ∧ Below w.heap.size w w' := by
  obtain rfl | rfl | rfl | rfl : o = 0 ∨ o = 1 ∨ o = 2 ∨ o = 3 := by omega
  · obtain rfl : t = ⟨#[101, 113, 117, 97, 108]⟩ := bytes_eq ht
    clear ht
    go_enter Tryd.func6, Tryd.ntmps6
    go_wp2
    go_ret2
    exact ⟨rfl, Below.refl _ _⟩
  · obtain rfl : t = ⟨#[98, 101, 102, 111, 114, 101]⟩ := bytes_eq ht
    clear ht
    go_enter Tryd.func6, Tryd.ntmps6
    go_wp2
    go_ret2
    exact ⟨rfl, Below.refl _ _⟩
  · obtain rfl : t = ⟨#[97, 102, 116, 101, 114]⟩ := bytes_eq ht
    clear ht
    go_enter Tryd.func6, Tryd.ntmps6
    go_wp2
    go_ret2
    exact ⟨rfl, Below.refl _ _⟩
  · obtain rfl : t = ⟨#[99, 111, 110, 99, 117, 114, 114, 101, 110, 116]⟩ := bytes_eq ht
    clear ht
    go_enter Tryd.func6, Tryd.ntmps6
    go_wp2
    go_ret2
    exact ⟨rfl, Below.refl _ _⟩

/-- The text's head. -/
def pre : ByteArray := ⟨#[79, 114, 100, 101, 114, 40]⟩

/-- What parseOrderText asks of a text that names no order: its shape. -/
structure Shape (t d : ByteArray) : Prop where
  n0 : (t.toList == [101, 113, 117, 97, 108]) = false
  n1 : (t.toList == [98, 101, 102, 111, 114, 101]) = false
  n2 : (t.toList == [97, 102, 116, 101, 114]) = false
  n3 : (t.toList == [99, 111, 110, 99, 117, 114, 114, 101, 110, 116]) = false
  size : t.size = d.size + 7
  head : ∀ k (h : k < 6), t[k]'(by omega) = pre[k]'h
  last : (t[t.size - 1]'(by omega)).toNat = 41
  mid : t.extract 6 (t.size - 1) = d

theorem shape_of (o : Int) (t d : ByteArray) (ho : o < 0 ∨ 3 < o) (ht : t.data.toList = strOf o) (hd : d.data.toList = Lib.itoa o) : Shape t d := by
  have e : t.data.toList = [79, 114, 100, 101, 114, 40] ++ d.data.toList ++ [41] := by
    rw [ht, hd]
    unfold strOf
    rw [if_neg (by omega), if_neg (by omega), if_neg (by omega), if_neg (by omega)]
  have hz : t.size = d.size + 7 := by
    rw [Lib.size_eq, e, Lib.size_eq]
    simp
  have hne : ∀ l : List UInt8, l.head? ≠ some 79 → (t.toList == l) = false := fun l hl => by
    cases h : (t.toList == l)
    · rfl
    · have := beq_iff_eq.1 h
      rw [Lib.toList_data, e] at this
      subst this
      simp at hl
  have hget : ∀ k (h : k < t.size), t[k] = t.data.toList[k]'(by rw [← Lib.size_eq]; exact h) := fun k h => rfl
  have ht' : t = ⟨([79, 114, 100, 101, 114, 40] ++ d.data.toList ++ [41]).toArray⟩ := by rw [← e, Lib.mk_data]
  refine ⟨hne _ (by decide), hne _ (by decide), hne _ (by decide), hne _ (by decide), hz, fun k h => ?_, ?_, ?_⟩
  · rw [hget]
    simp only [e, List.append_assoc]
    rw [List.getElem_append_left (by simpa using h)]
    rfl
  · rw [hget]
    simp only [e, hz]
    rw [List.getElem_append_right (by rw [List.length_append, ← Lib.size_eq]; simp; omega)]
    simp
  · rw [Lib.extract_eq, e, hz]
    have e6 : ([79, 114, 100, 101, 114, 40] ++ d.data.toList ++ [41]).drop 6 = d.data.toList ++ [41] := rfl
    rw [e6, show d.size + 7 - 1 - 6 = d.data.toList.length by rw [← Lib.size_eq]; omega, List.take_left, Lib.mk_data]

theorem take_from (d : ByteArray) (D : List UInt8) (st k : Nat) (hD : d.data.toList.drop st = D) (hst : st ≤ k) (hk : k < d.size) : D.take (k + 1 - st) = D.take (k - st) ++ [d[k]] := by
  subst hD
  have hl : k - st < (d.data.toList.drop st).length := by rw [List.length_drop, ← Lib.size_eq]; omega
  rw [show k + 1 - st = k - st + 1 by omega, List.take_succ_eq_append_getElem hl, List.getElem_drop]
  have e : d.data.toList[st + (k - st)]'(by rw [← Lib.size_eq]; omega) = d[k] := by
    show _ = d.data.toList[k]'(by rw [← Lib.size_eq]; omega)
    congr 1
    omega
  rw [e]

theorem digit_from (d : ByteArray) (D : List UInt8) (st k : Nat) (hD : d.data.toList.drop st = D) (hst : st ≤ k) (hk : k < d.size) (h : ∀ c ∈ D, 48 ≤ c.toNat ∧ c.toNat ≤ 57) : 48 ≤ d[k].toNat ∧ d[k].toNat ≤ 57 := by
  refine h _ ?_
  have e := take_from d D st k hD hst hk
  have : d[k] ∈ D.take (k + 1 - st) := by rw [e]; simp
  exact List.mem_of_mem_take this

theorem ret_two {a b : Int} (h : a = b) : Ending.returned (.tuple #[.int .i64 a, .bool true]) = .returned (.tuple #[.int .i64 b, .bool true]) := by rw [h]

set_option maxHeartbeats 2000000 in
theorem parse_other (o : Int) (t : ByteArray) (w : World) (h0 : -9223372036854775808 ≤ o) (h1 : o ≤ 9223372036854775807) (ho : o < 0 ∨ 3 < o) (ht : t.data.toList = strOf o) :
    Calls Tryd.prog 6 #[.string t] w fun e w' => e = .returned (.tuple #[.int .i64 o, .bool true]) ∧ Below w.heap.size w w' := by
  obtain ⟨d, hd⟩ : ∃ d : ByteArray, d.data.toList = Lib.itoa o := ⟨⟨_⟩, rfl⟩
  have HS := Lib.hid (shape_of o t d ho ht hd)
  have HD := Lib.hid hd
  have n0 := HS.out.n0; have n1 := HS.out.n1; have n2 := HS.out.n2; have n3 := HS.out.n3
  have hdl : 0 < d.size ∧ d.size ≤ 21 := by
    rw [Lib.size_eq, hd]
    refine ⟨?_, itoa_len o h0 h1⟩
    unfold Lib.itoa
    split
    · simp
    · have := dd_ne_nil o.toNat
      exact List.length_pos_iff.2 this
  have HZ := Lib.hid HS.out.size
  have hz8 : 8 ≤ t.size := by have := HZ.out; omega
  have hz28 : t.size ≤ 28 := by have := HZ.out; omega
  clear ht hd
  go_enter Tryd.func6, Tryd.ntmps6
  go_wp2
  go_loopw [4] (fun vi wr => ∃ k : Nat, k ≤ 6 ∧ vi = .int .i64 k ∧ Hid (Below w.heap.size w wr)) (fun vi _ => 6 - (intOf vi).toNat)
  case atStart => exact ⟨0, Nat.zero_le _, rfl, Below.refl _ _⟩
  case round =>
    obtain ⟨k, hk, rfl, HB⟩ := hrel
    rename World => W0
    by_cases hlt : k < 6
    · have hlt2 : k < t.size := by omega
      have hlt3 : k < (⟨#[79, 114, 100, 101, 114, 40]⟩ : ByteArray).size := hlt
      have hne : ((t[k].toNat : Int) != ((⟨#[79, 114, 100, 101, 114, 40]⟩ : ByteArray)[k].toNat : Int)) = false := by
        have e : t[k] = (⟨#[79, 114, 100, 101, 114, 40]⟩ : ByteArray)[k] := HS.out.head k hlt
        rw [e]
        simp
      go_wp2
      go_region
      go_wp2
      go_roundw
      case rel => exact ⟨k + 1, by omega, by go_num, HB.out.drew⟩
      case measure => simp [intOf]; omega
    · obtain rfl : k = 6 := by omega
      have hlast : ((t[t.size - 1].toNat : Int) != 41) = false := by
        have := HS.out.last
        simp
        omega
      have hmid := HS.out.mid
      by_cases hneg : o < 0
      · obtain ⟨u, rfl⟩ : ∃ u : Nat, o = -(u : Int) := ⟨o.natAbs, by omega⟩
        have hu1 : 1 ≤ u := by omega
        clear ho hneg
        have HD1 : Hid (d.data.toList.drop 1 = Lib.decDigits u) := by
          show _ = _
          rw [HD.out, Lib.itoa_neg u hu1]
          rfl
        have hsz : 1 < d.size := by
          have a := congrArg List.length HD1.out
          have b := Lib.decDigits_length u
          have c := Lib.nDigits_pos u
          rw [List.length_drop, ← Lib.size_eq] at a
          omega
        have h45 : ((d[0]'hdl.1).toNat : Int) = 45 := by
          have e : d[0]'hdl.1 = d.data.toList[0]'(by rw [← Lib.size_eq]; exact hdl.1) := rfl
          rw [e]
          simp only [HD.out, Lib.itoa_neg u hu1]
          rfl
        have hdash : (((d[0]'hdl.1).toNat : Int) == 45) = true := by simpa using h45
        clear h45
        have hone : ((1 : Int) == (d.size : Int)) = false := by simp; omega
        go_wp2
        go_loopw [7, 8] (fun vi va wr => ∃ (k : Nat) (a : Int), 1 ≤ k ∧ k ≤ d.size ∧ vi = .int .i64 k ∧ va = .int .i64 a ∧ -9223372036854775808 ≤ a ∧ a ≤ 0 ∧ Hid (a = -(accOf ((Lib.decDigits u).take (k - 1)) : Int)) ∧ Hid (Below w.heap.size w wr)) (fun vi _ _ => d.size - (intOf vi).toNat)
        case atStart => exact ⟨1, 0, Nat.le_refl _, by omega, rfl, rfl, by omega, by omega, rfl, HB.out⟩
        case round =>
          obtain ⟨k, a, hst, hk, rfl, rfl, ha0, ha1, HA, HB2⟩ := hrel
          rename World => W1
          by_cases hlt : k < d.size
          · obtain ⟨g0, g1⟩ := digit_from d _ 1 k HD1.out hst hlt (dd_digit u)
            have e1 : accOf ((Lib.decDigits u).take (k + 1 - 1)) = accOf ((Lib.decDigits u).take (k - 1)) * 10 + (d[k].toNat - 48) := by
              rw [take_from d _ 1 k HD1.out hst hlt, accOf_snoc]
            have e2 := accOf_take (Lib.decDigits u) (k + 1 - 1)
            rw [accOf_dd] at e2
            have e3 := HA.out
            have c0 : 48 ≤ (d[k].toNat : Int) := by omega
            have c1 : (d[k].toNat : Int) ≤ 57 := by omega
            have m0 : -9223372036854775808 ≤ a * 10 - ((d[k].toNat : Int) - 48) := by omega
            have HN : Hid (a * 10 - ((d[k].toNat : Int) - 48) = -(accOf ((Lib.decDigits u).take (k + 1 - 1)) : Int)) := by
              show _ = _
              omega
            clear e1 e2 e3 g0 g1
            go_wp2
            go_roundw
            case rel => exact ⟨k + 1, a * 10 - ((d[k].toNat : Int) - 48), by omega, by omega, by go_num, rfl, m0, by omega, HN.out, HB2.out⟩
            case measure => simp [intOf]; omega
          · have e1 := HA.out
            rw [List.take_of_length_le (by
              have a := congrArg List.length HD1.out
              rw [List.length_drop, ← Lib.size_eq] at a
              omega), accOf_dd] at e1
            have HF : Hid (a = -(u : Int)) := e1
            clear e1
            go_wp2
            go_ret2
            exact ⟨ret_two HF.out, HB2.out⟩
      · obtain ⟨u, rfl⟩ : ∃ u : Nat, o = (u : Int) := ⟨o.toNat, by omega⟩
        clear ho hneg
        have HD1 : Hid (d.data.toList.drop 0 = Lib.decDigits u) := by
          show _ = _
          rw [HD.out, Lib.itoa_nonneg]
          rfl
        have hsz : 0 < d.size := by
          exact hdl.1
        have h45 : ((d[0]'hdl.1).toNat : Int) ≠ 45 := by
          have e : d[0]'hdl.1 = d.data.toList[0]'(by rw [← Lib.size_eq]; exact hdl.1) := rfl
          rw [e]
          have := dd_digit u _ (show d.data.toList[0]'(by rw [← Lib.size_eq]; exact hdl.1) ∈ Lib.decDigits u from by
            rw [← HD1.out]
            exact List.getElem_mem _)
          omega
        have hdash : (((d[0]'hdl.1).toNat : Int) == 45) = false := by simpa using h45
        clear h45
        have hone : ((0 : Int) == (d.size : Int)) = false := by simp; omega
        go_wp2
        go_loopw [7, 8] (fun vi va wr => ∃ (k : Nat) (a : Int), 0 ≤ k ∧ k ≤ d.size ∧ vi = .int .i64 k ∧ va = .int .i64 a ∧ -9223372036854775808 ≤ a ∧ a ≤ 0 ∧ Hid (a = -(accOf ((Lib.decDigits u).take (k - 0)) : Int)) ∧ Hid (Below w.heap.size w wr)) (fun vi _ _ => d.size - (intOf vi).toNat)
        case atStart => exact ⟨0, 0, Nat.le_refl _, by omega, rfl, rfl, by omega, by omega, rfl, HB.out⟩
        case round =>
          obtain ⟨k, a, hst, hk, rfl, rfl, ha0, ha1, HA, HB2⟩ := hrel
          rename World => W1
          by_cases hlt : k < d.size
          · obtain ⟨g0, g1⟩ := digit_from d _ 0 k HD1.out hst hlt (dd_digit u)
            have e1 : accOf ((Lib.decDigits u).take (k + 1 - 0)) = accOf ((Lib.decDigits u).take (k - 0)) * 10 + (d[k].toNat - 48) := by
              rw [take_from d _ 0 k HD1.out hst hlt, accOf_snoc]
            have e2 := accOf_take (Lib.decDigits u) (k + 1 - 0)
            rw [accOf_dd] at e2
            have e3 := HA.out
            have c0 : 48 ≤ (d[k].toNat : Int) := by omega
            have c1 : (d[k].toNat : Int) ≤ 57 := by omega
            have m0 : -9223372036854775808 ≤ a * 10 - ((d[k].toNat : Int) - 48) := by omega
            have HN : Hid (a * 10 - ((d[k].toNat : Int) - 48) = -(accOf ((Lib.decDigits u).take (k + 1 - 0)) : Int)) := by
              show _ = _
              omega
            clear e1 e2 e3 g0 g1
            go_wp2
            go_roundw
            case rel => exact ⟨k + 1, a * 10 - ((d[k].toNat : Int) - 48), by omega, by omega, by go_num, rfl, m0, by omega, HN.out, HB2.out⟩
            case measure => simp [intOf]; omega
          · have e1 := HA.out
            rw [List.take_of_length_le (by
              have a := congrArg List.length HD1.out
              rw [List.length_drop, ← Lib.size_eq] at a
              omega), accOf_dd] at e1
            have HF : Hid (-a = (u : Int)) := by
              show _ = _
              omega
            have a2 : -9223372036854775807 ≤ a := by omega
            clear e1
            go_wp2
            go_ret2
            exact ⟨ret_two HF.out, HB2.out⟩

theorem parse_any (o : Int) (t : ByteArray) (w : World) (h0 : -9223372036854775808 ≤ o) (h1 : o ≤ 9223372036854775807) (ht : t.data.toList = strOf o) :
    Calls Tryd.prog 6 #[.string t] w fun e w' => e = .returned (.tuple #[.int .i64 o, .bool true]) ∧ Below w.heap.size w w' := by
  by_cases h : 0 ≤ o ∧ o ≤ 3
  · exact parse_named o t w h.1 h.2 ht
  · exact parse_other o t w h0 h1 (by omega) ht

set_option maxHeartbeats 400000 in
theorem law3_any (o : Int) (w : World) (h0 : -9223372036854775808 ≤ o) (h1 : o ≤ 9223372036854775807) (htab : Lib.TabIs Tryd.prog w "internal/strconv.uint64pow10" .u64 Lib.pow10Tab) :
    Calls Tryd.prog 3 #[.int .i64 o] w fun e w' => e = .returned (.bool true) ∧ Below w.heap.size w w' := by
  have HT := Lib.hid htab
  clear htab
  obtain ⟨t, ht⟩ : ∃ t : ByteArray, t.data.toList = strOf o := ⟨⟨_⟩, rfl⟩
  have HS := Lib.hid ht
  clear ht
  go_enter Tryd.func3, Tryd.ntmps3
  go_wp2_with (first
    | (go_at_call 5; refine (string_any _ t _ h0 h1 HS.out HT.out).mono ?_; rintro e w1 ⟨rfl, hb⟩; have HB1 := Lib.hid hb; clear hb)
    | (go_at_call 6; refine (parse_any o t _ h0 h1 HS.out).mono ?_; rintro e w2 ⟨rfl, hb⟩; have HB2 := Lib.hid hb; clear hb))
  go_ret
  exact ⟨rfl, HB1.out.trans (HB2.out.mono HB1.out.size)⟩
end Go.Proofs.Qxb6000524aDoor
