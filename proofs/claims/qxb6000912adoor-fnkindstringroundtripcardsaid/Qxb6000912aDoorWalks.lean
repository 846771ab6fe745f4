/-
  Seat b6000912aD: the walks of parseFallback and of strconv.Itoa's caller side.
-/
import Derived.Test.Qxb6000912aDoorShelf
import Derived.Test.Qxb6000912aDoorPlain
import Derived.Lib.Strings
import Derived.Lib.Hide
import Derived.WalkKit
import Derived.WalkSpells
import Derived.WalkLawsBesides
namespace Go.Proofs.Qxb6000912aDoor
open Go.RowKit Go.Shelf

/-- What lay below stays, where the world has drawn and blocks have been laid behind. -/
theorem below_grow (w : World) (q : Nat) (os : Array Obj) : Below w.heap.size w (Sort.grow (w.drewN q) os) :=
  ⟨rfl, rfl, rfl, by show w.heap.size ≤ (w.heap ++ os).size; rw [Array.size_append]; omega, fun i hi => by
    show (w.heap ++ os)[i]? = _
    rw [Array.getElem?_append_left hi]⟩

/-- strconv.Itoa at a small number, its result under a name. -/
theorem ito_any (u : Nat) (t : ByteArray) (w : World) (h1 : u ≤ 255) (ht : t.data.toList = Lib.decDigits u)
    (htab : Lib.TabIs Tryd.prog w "internal/strconv.uint64pow10" .u64 Lib.pow10Tab) :
    Calls Tryd.prog 13 #[.int .i64 (u : Int)] w fun e w' => e = .returned (.string t) ∧ Below w.heap.size w w' := by
  have h := Any.strconv_Itoa Tryd.laysItoa (u : Int) (by omega) (by omega) w htab
  rw [Lib.itoa_nonneg, ← ht, Lib.mk_data] at h
  refine h.mono ?_
  rintro e w' ⟨rfl, k, os, rfl⟩
  exact ⟨rfl, below_grow _ _ _⟩

theorem data_append (a b : ByteArray) : (a ++ b).data.toList = a.data.toList ++ b.data.toList := by
  rw [ByteArray.data_append, Array.toList_append]
theorem ret_str {a b : ByteArray} (h : a = b) : Ending.returned (.string a) = .returned (.string b) := by rw [h]
theorem bytes_eq {a b : ByteArray} (h : a.data.toList = b.data.toList) : a = b := by rw [← Lib.mk_data a, h, Lib.mk_data]
theorem take_snoc (s : ByteArray) (k : Nat) (h : k < s.size) : s.data.toList.take (k + 1) = s.data.toList.take k ++ [s[k]] := by
  rw [List.take_succ_eq_append_getElem (by rw [← Lib.size_eq]; exact h)]; rfl
theorem ret_two {a b : Int} (h : a = b) : Ending.returned (.tuple #[.int .i64 a, .bool true]) = .returned (.tuple #[.int .i64 b, .bool true]) := by rw [h]

/-- The shape of a text that is a head, digits and ')'. -/
structure Shape (t p d : ByteArray) : Prop where
  size : t.size = p.size + d.size + 1
  head : ((t.extract 0 p.size).toList == p.toList) = true
  last : (t[t.size - 1]'(by omega)).toNat = 41
  mid : t.extract p.size (t.size - 1) = d

theorem shape_of (t p d : ByteArray) (e : t.data.toList = p.data.toList ++ d.data.toList ++ [41]) : Shape t p d := by
  have hz : t.size = p.size + d.size + 1 := by
    rw [Lib.size_eq, e, Lib.size_eq, Lib.size_eq, List.length_append, List.length_append]
    rfl
  have hget : ∀ k (h : k < t.size), t[k] = t.data.toList[k]'(by rw [← Lib.size_eq]; exact h) := fun k h => rfl
  refine ⟨hz, ?_, ?_, ?_⟩
  · rw [beq_iff_eq, Lib.extract_toList, Lib.toList_data, e, List.append_assoc]
    show (p.data.toList ++ (d.data.toList ++ [41])).take (p.size - 0) = _
    rw [Nat.sub_zero, Lib.size_eq, List.take_left]
  · rw [hget]
    simp only [e, hz]
    rw [List.getElem_append_right (by rw [List.length_append, ← Lib.size_eq, ← Lib.size_eq]; omega)]
    simp
  · rw [Lib.extract_eq, e, hz, List.append_assoc]
    have e6 : (p.data.toList ++ (d.data.toList ++ [41])).drop p.size = d.data.toList ++ [41] := by rw [Lib.size_eq, List.drop_left]
    rw [e6, show p.size + d.size + 1 - 1 - p.size = d.data.toList.length by rw [← Lib.size_eq]; omega, List.take_left, Lib.mk_data]

set_option maxHeartbeats 2000000 in
/-- parseFallback at the text that String writes. -/
theorem fallback_any (t p d : ByteArray) (u : Nat) (w : World) (hu : u ≤ 255) (hp : p.size ≤ 8) (hd : d.data.toList = Lib.decDigits u) (hS : Shape t p d) :
    Calls Tryd.prog 12 #[.string t, .string p] w fun e w' => e = .returned (.tuple #[.int .i64 u, .bool true]) ∧ w' = w := by
  obtain ⟨hd0, hd3⟩ := dd_len3 u hu
  rw [← hd, ← Lib.size_eq] at hd0 hd3
  have HD := Lib.hid hd
  have HN : Hid (d.data.toList.length = d.size) := (Lib.size_eq d).symm
  have HZ := Lib.hid hS.size
  have hz1 : p.size + 2 ≤ t.size := by have := HZ.out; omega
  have hz2 : t.size ≤ 12 := by have := HZ.out; omega
  have hhead := hS.head
  have hlast : ((t[t.size - 1].toNat : Int) != 41) = false := by
    have := hS.last
    simp
    omega
  have hmid := hS.mid
  have hzero : 1 < d.size → ((d[0].toNat : Int) == 48) = false := fun h => by
    have hu1 : 1 ≤ u := by
      rcases Nat.eq_zero_or_pos u with rfl | h'
      · rw [Lib.size_eq, hd, dd_small (by omega)] at h
        simp at h
      · exact h'
    have hh : (Lib.decDigits u).head? = some d[0] := by
      rw [← hd]
      have e : d[0] = d.data.toList[0]'(by rw [← Lib.size_eq]; exact hd0) := rfl
      rw [e, List.head?_eq_getElem?, List.getElem?_eq_getElem]
    have := dd_head u hu1 _ hh
    simp
    omega
  clear hd hS
  by_cases hone : 1 < d.size
  · have hz0 := hzero hone
    clear hzero
    go_enter Tryd.func12, Tryd.ntmps12
    go_wp2
    go_loop [8, 9] (fun va vi => ∃ k a : Nat, k ≤ d.size ∧ vi = .int .i64 k ∧ va = .int .i64 a ∧ a ≤ 255 ∧ Hid (a = accOf (d.data.toList.take k))) (fun _ vi => d.size - (intOf vi).toNat)
    case atStart => exact ⟨0, 0, Nat.zero_le _, rfl, rfl, by omega, rfl⟩
    case round =>
      obtain ⟨k, a, hk, rfl, rfl, ha, HA⟩ := hrel
      by_cases hlt : k < d.size
      · have e1 : accOf (d.data.toList.take (k + 1)) = a * 10 + (d[k].toNat - 48) := by
          rw [take_snoc d k hlt, accOf_snoc, ← HA.out]
        have e2 : accOf (d.data.toList.take (k + 1)) ≤ u := by
          have := accOf_take d.data.toList (k + 1)
          rw [HD.out, accOf_dd] at this
          rw [HD.out]
          exact this
        have hm : d[k] ∈ Lib.decDigits u := by
          rw [← HD.out]
          exact List.getElem_mem _
        obtain ⟨g0, g1⟩ := dd_digit u _ hm
        have c0 : 48 ≤ (d[k].toNat : Int) := by omega
        have c1 : (d[k].toNat : Int) ≤ 57 := by omega
        have m0 : (a : Int) * 10 + ((d[k].toNat : Int) - 48) ≤ 255 := by omega
        have HE := Lib.hid e1
        have HG : Hid (48 ≤ d[k].toNat) := g0
        clear e1 e2 g0 g1 hm
        go_wp2
        go_round
        case rel => exact ⟨k + 1, a * 10 + (d[k].toNat - 48), by omega, by go_num, by have := HG.out; go_num, by have := HG.out; omega, HE.out.symm⟩
        case measure => simp [intOf]; omega
      · have e1 := HA.out
        rw [List.take_of_length_le (by rw [HN.out]; omega), HD.out, accOf_dd] at e1
        have HE : Hid ((a : Int) = (u : Int)) := by rw [e1]; rfl
        clear e1
        go_wp2
        go_ret2
        exact ⟨ret_two HE.out, rfl⟩
  · have hone' : d.size = 1 := by omega
    have hle : d.size ≤ 1 := by omega
    clear hzero hone hone'
    go_enter Tryd.func12, Tryd.ntmps12
    go_wp2
    go_loop [8, 9] (fun va vi => ∃ k a : Nat, k ≤ d.size ∧ vi = .int .i64 k ∧ va = .int .i64 a ∧ a ≤ 255 ∧ Hid (a = accOf (d.data.toList.take k))) (fun _ vi => d.size - (intOf vi).toNat)
    case atStart => exact ⟨0, 0, Nat.zero_le _, rfl, rfl, by omega, rfl⟩
    case round =>
      obtain ⟨k, a, hk, rfl, rfl, ha, HA⟩ := hrel
      by_cases hlt : k < d.size
      · have e1 : accOf (d.data.toList.take (k + 1)) = a * 10 + (d[k].toNat - 48) := by
          rw [take_snoc d k hlt, accOf_snoc, ← HA.out]
        have e2 : accOf (d.data.toList.take (k + 1)) ≤ u := by
          have := accOf_take d.data.toList (k + 1)
          rw [HD.out, accOf_dd] at this
          rw [HD.out]
          exact this
        have hm : d[k] ∈ Lib.decDigits u := by
          rw [← HD.out]
          exact List.getElem_mem _
        obtain ⟨g0, g1⟩ := dd_digit u _ hm
        have c0 : 48 ≤ (d[k].toNat : Int) := by omega
        have c1 : (d[k].toNat : Int) ≤ 57 := by omega
        have m0 : (a : Int) * 10 + ((d[k].toNat : Int) - 48) ≤ 255 := by omega
        have HE := Lib.hid e1
        have HG : Hid (48 ≤ d[k].toNat) := g0
        clear e1 e2 g0 g1 hm
        go_wp2
        go_round
        case rel => exact ⟨k + 1, a * 10 + (d[k].toNat - 48), by omega, by go_num, by have := HG.out; go_num, by have := HG.out; omega, HE.out.symm⟩
        case measure => simp [intOf]; omega
      · have e1 := HA.out
        rw [List.take_of_length_le (by rw [HN.out]; omega), HD.out, accOf_dd] at e1
        have HE : Hid ((a : Int) = (u : Int)) := by rw [e1]; rfl
        clear e1
        go_wp2
        go_ret2
        exact ⟨ret_two HE.out, rfl⟩
end Go.Proofs.Qxb6000912aDoor
