/-
  Seat b6000912aD: the walks of (Msg..).String, its reader, and the law.
-/
import Derived.Test.Qxb6000912aDoorWalks
namespace Go.Proofs.Qxb6000912aDoor
open Go.RowKit Go.Shelf

set_option maxHeartbeats 400000 in
theorem stringMsg_1 (w : World) : Calls Tryd.prog 9 #[.int .u8 1] w fun e w' => e = .returned (.string ⟨#[118, 111, 116, 101]⟩) ∧ w' = w := by
  go_enter Tryd.func9, Tryd.ntmps9
  go_wp2
  go_ret
  exact ⟨rfl, rfl⟩
set_option maxHeartbeats 400000 in
theorem parseMsg_1 (w : World) : Calls Tryd.prog 8 #[.string ⟨#[118, 111, 116, 101]⟩] w fun e w' => e = .returned (.tuple #[.int .i64 1, .bool true, .bool true]) ∧ w' = w := by
  go_enter Tryd.func8, Tryd.ntmps8
  go_wp2
  go_ret3
  exact ⟨rfl, rfl⟩
set_option maxHeartbeats 400000 in
theorem lawMsg_1 (w : World) : Calls Tryd.prog 3 #[.int .u8 1] w fun e w' => e = .returned (.bool true) ∧ Below w.heap.size w w' := by
  go_enter Tryd.func3, Tryd.ntmps3
  go_wp2_with (first
    | (go_at_call 9; refine (stringMsg_1 _).mono ?_; rintro e w' ⟨rfl, rfl⟩)
    | (go_at_call 8; refine (parseMsg_1 _).mono ?_; rintro e w' ⟨rfl, rfl⟩))
  go_ret
  exact ⟨rfl, Below.refl _ _⟩

set_option maxHeartbeats 400000 in
theorem stringMsg_2 (w : World) : Calls Tryd.prog 9 #[.int .u8 2] w fun e w' => e = .returned (.string ⟨#[118, 111, 116, 101, 45, 114, 101, 115, 112, 111, 110, 115, 101]⟩) ∧ w' = w := by
  go_enter Tryd.func9, Tryd.ntmps9
  go_wp2
  go_ret
  exact ⟨rfl, rfl⟩
set_option maxHeartbeats 400000 in
theorem parseMsg_2 (w : World) : Calls Tryd.prog 8 #[.string ⟨#[118, 111, 116, 101, 45, 114, 101, 115, 112, 111, 110, 115, 101]⟩] w fun e w' => e = .returned (.tuple #[.int .i64 2, .bool true, .bool true]) ∧ w' = w := by
  go_enter Tryd.func8, Tryd.ntmps8
  go_wp2
  go_ret3
  exact ⟨rfl, rfl⟩
set_option maxHeartbeats 400000 in
theorem lawMsg_2 (w : World) : Calls Tryd.prog 3 #[.int .u8 2] w fun e w' => e = .returned (.bool true) ∧ Below w.heap.size w w' := by
  go_enter Tryd.func3, Tryd.ntmps3
  go_wp2_with (first
    | (go_at_call 9; refine (stringMsg_2 _).mono ?_; rintro e w' ⟨rfl, rfl⟩)
    | (go_at_call 8; refine (parseMsg_2 _).mono ?_; rintro e w' ⟨rfl, rfl⟩))
  go_ret
  exact ⟨rfl, Below.refl _ _⟩

set_option maxHeartbeats 400000 in
theorem stringMsg_3 (w : World) : Calls Tryd.prog 9 #[.int .u8 3] w fun e w' => e = .returned (.string ⟨#[97, 112, 112, 101, 110, 100]⟩) ∧ w' = w := by
  go_enter Tryd.func9, Tryd.ntmps9
  go_wp2
  go_ret
  exact ⟨rfl, rfl⟩
set_option maxHeartbeats 400000 in
theorem parseMsg_3 (w : World) : Calls Tryd.prog 8 #[.string ⟨#[97, 112, 112, 101, 110, 100]⟩] w fun e w' => e = .returned (.tuple #[.int .i64 3, .bool true, .bool true]) ∧ w' = w := by
  go_enter Tryd.func8, Tryd.ntmps8
  go_wp2
  go_ret3
  exact ⟨rfl, rfl⟩
set_option maxHeartbeats 400000 in
theorem lawMsg_3 (w : World) : Calls Tryd.prog 3 #[.int .u8 3] w fun e w' => e = .returned (.bool true) ∧ Below w.heap.size w w' := by
  go_enter Tryd.func3, Tryd.ntmps3
  go_wp2_with (first
    | (go_at_call 9; refine (stringMsg_3 _).mono ?_; rintro e w' ⟨rfl, rfl⟩)
    | (go_at_call 8; refine (parseMsg_3 _).mono ?_; rintro e w' ⟨rfl, rfl⟩))
  go_ret
  exact ⟨rfl, Below.refl _ _⟩

set_option maxHeartbeats 400000 in
theorem stringMsg_4 (w : World) : Calls Tryd.prog 9 #[.int .u8 4] w fun e w' => e = .returned (.string ⟨#[97, 112, 112, 101, 110, 100, 45, 114, 101, 115, 112, 111, 110, 115, 101]⟩) ∧ w' = w := by
  go_enter Tryd.func9, Tryd.ntmps9
  go_wp2
  go_ret
  exact ⟨rfl, rfl⟩
set_option maxHeartbeats 400000 in
theorem parseMsg_4 (w : World) : Calls Tryd.prog 8 #[.string ⟨#[97, 112, 112, 101, 110, 100, 45, 114, 101, 115, 112, 111, 110, 115, 101]⟩] w fun e w' => e = .returned (.tuple #[.int .i64 4, .bool true, .bool true]) ∧ w' = w := by
  go_enter Tryd.func8, Tryd.ntmps8
  go_wp2
  go_ret3
  exact ⟨rfl, rfl⟩
set_option maxHeartbeats 400000 in
theorem lawMsg_4 (w : World) : Calls Tryd.prog 3 #[.int .u8 4] w fun e w' => e = .returned (.bool true) ∧ Below w.heap.size w w' := by
  go_enter Tryd.func3, Tryd.ntmps3
  go_wp2_with (first
    | (go_at_call 9; refine (stringMsg_4 _).mono ?_; rintro e w' ⟨rfl, rfl⟩)
    | (go_at_call 8; refine (parseMsg_4 _).mono ?_; rintro e w' ⟨rfl, rfl⟩))
  go_ret
  exact ⟨rfl, Below.refl _ _⟩

set_option maxHeartbeats 400000 in
theorem stringMsg_5 (w : World) : Calls Tryd.prog 9 #[.int .u8 5] w fun e w' => e = .returned (.string ⟨#[112, 114, 101, 45, 118, 111, 116, 101]⟩) ∧ w' = w := by
  go_enter Tryd.func9, Tryd.ntmps9
  go_wp2
  go_ret
  exact ⟨rfl, rfl⟩
set_option maxHeartbeats 400000 in
theorem parseMsg_5 (w : World) : Calls Tryd.prog 8 #[.string ⟨#[112, 114, 101, 45, 118, 111, 116, 101]⟩] w fun e w' => e = .returned (.tuple #[.int .i64 5, .bool true, .bool true]) ∧ w' = w := by
  go_enter Tryd.func8, Tryd.ntmps8
  go_wp2
  go_ret3
  exact ⟨rfl, rfl⟩
set_option maxHeartbeats 400000 in
theorem lawMsg_5 (w : World) : Calls Tryd.prog 3 #[.int .u8 5] w fun e w' => e = .returned (.bool true) ∧ Below w.heap.size w w' := by
  go_enter Tryd.func3, Tryd.ntmps3
  go_wp2_with (first
    | (go_at_call 9; refine (stringMsg_5 _).mono ?_; rintro e w' ⟨rfl, rfl⟩)
    | (go_at_call 8; refine (parseMsg_5 _).mono ?_; rintro e w' ⟨rfl, rfl⟩))
  go_ret
  exact ⟨rfl, Below.refl _ _⟩

set_option maxHeartbeats 400000 in
theorem stringMsg_6 (w : World) : Calls Tryd.prog 9 #[.int .u8 6] w fun e w' => e = .returned (.string ⟨#[112, 114, 101, 45, 118, 111, 116, 101, 45, 114, 101, 115, 112, 111, 110, 115, 101]⟩) ∧ w' = w := by
  go_enter Tryd.func9, Tryd.ntmps9
  go_wp2
  go_ret
  exact ⟨rfl, rfl⟩
set_option maxHeartbeats 400000 in
theorem parseMsg_6 (w : World) : Calls Tryd.prog 8 #[.string ⟨#[112, 114, 101, 45, 118, 111, 116, 101, 45, 114, 101, 115, 112, 111, 110, 115, 101]⟩] w fun e w' => e = .returned (.tuple #[.int .i64 6, .bool true, .bool true]) ∧ w' = w := by
  go_enter Tryd.func8, Tryd.ntmps8
  go_wp2
  go_ret3
  exact ⟨rfl, rfl⟩
set_option maxHeartbeats 400000 in
theorem lawMsg_6 (w : World) : Calls Tryd.prog 3 #[.int .u8 6] w fun e w' => e = .returned (.bool true) ∧ Below w.heap.size w w' := by
  go_enter Tryd.func3, Tryd.ntmps3
  go_wp2_with (first
    | (go_at_call 9; refine (stringMsg_6 _).mono ?_; rintro e w' ⟨rfl, rfl⟩)
    | (go_at_call 8; refine (parseMsg_6 _).mono ?_; rintro e w' ⟨rfl, rfl⟩))
  go_ret
  exact ⟨rfl, Below.refl _ _⟩

set_option maxHeartbeats 400000 in
theorem stringMsg_7 (w : World) : Calls Tryd.prog 9 #[.int .u8 7] w fun e w' => e = .returned (.string ⟨#[115, 110, 97, 112, 115, 104, 111, 116]⟩) ∧ w' = w := by
  go_enter Tryd.func9, Tryd.ntmps9
  go_wp2
  go_ret
  exact ⟨rfl, rfl⟩
set_option maxHeartbeats 400000 in
theorem parseMsg_7 (w : World) : Calls Tryd.prog 8 #[.string ⟨#[115, 110, 97, 112, 115, 104, 111, 116]⟩] w fun e w' => e = .returned (.tuple #[.int .i64 7, .bool true, .bool true]) ∧ w' = w := by
  go_enter Tryd.func8, Tryd.ntmps8
  go_wp2
  go_ret3
  exact ⟨rfl, rfl⟩
set_option maxHeartbeats 400000 in
theorem lawMsg_7 (w : World) : Calls Tryd.prog 3 #[.int .u8 7] w fun e w' => e = .returned (.bool true) ∧ Below w.heap.size w w' := by
  go_enter Tryd.func3, Tryd.ntmps3
  go_wp2_with (first
    | (go_at_call 9; refine (stringMsg_7 _).mono ?_; rintro e w' ⟨rfl, rfl⟩)
    | (go_at_call 8; refine (parseMsg_7 _).mono ?_; rintro e w' ⟨rfl, rfl⟩))
  go_ret
  exact ⟨rfl, Below.refl _ _⟩

set_option maxHeartbeats 400000 in
theorem stringMsg_8 (w : World) : Calls Tryd.prog 9 #[.int .u8 8] w fun e w' => e = .returned (.string ⟨#[116, 105, 109, 101, 111, 117, 116, 45, 110, 111, 119]⟩) ∧ w' = w := by
  go_enter Tryd.func9, Tryd.ntmps9
  go_wp2
  go_ret
  exact ⟨rfl, rfl⟩
set_option maxHeartbeats 400000 in
theorem parseMsg_8 (w : World) : Calls Tryd.prog 8 #[.string ⟨#[116, 105, 109, 101, 111, 117, 116, 45, 110, 111, 119]⟩] w fun e w' => e = .returned (.tuple #[.int .i64 8, .bool true, .bool true]) ∧ w' = w := by
  go_enter Tryd.func8, Tryd.ntmps8
  go_wp2
  go_ret3
  exact ⟨rfl, rfl⟩
set_option maxHeartbeats 400000 in
theorem lawMsg_8 (w : World) : Calls Tryd.prog 3 #[.int .u8 8] w fun e w' => e = .returned (.bool true) ∧ Below w.heap.size w w' := by
  go_enter Tryd.func3, Tryd.ntmps3
  go_wp2_with (first
    | (go_at_call 9; refine (stringMsg_8 _).mono ?_; rintro e w' ⟨rfl, rfl⟩)
    | (go_at_call 8; refine (parseMsg_8 _).mono ?_; rintro e w' ⟨rfl, rfl⟩))
  go_ret
  exact ⟨rfl, Below.refl _ _⟩

/-- The head of the text of a number that has no name. -/
def preMsg : ByteArray := ⟨#[77, 115, 103, 84, 121, 112, 101, 40]⟩

set_option maxHeartbeats 400000 in
theorem stringMsg_other (u : Nat) (t d : ByteArray) (w : World) (hu : u ≤ 255) (ho : u = 0 ∨ 8 < u) (hd : d.data.toList = Lib.decDigits u) (ht : t.data.toList = preMsg.data.toList ++ d.data.toList ++ [41])
    (htab : Lib.TabIs Tryd.prog w "internal/strconv.uint64pow10" .u64 Lib.pow10Tab) :
    Calls Tryd.prog 9 #[.int .u8 (u : Int)] w fun e w' => e = .returned (.string t) ∧ Below w.heap.size w w' := by
  have HT := Lib.hid htab
  have HD := Lib.hid hd
  have hdl : d.size ≤ 3 := by rw [Lib.size_eq, hd]; exact (dd_len3 u hu).2
  have b1 : ((u : Int) == 1) = false := by simp; omega
  have b2 : ((u : Int) == 2) = false := by simp; omega
  have b3 : ((u : Int) == 3) = false := by simp; omega
  have b4 : ((u : Int) == 4) = false := by simp; omega
  have b5 : ((u : Int) == 5) = false := by simp; omega
  have b6 : ((u : Int) == 6) = false := by simp; omega
  have b7 : ((u : Int) == 7) = false := by simp; omega
  have b8 : ((u : Int) == 8) = false := by simp; omega
  have HE : Hid ((⟨#[77, 115, 103, 84, 121, 112, 101, 40]⟩ : ByteArray) ++ d ++ ⟨#[41]⟩ = t) := bytes_eq (by
    rw [ht, data_append, data_append]
    rfl)
  clear htab hd ht ho
  go_enter Tryd.func9, Tryd.ntmps9
  go_wp2_with (go_at_call 13; refine (ito_any u d _ hu HD.out HT.out).mono ?_; rintro e w' ⟨rfl, hb⟩; have HB := Lib.hid hb; clear hb)
  go_ret
  exact ⟨ret_str HE.out, HB.out⟩

set_option maxHeartbeats 1000000 in
theorem parseMsg_other (u : Nat) (t d : ByteArray) (w : World) (hu : u ≤ 255) (hd : d.data.toList = Lib.decDigits u) (ht : t.data.toList = preMsg.data.toList ++ d.data.toList ++ [41]) :
    Calls Tryd.prog 8 #[.string t] w fun e w' => e = .returned (.tuple #[.int .i64 u, .bool false, .bool true]) ∧ w' = w := by
  have HF : Hid (∀ W, Calls Tryd.prog 12 #[.string t, .string ⟨#[77, 115, 103, 84, 121, 112, 101, 40]⟩] W fun e w' => e = .returned (.tuple #[.int .i64 u, .bool true]) ∧ w' = W) := fun W => fallback_any t _ d u W hu (by decide) hd (shape_of t preMsg d ht)
  have hne : ∀ l : List UInt8, l.head? ≠ some 77 → (t.toList == l) = false := fun l hl => by
    cases h : (t.toList == l)
    · rfl
    · have := beq_iff_eq.1 h
      rw [Lib.toList_data, ht] at this
      subst this
      exact absurd rfl hl
  have n1 : (t.toList == [118, 111, 116, 101]) = false := hne _ (by decide)
  have n2 : (t.toList == [118, 111, 116, 101, 45, 114, 101, 115, 112, 111, 110, 115, 101]) = false := hne _ (by decide)
  have n3 : (t.toList == [97, 112, 112, 101, 110, 100]) = false := hne _ (by decide)
  have n4 : (t.toList == [97, 112, 112, 101, 110, 100, 45, 114, 101, 115, 112, 111, 110, 115, 101]) = false := hne _ (by decide)
  have n5 : (t.toList == [112, 114, 101, 45, 118, 111, 116, 101]) = false := hne _ (by decide)
  have n6 : (t.toList == [112, 114, 101, 45, 118, 111, 116, 101, 45, 114, 101, 115, 112, 111, 110, 115, 101]) = false := hne _ (by decide)
  have n7 : (t.toList == [115, 110, 97, 112, 115, 104, 111, 116]) = false := hne _ (by decide)
  have n8 : (t.toList == [116, 105, 109, 101, 111, 117, 116, 45, 110, 111, 119]) = false := hne _ (by decide)
  clear hne ht hd
  go_enter Tryd.func8, Tryd.ntmps8
  go_wp2_with (go_at_call 12; refine (HF.out _).mono ?_; rintro e w' ⟨rfl, rfl⟩)
  go_ret3
  exact ⟨rfl, rfl⟩

set_option maxHeartbeats 400000 in
theorem lawMsg_other (u : Nat) (w : World) (hu : u ≤ 255) (ho : u = 0 ∨ 8 < u) (htab : Lib.TabIs Tryd.prog w "internal/strconv.uint64pow10" .u64 Lib.pow10Tab) :
    Calls Tryd.prog 3 #[.int .u8 (u : Int)] w fun e w' => e = .returned (.bool true) ∧ Below w.heap.size w w' := by
  obtain ⟨d, hd⟩ : ∃ d : ByteArray, d.data.toList = Lib.decDigits u := ⟨⟨_⟩, rfl⟩
  obtain ⟨t, ht⟩ : ∃ t : ByteArray, t.data.toList = preMsg.data.toList ++ d.data.toList ++ [41] := ⟨⟨_⟩, rfl⟩
  have HS : Hid (Calls Tryd.prog 9 #[.int .u8 (u : Int)] w fun e w' => e = .returned (.string t) ∧ Below w.heap.size w w') := stringMsg_other u t d w hu ho hd ht htab
  have HP : Hid (∀ W, Calls Tryd.prog 8 #[.string t] W fun e w' => e = .returned (.tuple #[.int .i64 u, .bool false, .bool true]) ∧ w' = W) := fun W => parseMsg_other u t d W hu hd ht
  clear hd ht htab
  rcases ho with rfl | ho
  · go_enter Tryd.func3, Tryd.ntmps3
    go_wp2_with (first
      | (go_at_call 9; refine HS.out.mono ?_; rintro e w1 ⟨rfl, hb⟩; have HB := Lib.hid hb; clear hb)
      | (go_at_call 8; refine (HP.out _).mono ?_; rintro e w' ⟨rfl, rfl⟩))
    go_ret
    exact ⟨rfl, HB.out⟩
  · have h1 : 1 ≤ (u : Int) := by omega
    have h2 : decide ((u : Int) ≤ 8) = false := decide_eq_false (by omega)
    go_enter Tryd.func3, Tryd.ntmps3
    go_wp2_with (first
      | (go_at_call 9; refine HS.out.mono ?_; rintro e w1 ⟨rfl, hb⟩; have HB := Lib.hid hb; clear hb)
      | (go_at_call 8; refine (HP.out _).mono ?_; rintro e w' ⟨rfl, rfl⟩))
    go_ret
    exact ⟨rfl, HB.out⟩

theorem lawMsg_any (n : Int) (w : World) (h0 : 0 ≤ n) (h1 : n ≤ 255) (htab : Lib.TabIs Tryd.prog w "internal/strconv.uint64pow10" .u64 Lib.pow10Tab) :
    Calls Tryd.prog 3 #[.int .u8 n] w fun e w' => e = .returned (.bool true) ∧ Below w.heap.size w w' := by
  obtain ⟨u, rfl⟩ : ∃ u : Nat, n = (u : Int) := ⟨n.toNat, by omega⟩
  by_cases ho : u = 0 ∨ 8 < u
  · exact lawMsg_other u w (by omega) ho htab
  · obtain rfl | rfl | rfl | rfl | rfl | rfl | rfl | rfl : u = 1 ∨ u = 2 ∨ u = 3 ∨ u = 4 ∨ u = 5 ∨ u = 6 ∨ u = 7 ∨ u = 8 := by omega
    · exact lawMsg_1 w
    · exact lawMsg_2 w
    · exact lawMsg_3 w
    · exact lawMsg_4 w
    · exact lawMsg_5 w
    · exact lawMsg_6 w
    · exact lawMsg_7 w
    · exact lawMsg_8 w
end Go.Proofs.Qxb6000912aDoor
