/-
  Seat b6000912aD: the walks of (Kind..).String, its reader, and the law.
-/
import Derived.Test.Qxb6000912aDoorWalks
namespace Go.Proofs.Qxb6000912aDoor
open Go.RowKit Go.Shelf

set_option maxHeartbeats 400000 in
theorem stringKind_1 (w : World) : Calls Tryd.prog 11 #[.int .u8 1] w fun e w' => e = .returned (.string ⟨#[99, 111, 109, 109, 97, 110, 100]⟩) ∧ w' = w := by
  go_enter Tryd.func11, Tryd.ntmps11
  go_wp2
  go_ret
  exact ⟨rfl, rfl⟩
set_option maxHeartbeats 400000 in
theorem parseKind_1 (w : World) : Calls Tryd.prog 10 #[.string ⟨#[99, 111, 109, 109, 97, 110, 100]⟩] w fun e w' => e = .returned (.tuple #[.int .i64 1, .bool true, .bool true]) ∧ w' = w := by
  go_enter Tryd.func10, Tryd.ntmps10
  go_wp2
  go_ret3
  exact ⟨rfl, rfl⟩
set_option maxHeartbeats 400000 in
theorem lawKind_1 (w : World) : Calls Tryd.prog 5 #[.int .u8 1] w fun e w' => e = .returned (.bool true) ∧ Below w.heap.size w w' := by
  go_enter Tryd.func5, Tryd.ntmps5
  go_wp2_with (first
    | (go_at_call 11; refine (stringKind_1 _).mono ?_; rintro e w' ⟨rfl, rfl⟩)
    | (go_at_call 10; refine (parseKind_1 _).mono ?_; rintro e w' ⟨rfl, rfl⟩))
  go_ret
  exact ⟨rfl, Below.refl _ _⟩

set_option maxHeartbeats 400000 in
theorem stringKind_2 (w : World) : Calls Tryd.prog 11 #[.int .u8 2] w fun e w' => e = .returned (.string ⟨#[99, 111, 110, 102, 105, 103]⟩) ∧ w' = w := by
  go_enter Tryd.func11, Tryd.ntmps11
  go_wp2
  go_ret
  exact ⟨rfl, rfl⟩
set_option maxHeartbeats 400000 in
theorem parseKind_2 (w : World) : Calls Tryd.prog 10 #[.string ⟨#[99, 111, 110, 102, 105, 103]⟩] w fun e w' => e = .returned (.tuple #[.int .i64 2, .bool true, .bool true]) ∧ w' = w := by
  go_enter Tryd.func10, Tryd.ntmps10
  go_wp2
  go_ret3
  exact ⟨rfl, rfl⟩
set_option maxHeartbeats 400000 in
theorem lawKind_2 (w : World) : Calls Tryd.prog 5 #[.int .u8 2] w fun e w' => e = .returned (.bool true) ∧ Below w.heap.size w w' := by
  go_enter Tryd.func5, Tryd.ntmps5
  go_wp2_with (first
    | (go_at_call 11; refine (stringKind_2 _).mono ?_; rintro e w' ⟨rfl, rfl⟩)
    | (go_at_call 10; refine (parseKind_2 _).mono ?_; rintro e w' ⟨rfl, rfl⟩))
  go_ret
  exact ⟨rfl, Below.refl _ _⟩

set_option maxHeartbeats 400000 in
theorem stringKind_3 (w : World) : Calls Tryd.prog 11 #[.int .u8 3] w fun e w' => e = .returned (.string ⟨#[110, 111, 111, 112]⟩) ∧ w' = w := by
  go_enter Tryd.func11, Tryd.ntmps11
  go_wp2
  go_ret
  exact ⟨rfl, rfl⟩
set_option maxHeartbeats 400000 in
theorem parseKind_3 (w : World) : Calls Tryd.prog 10 #[.string ⟨#[110, 111, 111, 112]⟩] w fun e w' => e = .returned (.tuple #[.int .i64 3, .bool true, .bool true]) ∧ w' = w := by
  go_enter Tryd.func10, Tryd.ntmps10
  go_wp2
  go_ret3
  exact ⟨rfl, rfl⟩
set_option maxHeartbeats 400000 in
theorem lawKind_3 (w : World) : Calls Tryd.prog 5 #[.int .u8 3] w fun e w' => e = .returned (.bool true) ∧ Below w.heap.size w w' := by
  go_enter Tryd.func5, Tryd.ntmps5
  go_wp2_with (first
    | (go_at_call 11; refine (stringKind_3 _).mono ?_; rintro e w' ⟨rfl, rfl⟩)
    | (go_at_call 10; refine (parseKind_3 _).mono ?_; rintro e w' ⟨rfl, rfl⟩))
  go_ret
  exact ⟨rfl, Below.refl _ _⟩

set_option maxHeartbeats 400000 in
theorem stringKind_4 (w : World) : Calls Tryd.prog 11 #[.int .u8 4] w fun e w' => e = .returned (.string ⟨#[114, 101, 115, 101, 116]⟩) ∧ w' = w := by
  go_enter Tryd.func11, Tryd.ntmps11
  go_wp2
  go_ret
  exact ⟨rfl, rfl⟩
set_option maxHeartbeats 400000 in
theorem parseKind_4 (w : World) : Calls Tryd.prog 10 #[.string ⟨#[114, 101, 115, 101, 116]⟩] w fun e w' => e = .returned (.tuple #[.int .i64 4, .bool true, .bool true]) ∧ w' = w := by
  go_enter Tryd.func10, Tryd.ntmps10
  go_wp2
  go_ret3
  exact ⟨rfl, rfl⟩
set_option maxHeartbeats 400000 in
theorem lawKind_4 (w : World) : Calls Tryd.prog 5 #[.int .u8 4] w fun e w' => e = .returned (.bool true) ∧ Below w.heap.size w w' := by
  go_enter Tryd.func5, Tryd.ntmps5
  go_wp2_with (first
    | (go_at_call 11; refine (stringKind_4 _).mono ?_; rintro e w' ⟨rfl, rfl⟩)
    | (go_at_call 10; refine (parseKind_4 _).mono ?_; rintro e w' ⟨rfl, rfl⟩))
  go_ret
  exact ⟨rfl, Below.refl _ _⟩

/-- The head of the text of a number that has no name. -/
def preKind : ByteArray := ⟨#[75, 105, 110, 100, 40]⟩

set_option maxHeartbeats 400000 in
theorem stringKind_other (u : Nat) (t d : ByteArray) (w : World) (hu : u ≤ 255) (ho : u = 0 ∨ 4 < u) (hd : d.data.toList = Lib.decDigits u) (ht : t.data.toList = preKind.data.toList ++ d.data.toList ++ [41])
    (htab : Lib.TabIs Tryd.prog w "internal/strconv.uint64pow10" .u64 Lib.pow10Tab) :
    Calls Tryd.prog 11 #[.int .u8 (u : Int)] w fun e w' => e = .returned (.string t) ∧ Below w.heap.size w w' := by
  have HT := Lib.hid htab
  have HD := Lib.hid hd
  have hdl : d.size ≤ 3 := by rw [Lib.size_eq, hd]; exact (dd_len3 u hu).2
  have b1 : ((u : Int) == 1) = false := by simp; omega
  have b2 : ((u : Int) == 2) = false := by simp; omega
  have b3 : ((u : Int) == 3) = false := by simp; omega
  have b4 : ((u : Int) == 4) = false := by simp; omega
  have HE : Hid ((⟨#[75, 105, 110, 100, 40]⟩ : ByteArray) ++ d ++ ⟨#[41]⟩ = t) := bytes_eq (by
    rw [ht, data_append, data_append]
    rfl)
  clear htab hd ht ho
  go_enter Tryd.func11, Tryd.ntmps11
  go_wp2_with (go_at_call 13; refine (ito_any u d _ hu HD.out HT.out).mono ?_; rintro e w' ⟨rfl, hb⟩; have HB := Lib.hid hb; clear hb)
  go_ret
  exact ⟨ret_str HE.out, HB.out⟩

set_option maxHeartbeats 1000000 in
theorem parseKind_other (u : Nat) (t d : ByteArray) (w : World) (hu : u ≤ 255) (hd : d.data.toList = Lib.decDigits u) (ht : t.data.toList = preKind.data.toList ++ d.data.toList ++ [41]) :
    Calls Tryd.prog 10 #[.string t] w fun e w' => e = .returned (.tuple #[.int .i64 u, .bool false, .bool true]) ∧ w' = w := by
  have HF : Hid (∀ W, Calls Tryd.prog 12 #[.string t, .string ⟨#[75, 105, 110, 100, 40]⟩] W fun e w' => e = .returned (.tuple #[.int .i64 u, .bool true]) ∧ w' = W) := fun W => fallback_any t _ d u W hu (by decide) hd (shape_of t preKind d ht)
  have hne : ∀ l : List UInt8, l.head? ≠ some 75 → (t.toList == l) = false := fun l hl => by
    cases h : (t.toList == l)
    · rfl
    · have := beq_iff_eq.1 h
      rw [Lib.toList_data, ht] at this
      subst this
      exact absurd rfl hl
  have n1 : (t.toList == [99, 111, 109, 109, 97, 110, 100]) = false := hne _ (by decide)
  have n2 : (t.toList == [99, 111, 110, 102, 105, 103]) = false := hne _ (by decide)
  have n3 : (t.toList == [110, 111, 111, 112]) = false := hne _ (by decide)
  have n4 : (t.toList == [114, 101, 115, 101, 116]) = false := hne _ (by decide)
  clear hne ht hd
  go_enter Tryd.func10, Tryd.ntmps10
  go_wp2_with (go_at_call 12; refine (HF.out _).mono ?_; rintro e w' ⟨rfl, rfl⟩)
  go_ret3
  exact ⟨rfl, rfl⟩

set_option maxHeartbeats 400000 in
theorem lawKind_other (u : Nat) (w : World) (hu : u ≤ 255) (ho : u = 0 ∨ 4 < u) (htab : Lib.TabIs Tryd.prog w "internal/strconv.uint64pow10" .u64 Lib.pow10Tab) :
    Calls Tryd.prog 5 #[.int .u8 (u : Int)] w fun e w' => e = .returned (.bool true) ∧ Below w.heap.size w w' := by
  obtain ⟨d, hd⟩ : ∃ d : ByteArray, d.data.toList = Lib.decDigits u := ⟨⟨_⟩, rfl⟩
  obtain ⟨t, ht⟩ : ∃ t : ByteArray, t.data.toList = preKind.data.toList ++ d.data.toList ++ [41] := ⟨⟨_⟩, rfl⟩
  have HS : Hid (Calls Tryd.prog 11 #[.int .u8 (u : Int)] w fun e w' => e = .returned (.string t) ∧ Below w.heap.size w w') := stringKind_other u t d w hu ho hd ht htab
  have HP : Hid (∀ W, Calls Tryd.prog 10 #[.string t] W fun e w' => e = .returned (.tuple #[.int .i64 u, .bool false, .bool true]) ∧ w' = W) := fun W => parseKind_other u t d W hu hd ht
  clear hd ht htab
  rcases ho with rfl | ho
  · go_enter Tryd.func5, Tryd.ntmps5
    go_wp2_with (first
      | (go_at_call 11; refine HS.out.mono ?_; rintro e w1 ⟨rfl, hb⟩; have HB := Lib.hid hb; clear hb)
      | (go_at_call 10; refine (HP.out _).mono ?_; rintro e w' ⟨rfl, rfl⟩))
    go_ret
    exact ⟨rfl, HB.out⟩
  · have h1 : 1 ≤ (u : Int) := by omega
    have h2 : decide ((u : Int) ≤ 4) = false := decide_eq_false (by omega)
    go_enter Tryd.func5, Tryd.ntmps5
    go_wp2_with (first
      | (go_at_call 11; refine HS.out.mono ?_; rintro e w1 ⟨rfl, hb⟩; have HB := Lib.hid hb; clear hb)
      | (go_at_call 10; refine (HP.out _).mono ?_; rintro e w' ⟨rfl, rfl⟩))
    go_ret
    exact ⟨rfl, HB.out⟩

theorem lawKind_any (n : Int) (w : World) (h0 : 0 ≤ n) (h1 : n ≤ 255) (htab : Lib.TabIs Tryd.prog w "internal/strconv.uint64pow10" .u64 Lib.pow10Tab) :
    Calls Tryd.prog 5 #[.int .u8 n] w fun e w' => e = .returned (.bool true) ∧ Below w.heap.size w w' := by
  obtain ⟨u, rfl⟩ : ∃ u : Nat, n = (u : Int) := ⟨n.toNat, by omega⟩
  by_cases ho : u = 0 ∨ 4 < u
  · exact lawKind_other u w (by omega) ho htab
  · obtain rfl | rfl | rfl | rfl : u = 1 ∨ u = 2 ∨ u = 3 ∨ u = 4 := by omega
    · exact lawKind_1 w
    · exact lawKind_2 w
    · exact lawKind_3 w
    · exact lawKind_4 w
end Go.Proofs.Qxb6000912aDoor
