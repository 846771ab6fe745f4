/-
  Seat b6000496aD: the walks of the two laws, out of the contracts.
-/
import Derived.Test.Qxb6000496aDoorWalksB
namespace Go.Proofs.Qxb6000496aDoor
open Go.RowKit Go.Shelf

set_option maxHeartbeats 400000 in
theorem ring_any (id name : ByteArray) (w : World) (hid : id.size ≤ 281474976710656) (hL : LaidIs w) :
    Calls Tryd.prog 7 #[.string id, .string name] w fun e w' => e = .returned (.int .i64 (numOf id.data.toList name.data.toList)) ∧ Below w.heap.size w w' := by
  have HLd := Lib.hid hL
  clear hL
  go_enter Tryd.func7, Tryd.ntmps7
  go_wp2_with (go_at_call 10; refine (number_any _ _ _ hid HLd.out).mono ?_; rintro e w' ⟨rfl, hb⟩; have HB := Lib.hid hb; clear hb)
  go_ret
  exact ⟨rfl, HB.out⟩

theorem ring_self (name : ByteArray) (w : World) (hn : name.size ≤ 1048576) (hL : LaidIs w) :
    Calls Tryd.prog 7 #[.string name, .string name] w fun e w' => e = .returned (.int .i64 1) ∧ Below w.heap.size w w' := by
  have h := ring_any name name w (by omega) hL
  rw [numOf_self] at h
  exact h

theorem data_append (a b : ByteArray) : (a ++ b).data.toList = a.data.toList ++ b.data.toList := by
  rw [ByteArray.data_append, Array.toList_append]

theorem ring_numbered (name t : ByteArray) (u : Nat) (w : World) (hn : name.size ≤ 1048576) (h2 : 2 ≤ u) (hu : u < 9223372036854775808) (ht : t.data.toList = Lib.decDigits u) (hL : LaidIs w) :
    Calls Tryd.prog 7 #[.string (name ++ ⟨#[35]⟩ ++ t), .string name] w fun e w' => e = .returned (.int .i64 u) ∧ Below w.heap.size w w' := by
  have e1 : (name ++ ⟨#[35]⟩ ++ t).data.toList = name.data.toList ++ (35 :: Lib.decDigits u) := by
    rw [data_append, data_append, ht, List.append_assoc]
    rfl
  have hs : (name ++ ⟨#[35]⟩ ++ t).size ≤ 281474976710656 := by
    have h20 : Lib.nDigits u ≤ 20 := by
      have := Lib.numDigits_eq u (by omega) (by omega)
      split at this <;> omega
    rw [Lib.size_eq, e1, List.length_append, List.length_cons, Lib.decDigits_length]
    rw [Lib.size_eq] at hn
    omega
  have h := ring_any (name ++ ⟨#[35]⟩ ++ t) name w hs hL
  rw [e1, numOf_numbered _ u h2 hu] at h
  exact h

set_option maxHeartbeats 400000 in
theorem law3_any (name : ByteArray) (n : Int) (w : World) (hs : name.size ≤ maxLen) (hL : LaidIs w) :
    Calls Tryd.prog 3 #[.string name, .int .i64 n] w fun e w' => e = .returned (.bool true) ∧ Below w.heap.size w w' := by
  unfold maxLen at hs
  have HLd := Lib.hid hL
  clear hL
  by_cases h1 : name.size ≤ 1048576
  · by_cases h2 : n < 1
    · go_enter Tryd.func3, Tryd.ntmps3
      go_wp2_with (go_at_call 5; refine (bytes_ok _ _ _ h1).mono ?_; rintro e w' ⟨rfl, rfl⟩)
      go_ret
      exact ⟨rfl, Below.refl _ _⟩
    · have h2' : 1 ≤ n := by omega
      by_cases h3 : 2147483647 < n
      · go_enter Tryd.func3, Tryd.ntmps3
        go_wp2_with (go_at_call 5; refine (bytes_ok _ _ _ h1).mono ?_; rintro e w' ⟨rfl, rfl⟩)
        go_ret
        exact ⟨rfl, Below.refl _ _⟩
      · have h3' : n ≤ 2147483647 := by omega
        obtain ⟨u, rfl⟩ : ∃ u : Nat, n = (u : Int) := ⟨n.toNat, by omega⟩
        by_cases h4 : u = 1
        · subst h4
          go_enter Tryd.func3, Tryd.ntmps3
          go_wp2_with (first
            | (go_at_call 5; refine (bytes_ok _ _ _ h1).mono ?_; rintro e w' ⟨rfl, rfl⟩)
            | (go_at_call 7; refine (ring_self _ _ h1 HLd.out).mono ?_; rintro e w' ⟨rfl, hb⟩; have HB := Lib.hid hb; clear hb))
          go_ret
          exact ⟨rfl, HB.out⟩
        · have h4' : 2 ≤ u := by omega
          obtain ⟨t, ht⟩ : ∃ t : ByteArray, t.data.toList = Lib.decDigits u := ⟨⟨_⟩, rfl⟩
          have hts : t.size ≤ 20 := by
            have := Lib.numDigits_eq u (by omega) (by omega)
            rw [Lib.size_eq, ht, Lib.decDigits_length]
            split at this <;> omega
          have hito := fun W => itoa_any u W (by omega) (by omega)
          rw [← ht, Lib.mk_data] at hito
          have HI := Lib.hid hito
          have HT := Lib.hid ht
          clear hito ht
          go_enter Tryd.func3, Tryd.ntmps3
          go_wp2_with (first
            | (go_at_call 5; refine (bytes_ok _ _ _ h1).mono ?_; rintro e w' ⟨rfl, rfl⟩)
            | (go_at_call 6; refine (HI.out _).mono ?_; rintro e w1 ⟨rfl, hb1⟩; have HB1 := Lib.hid hb1; have HL1 := Lib.hid (HLd.out.on hb1); clear hb1)
            | (go_at_call 7; refine (ring_numbered _ t u _ h1 h4' (by omega) HT.out HL1.out).mono ?_; rintro e w2 ⟨rfl, hb2⟩; have HB2 := Lib.hid hb2; clear hb2))
          go_ret
          exact ⟨rfl, HB1.out.trans (HB2.out.mono HB1.out.size)⟩
  · have h1' : 1048576 < name.size := by omega
    go_enter Tryd.func3, Tryd.ntmps3
    go_wp2_with (go_at_call 5; refine (bytes_no _ _ _ h1').mono ?_; rintro e w' ⟨rfl, rfl⟩)
    go_ret
    exact ⟨rfl, Below.refl _ _⟩

theorem ring_is (id name : ByteArray) (k : Int) (w : World) (hid : id.size ≤ 1048576) (hk : numOf id.data.toList name.data.toList = k) (hL : LaidIs w) :
    Calls Tryd.prog 7 #[.string id, .string name] w fun e w' => e = .returned (.int .i64 k) ∧ Below w.heap.size w w' := by
  have h := ring_any id name w (by omega) hL
  rw [hk] at h
  exact h

/-- What is left of id behind name and '#'. -/
theorem split_at (id name : ByteArray) (h1 : name.size + 2 ≤ id.size) (h2 : ((id.extract 0 name.size).toList == name.toList) = true) (h3 : id[name.size].toNat = 35) :
    id.data.toList = name.data.toList ++ (35 :: (id.extract (name.size + 1) id.size).data.toList) := by
  have e1 : id.data.toList.take name.size = name.data.toList := by
    have := beq_iff_eq.1 h2
    rw [Lib.extract_toList, Lib.toList_data] at this
    simpa using this
  have hl : name.size < id.data.toList.length := by rw [← Lib.size_eq]; omega
  have e3 : id.data.toList[name.size]'hl = 35 := UInt8.toNat_inj.1 h3
  have e2 : (id.extract (name.size + 1) id.size).data.toList = id.data.toList.drop (name.size + 1) := by
    rw [Lib.extract_data]
    exact List.take_of_length_le (by rw [List.length_drop, ← Lib.size_eq]; exact Nat.le_refl _)
  rw [e2]
  conv => lhs; rw [← List.take_append_drop name.size id.data.toList, List.drop_eq_getElem_cons hl]
  rw [e1, e3]

/-- zzCanonDecimal where number said 0: no canonical numeral from 2 on. -/
theorem canon_law (id name r : ByteArray) (w : World) (h0 : numOf id.data.toList name.data.toList = 0) (hr : r.size ≤ 9) (hs : id.data.toList = name.data.toList ++ (35 :: r.data.toList)) :
    Calls Tryd.prog 9 #[.string r] w fun e w' => ((∃ v : Int, e = .returned (.tuple #[.int .i64 v, .bool false])) ∨ ∃ v : Int, v < 2 ∧ e = .returned (.tuple #[.int .i64 v, .bool true])) ∧ w' = w := by
  refine (canon_any r w hr).mono ?_
  rintro e w' ⟨⟨v, ok, rfl, hok⟩, rfl⟩
  cases ok
  · exact ⟨Or.inl ⟨v, rfl⟩, rfl⟩
  · refine ⟨Or.inr ⟨v, ?_, rfl⟩, rfl⟩
    obtain ⟨u, rfl, hu, hlt⟩ := hok rfl
    rcases Nat.lt_or_ge u 2 with h | h
    · omega
    · rw [← hu] at hs
      rw [hs, numOf_numbered _ u h (by omega)] at h0
      omega

set_option maxHeartbeats 1000000 in
theorem law4_any (id name : ByteArray) (w : World) (h1 : id.size ≤ maxLen) (h2 : name.size ≤ maxLen) (hL : LaidIs w) :
    Calls Tryd.prog 4 #[.string id, .string name] w fun e w' => e = .returned (.bool true) ∧ Below w.heap.size w w' := by
  have HM1 := Lib.hid h1; have HM2 := Lib.hid h2
  unfold maxLen at h1 h2
  have HLd := Lib.hid hL
  clear hL
  by_cases hs : id.size + name.size ≤ 1048576
  · have hi : id.size ≤ 1048576 := by omega
    rcases numOf_cases id.data.toList name.data.toList with hk | ⟨hk, he⟩ | ⟨u, hu, hk, he⟩
    · have HK := Lib.hid hk
      have hne : (id.toList == name.toList) = false := by
        cases h : (id.toList == name.toList)
        · rfl
        · have e := beq_iff_eq.1 h
          rw [Lib.toList_data, Lib.toList_data] at e
          rw [e, numOf_self] at hk
          cases hk
      clear hk
      by_cases c1 : id.size < name.size + 2
      · go_enter Tryd.func4, Tryd.ntmps4
        go_wp2_with (first
          | (go_at_call 8; refine (bytes2_ok _ _ _ hs).mono ?_; rintro e w' ⟨rfl, rfl⟩)
          | (go_at_call 7; refine (ring_is _ _ 0 _ hi HK.out HLd.out).mono ?_; rintro e w' ⟨rfl, hb⟩; have HB := Lib.hid hb; clear hb))
        go_ret
        exact ⟨rfl, HB.out⟩
      · have c1' : name.size + 2 ≤ id.size := by omega
        clear c1
        cases c2 : ((id.extract 0 name.size).toList == name.toList)
        · go_enter Tryd.func4, Tryd.ntmps4
          go_wp2_with (first
            | (go_at_call 8; refine (bytes2_ok _ _ _ hs).mono ?_; rintro e w' ⟨rfl, rfl⟩)
            | (go_at_call 7; refine (ring_is _ _ 0 _ hi HK.out HLd.out).mono ?_; rintro e w' ⟨rfl, hb⟩; have HB := Lib.hid hb; clear hb))
          go_ret
          exact ⟨rfl, HB.out⟩
        · cases c3 : ((id[name.size].toNat : Int) != 35)
          · have HS := Lib.hid (split_at id name c1' c2 (by simp at c3; omega))
            by_cases c4 : id.size - (name.size + 1) ≤ 9
            · go_enter Tryd.func4, Tryd.ntmps4
              go_wp2_with (first
                | (go_at_call 8; refine (bytes2_ok _ _ _ hs).mono ?_; rintro e w' ⟨rfl, rfl⟩)
                | (go_at_call 7; refine (ring_is _ _ 0 _ hi HK.out HLd.out).mono ?_; rintro e w' ⟨rfl, hb⟩; have HB := Lib.hid hb; clear hb))
              refine (canon_law id name _ _ HK.out (by simp; omega) HS.out).mono ?_
              rintro e w2 ⟨⟨v, rfl⟩ | ⟨v, hv, rfl⟩, rfl⟩
              · go_wp2
                go_ret
                exact ⟨rfl, HB.out⟩
              · have hv2 : decide (2 ≤ v) = false := decide_eq_false (by omega)
                go_wp2
                go_ret
                exact ⟨rfl, HB.out⟩
            · go_enter Tryd.func4, Tryd.ntmps4
              go_wp2_with (first
                | (go_at_call 8; refine (bytes2_ok _ _ _ hs).mono ?_; rintro e w' ⟨rfl, rfl⟩)
                | (go_at_call 7; refine (ring_is _ _ 0 _ hi HK.out HLd.out).mono ?_; rintro e w' ⟨rfl, hb⟩; have HB := Lib.hid hb; clear hb))
              go_ret
              exact ⟨rfl, HB.out⟩
          · go_enter Tryd.func4, Tryd.ntmps4
            go_wp2_with (first
              | (go_at_call 8; refine (bytes2_ok _ _ _ hs).mono ?_; rintro e w' ⟨rfl, rfl⟩)
              | (go_at_call 7; refine (ring_is _ _ 0 _ hi HK.out HLd.out).mono ?_; rintro e w' ⟨rfl, hb⟩; have HB := Lib.hid hb; clear hb))
            go_ret
            exact ⟨rfl, HB.out⟩
    · have HK := Lib.hid hk
      obtain rfl : id = name := by
        rw [← Lib.mk_data id, he, Lib.mk_data]
      clear hk he
      go_enter Tryd.func4, Tryd.ntmps4
      go_wp2_with (first
        | (go_at_call 8; refine (bytes2_ok _ _ _ hs).mono ?_; rintro e w' ⟨rfl, rfl⟩)
        | (go_at_call 7; refine (ring_is _ _ 1 _ hi HK.out HLd.out).mono ?_; rintro e w' ⟨rfl, hb⟩; have HB := Lib.hid hb; clear hb))
      go_ret
      exact ⟨rfl, HB.out⟩
    · have hub := numOf_lt id.data.toList name.data.toList
      rw [hk] at hub
      obtain ⟨t, ht⟩ : ∃ t : ByteArray, t.data.toList = Lib.decDigits u := ⟨⟨_⟩, rfl⟩
      obtain rfl : id = name ++ ⟨#[35]⟩ ++ t := by
        rw [← Lib.mk_data id, he, ← Lib.mk_data (name ++ ⟨#[35]⟩ ++ t), data_append, data_append, ht, List.append_assoc]
        rfl
      have hts : t.size ≤ 20 := by
        have := Lib.numDigits_eq u (by omega) (by omega)
        rw [Lib.size_eq, ht, Lib.decDigits_length]
        split at this <;> omega
      have hito := fun W => itoa_any u W (by omega) (by omega)
      rw [← ht, Lib.mk_data] at hito
      have HI := Lib.hid hito
      have HK := Lib.hid hk
      have hs2 : name.size + 1 + t.size + name.size ≤ 1048576 := by
        have h := hs
        rw [ByteArray.size_append, ByteArray.size_append] at h
        exact h
      have hu1 : ((u : Int) == 1) = false := by simp; omega
      have hu2 : (2 : Int) ≤ u := by omega
      clear hito hk he ht
      go_enter Tryd.func4, Tryd.ntmps4
      go_wp2_with (first
        | (go_at_call 8; refine (bytes2_ok _ _ _ hs).mono ?_; rintro e w' ⟨rfl, rfl⟩)
        | (go_at_call 7; refine (ring_is _ _ u _ hi HK.out HLd.out).mono ?_; rintro e w1 ⟨rfl, hb1⟩; have HB1 := Lib.hid hb1; clear hb1)
        | (go_at_call 6; refine (HI.out _).mono ?_; rintro e w2 ⟨rfl, hb2⟩; have HB2 := Lib.hid hb2; clear hb2))
      go_ret
      exact ⟨rfl, HB1.out.trans (HB2.out.mono HB1.out.size)⟩
  · have hs' : 1048576 < id.size + name.size := by omega
    go_enter Tryd.func4, Tryd.ntmps4
    go_wp2_with (go_at_call 8; refine (bytes2_no _ _ _ hs' HM1.out HM2.out).mono ?_; rintro e w' ⟨rfl, rfl⟩)
    go_ret
    exact ⟨rfl, Below.refl _ _⟩
end Go.Proofs.Qxb6000496aDoor
