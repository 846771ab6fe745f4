/-
  Seat b6001095aD: FnUnescapePathShrinksByWholeEscapes: the walks.
-/
import Derived.Test.Qxb6001095aDoorUnesc
namespace Go.Proofs.Qxb6001095aDoor
open Go.RowKit Go.Shelf

theorem ret_int {k : IntKind} {a b : Int} (h : a = b) : Ending.returned (.int k a) = .returned (.int k b) := by rw [h]
theorem take_snoc (s : ByteArray) (k : Nat) (h : k < s.size) : s.data.toList.take (k + 1) = s.data.toList.take k ++ [s[k]] := by
  rw [List.take_succ_eq_append_getElem (by rw [← Lib.size_eq]; exact h)]; rfl

set_option maxHeartbeats 400000 in
theorem zz_any (s : ByteArray) (w : World) (hs : s.size ≤ 1073741824) (hL : LaidIs w) :
    Calls Tryd.prog 12 #[.string s] w fun e w' => e = .returned (.string ⟨(unAll s.data.toList).toArray⟩) ∧ Below w.heap.size w w' := by
  have HL := Lib.hid hL
  clear hL
  go_enter Tryd.func12, Tryd.ntmps12
  go_wp2_with (go_at_call 32; refine (unesc_any _ _ hs HL.out).mono ?_; rintro e w' ⟨rfl, hb⟩; have HB := Lib.hid hb; clear hb)
  go_ret
  exact ⟨rfl, HB.out⟩

set_option maxHeartbeats 400000 in
theorem bytes4_ok (s : ByteArray) (w : World) (hs : s.size ≤ 1048576) :
    Calls Tryd.prog 14 #[.string s] w fun e w' => e = .returned (.bool true) ∧ w' = w := by
  go_enter Tryd.func14, Tryd.ntmps14
  go_wp2
  go_ret
  exact ⟨rfl, rfl⟩
set_option maxHeartbeats 400000 in
theorem bytes4_no (s : ByteArray) (w : World) (hs : 1048576 < s.size) :
    Calls Tryd.prog 14 #[.string s] w fun e w' => e = .returned (.bool false) ∧ w' = w := by
  go_enter Tryd.func14, Tryd.ntmps14
  go_wp2
  go_ret
  exact ⟨rfl, rfl⟩

/-- How many backslashes. -/
def cnt (l : List UInt8) : Nat := l.countP (fun c => c.toNat == 92)
theorem cnt_snoc (l : List UInt8) (c : UInt8) : cnt (l ++ [c]) = cnt l + if ((c.toNat : Int) == 92) = true then 1 else 0 := by
  unfold cnt
  rw [List.countP_append, List.countP_singleton]
  congr 1
  have : ((c.toNat : Int) == 92) = (c.toNat == 92) := by
    rw [Bool.eq_iff_iff, beq_iff_eq, beq_iff_eq]
    omega
  rw [this]
theorem cnt_le (l : List UInt8) : cnt l ≤ l.length := List.countP_le_length

set_option maxHeartbeats 400000 in
theorem count_any (s : ByteArray) (w : World) (hs : s.size ≤ 1048576) :
    Calls Tryd.prog 15 #[.string s, .int .u8 92] w fun e w' => e = .returned (.int .i64 (cnt s.data.toList)) ∧ w' = w := by
  have HN : Hid (s.data.toList.length = s.size) := (Lib.size_eq s).symm
  go_enter Tryd.func15, Tryd.ntmps15
  go_wp2
  go_loop [5, 6] (fun n i => ∃ k a : Nat, k ≤ s.size ∧ i = .int .i64 k ∧ n = .int .i64 a ∧ a ≤ k ∧ Hid (a = cnt (s.data.toList.take k))) (fun _ i => s.size - (intOf i).toNat)
  case atStart => exact ⟨0, 0, Nat.zero_le _, rfl, rfl, Nat.le_refl _, rfl⟩
  case round =>
    obtain ⟨k, a, hk, rfl, rfl, ha, HA⟩ := hrel
    by_cases hlt : k < s.size
    · have HS : Hid (cnt (s.data.toList.take (k + 1)) = a + if ((s[k].toNat : Int) == 92) = true then 1 else 0) := by
        show cnt (s.data.toList.take (k + 1)) = _
        rw [take_snoc s k hlt, cnt_snoc, ← HA.out]
      cases c92 : ((s[k].toNat : Int) == 92)
      · go_wp2
        go_round
        case rel => exact ⟨k + 1, a, by omega, by go_num, rfl, by omega, by
          have := HS.out
          rw [c92] at this
          exact this.symm⟩
        case measure => simp [intOf]; omega
      · go_wp2
        go_round
        case rel => exact ⟨k + 1, a + 1, by omega, by go_num, by go_num, by omega, by
          have := HS.out
          rw [c92] at this
          exact this.symm⟩
        case measure => simp [intOf]; omega
    · have HE : Hid (a = cnt s.data.toList) := by
        have := HA.out
        rw [List.take_of_length_le (by rw [HN.out]; omega)] at this
        exact this
      go_wp2
      go_ret
      exact ⟨ret_int (by rw [HE.out]), rfl⟩

/-- What zzHasByte hands back. -/
def HasPost (s : ByteArray) (e : Ending) : Prop := e = .returned (.bool true) ∨ (e = .returned (.bool false) ∧ ∀ c ∈ s.data.toList, c.toNat ≠ 92)

set_option maxHeartbeats 400000 in
theorem has_any (s : ByteArray) (w : World) (hs : s.size ≤ 1048576) :
    Calls Tryd.prog 16 #[.string s, .int .u8 92] w fun e w' => HasPost s e ∧ w' = w := by
  have HN : Hid (s.data.toList.length = s.size) := (Lib.size_eq s).symm
  go_enter Tryd.func16, Tryd.ntmps16
  go_wp2
  go_loop [5] (fun i => ∃ k : Nat, k ≤ s.size ∧ i = .int .i64 k ∧ Hid (∀ c ∈ s.data.toList.take k, c.toNat ≠ 92)) (fun i => s.size - (intOf i).toNat)
  case atStart => exact ⟨0, Nat.zero_le _, rfl, fun c hc => by simp at hc⟩
  case round =>
    obtain ⟨k, hk, rfl, HA⟩ := hrel
    by_cases hlt : k < s.size
    · have HS : Hid (s[k].toNat ≠ 92 → ∀ c ∈ s.data.toList.take (k + 1), c.toNat ≠ 92) := fun h c hc => by
        rw [take_snoc s k hlt] at hc
        rcases List.mem_append.1 hc with h' | h'
        · exact HA.out c h'
        · simp only [List.mem_singleton] at h'
          subst h'
          exact h
      cases c92 : ((s[k].toNat : Int) == 92)
      · have HC : Hid (s[k].toNat ≠ 92) := fun h => by
          rw [h] at c92
          cases c92
        go_wp2
        go_round
        case rel => exact ⟨k + 1, by omega, by go_num, HS.out HC.out⟩
        case measure => simp [intOf]; omega
      · go_wp2
        go_ret
        exact ⟨Or.inl rfl, rfl⟩
    · have HE : Hid (∀ c ∈ s.data.toList, c.toNat ≠ 92) := by
        have := HA.out
        rw [List.take_of_length_le (by rw [HN.out]; omega)] at this
        exact this
      go_wp2
      go_ret
      exact ⟨Or.inr ⟨rfl, HE.out⟩, rfl⟩

set_option maxHeartbeats 1000000 in
theorem law4_any (s : ByteArray) (w : World) (hL : LaidIs w) :
    Calls Tryd.prog 4 #[.string s] w fun e w' => e = .returned (.bool true) ∧ Below w.heap.size w w' := by
  have HLd := Lib.hid hL
  clear hL
  by_cases hs : s.size ≤ 1048576
  · obtain ⟨k, hk, hkc⟩ := un_shrinks s.data.toList.length s.data.toList (Nat.le_refl _)
    obtain ⟨o, ho⟩ : ∃ o : ByteArray, o.data.toList = unAll s.data.toList := ⟨⟨_⟩, rfl⟩
    have hz := fun W (hW : LaidIs W) => zz_any s W (by omega) hW
    rw [← ho, Lib.mk_data] at hz
    have hsz : o.size + 3 * k = s.size := by
      rw [Lib.size_eq, Lib.size_eq, ho]
      exact hk
    have HZ := Lib.hid hz
    have h1 : o.size ≤ s.size := by omega
    obtain ⟨n, hn⟩ : ∃ n, n = cnt s.data.toList := ⟨_, rfl⟩
    have hkn : k ≤ n := by rw [hn]; exact hkc
    have hcn := fun W => count_any s W hs
    rw [← hn] at hcn
    have HC := Lib.hid hcn
    have HS : Hid ((∀ c ∈ s.data.toList, c.toNat ≠ 92) → o = s) := fun h => by
      have e := un_same s.data.toList.length s.data.toList (Nat.le_refl _) h
      rw [← Lib.mk_data o, ho, ← Lib.mk_data s]
      show (⟨(un _ _).toArray⟩ : ByteArray) = _
      rw [e, Lib.mk_data]
    have h2 : ((s.size : Int) - o.size) % 3 = 0 := by omega
    have h3 : ((s.size : Int) - o.size) / 3 ≤ n := by omega
    have hn2 : n ≤ 1048576 := by
      have := cnt_le s.data.toList
      rw [← hn, ← Lib.size_eq] at this
      omega
    clear hk hkc hn hz hcn ho hsz hkn
    go_enter Tryd.func4, Tryd.ntmps4
    go_wp2_with (first
      | (go_at_call 14; refine (bytes4_ok _ _ hs).mono ?_; rintro e w' ⟨rfl, rfl⟩)
      | (go_at_call 12; refine (HZ.out _ HLd.out).mono ?_; rintro e w1 ⟨rfl, hb1⟩; have HB := Lib.hid hb1; clear hb1)
      | (go_at_call 15; refine (HC.out _).mono ?_; rintro e w' ⟨rfl, rfl⟩))
    refine (has_any s _ hs).mono ?_
    rintro e w2 ⟨he, rfl⟩
    rcases he with rfl | ⟨rfl, hno⟩
    · go_wp2
      go_ret
      exact ⟨rfl, HB.out⟩
    · have heq : (o.toList == s.toList) = true := by rw [HS.out hno]; simp
      clear hno
      go_wp2
      go_ret
      exact ⟨rfl, HB.out⟩
  · have hs' : 1048576 < s.size := by omega
    go_enter Tryd.func4, Tryd.ntmps4
    go_wp2_with (go_at_call 14; refine (bytes4_no _ _ hs').mono ?_; rintro e w' ⟨rfl, rfl⟩)
    go_ret
    exact ⟨rfl, Below.refl _ _⟩
end Go.Proofs.Qxb6001095aDoor
