/-
  Seat b6000496aD: the walks of the leaves: zzBytes, zzItoaPos, zzCanonDecimal.
-/
import Derived.Test.Qxb6000496aDoorProg
import Derived.Test.Qxb6000496aDoorPlain
import Derived.WalkKit
import Derived.WalkSpells
import Derived.WalkLawsBesides
namespace Go.Proofs.Qxb6000496aDoor
open Go.RowKit

theorem ret_int {k : IntKind} {a b : Int} (h : a = b) : Ending.returned (.int k a) = .returned (.int k b) := by rw [h]

set_option maxHeartbeats 400000 in
theorem bytes_ok (s : ByteArray) (n : Int) (w : World) (hs : s.size ≤ 1048576) :
    Calls Tryd.prog 5 #[.string s, .int .i64 n] w fun e w' => e = .returned (.bool true) ∧ w' = w := by
  go_enter Tryd.func5, Tryd.ntmps5
  go_wp2
  go_ret
  exact ⟨rfl, rfl⟩
set_option maxHeartbeats 400000 in
theorem bytes_no (s : ByteArray) (n : Int) (w : World) (hs : 1048576 < s.size) :
    Calls Tryd.prog 5 #[.string s, .int .i64 n] w fun e w' => e = .returned (.bool false) ∧ w' = w := by
  go_enter Tryd.func5, Tryd.ntmps5
  go_wp2
  go_ret
  exact ⟨rfl, rfl⟩
set_option maxHeartbeats 400000 in
theorem bytes2_ok (s t : ByteArray) (w : World) (hs : s.size + t.size ≤ 1048576) :
    Calls Tryd.prog 8 #[.string s, .string t] w fun e w' => e = .returned (.bool true) ∧ w' = w := by
  go_enter Tryd.func8, Tryd.ntmps8
  go_wp2
  go_ret
  exact ⟨rfl, rfl⟩
set_option maxHeartbeats 400000 in
theorem bytes2_no (s t : ByteArray) (w : World) (hs : 1048576 < s.size + t.size) (h1 : s.size ≤ maxLen) (h2 : t.size ≤ maxLen) :
    Calls Tryd.prog 8 #[.string s, .string t] w fun e w' => e = .returned (.bool false) ∧ w' = w := by
  unfold maxLen at h1 h2
  go_enter Tryd.func8, Tryd.ntmps8
  go_wp2
  all_goals
    go_ret
    exact ⟨rfl, rfl⟩

/-- What the loop of zzItoaPos holds: the digits laid so far, from place i of the buffer on. -/
structure BufIs (w wr : World) (i : Nat) (ds : List UInt8) : Prop where
  len : ds.length + i = 24
  cell : ∀ j, (h : j < ds.length) → wr.cell? ⟨w.heap.size, i + j, none⟩ = some (.int .u8 (ds[j].toNat : Int))
  there : ∀ j, j < 24 → ∃ v, wr.cell? ⟨w.heap.size, j, none⟩ = some v
  free : ∀ j, j < 24 → wr.frozen? ⟨w.heap.size, j, none⟩ = false
  below : Below w.heap.size w wr

/-- The digits of a number; none for 0. -/
def pos (u : Nat) : List UInt8 := if u = 0 then [] else Lib.decDigits u

theorem pos_step (u : Nat) (h : 0 < u) : pos u = pos (u / 10) ++ [UInt8.ofNat (48 + u % 10)] := by
  unfold pos
  rw [if_neg (by omega)]
  by_cases hs : u < 10
  · rw [dd_small hs, if_pos (by omega), show u % 10 = u by omega]
    rfl
  · rw [dd_big hs, if_neg (by omega)]

theorem BufIs.step {w wr : World} {k u : Nat} {ds : List UInt8} (h : BufIs w wr (k + 1) ds) :
    BufIs w (wr.setCell ⟨w.heap.size, k, none⟩ (.int .u8 (48 + (u : Int) % 10))) k (UInt8.ofNat (48 + u % 10) :: ds) := by
  have hl := h.len
  obtain ⟨v, hv⟩ := h.there k (by omega)
  have he := u8_toNat_small (u % 10) (by omega)
  refine ⟨by simp; omega, fun j hj => ?_, fun j hj => ?_, fun j hj => ?_, h.below.setCell (Nat.le_refl _) _⟩
  · cases j with
    | zero =>
      rw [Nat.add_zero, World.cell?_setCell_same _ _ _ hv]
      simp only [List.getElem_cons_zero, he]
      congr 2
    | succ j =>
      have hj' : j < ds.length := by simpa using hj
      rw [World.cell?_setCell_other _ _ _ _ (by simp), show k + (j + 1) = k + 1 + j by omega]
      exact h.cell j hj'
  · by_cases e : j = k
    · subst e
      exact ⟨_, World.cell?_setCell_same _ _ _ hv⟩
    · rw [World.cell?_setCell_other _ _ _ _ (by intro h; injection h with _ h2 _; omega)]
      exact h.there j hj
  · rw [World.frozen?_setCell]
    exact h.free j hj

theorem zeros_at (i : Nat) (h : i < 24) : Lib.zeros24[i]? = some (.int .u8 0) := Lib.zeros24_at i h

theorem BufIs.start (w : World) : BufIs w (w.alloc (.cells Lib.zeros24 28)) 24 [] :=
  ⟨rfl, fun j hj => by simp at hj, fun j hj => ⟨_, by rw [World.cell?_alloc_new]; exact Lib.zeros24_at j hj⟩, fun j _ => World.frozen?_alloc_new _ _ _ _, (Below.refl _ _).alloc (Nat.le_refl _) _⟩

theorem ret_str {a b : List UInt8} (h : a = b) : Ending.returned (.string ⟨a.toArray⟩) = .returned (.string ⟨b.toArray⟩) := by rw [h]

set_option maxHeartbeats 400000 in
theorem itoa_any (u0 : Nat) (w : World) (h1 : 1 ≤ u0) (h2 : u0 ≤ 9223372036854775807) :
    Calls Tryd.prog 6 #[.int .i64 u0] w fun e w' => e = .returned (.string ⟨(Lib.decDigits u0).toArray⟩) ∧ Below w.heap.size w w' := by
  have HL : Hid ((Lib.decDigits u0).length ≤ 20) := by
    show (Lib.decDigits u0).length ≤ 20
    rw [Lib.decDigits_length]
    have := Lib.numDigits_eq u0 h1 (by omega)
    split at this <;> omega
  have HP : Hid (pos u0 = Lib.decDigits u0) := by
    show pos u0 = _
    unfold pos
    rw [if_neg (by omega)]
  go_enter Tryd.func6, Tryd.ntmps6
  go_wp2
  go_loopw [0, 4] (fun vn vi wr => ∃ (u i : Nat) (ds : List UInt8), vn = .int .i64 u ∧ vi = .int .i64 i ∧ u ≤ 9223372036854775807 ∧ Hid (BufIs w wr i ds) ∧ Hid (pos u ++ ds = Lib.decDigits u0)) (fun vn _ _ => (intOf vn).toNat)
  case atStart => exact ⟨u0, 24, [], rfl, rfl, h2, BufIs.start w, by rw [HP.out]; exact List.append_nil _⟩
  case round =>
    obtain ⟨u, i, ds, rfl, rfl, hu, HB, HD⟩ := hrel
    rename World => W0
    by_cases hpos : 0 < u
    · have hi : 1 ≤ i := by
        have a := HB.out.len
        have b := congrArg List.length HD.out
        have c := HL.out
        rw [List.length_append] at b
        omega
      obtain ⟨k, rfl⟩ : ∃ k, i = k + 1 := ⟨i - 1, by omega⟩
      have hk : k + 1 ≤ 24 := by have a := HB.out.len; omega
      obtain ⟨v, hv⟩ := HB.out.there k (by omega)
      have hf := HB.out.free k (by omega)
      have HS := Lib.hid (HB.out.step (u := u))
      go_wp2
      go_roundw
      case rel => exact ⟨u / 10, k, _, by go_num, rfl, by omega, HS.out, by
        have := HD.out
        rw [pos_step u hpos, List.append_assoc] at this
        exact this⟩
      case measure => simp [intOf]; omega
    · have h0 : u = 0 := by omega
      subst h0
      have hds : ds = Lib.decDigits u0 := HD.out
      have hne := dd_ne_nil u0
      have hi : i < 24 ∧ ds.length = 24 - i := by
        have a := HB.out.len
        have : ds.length ≠ 0 := by rw [hds]; simpa using hne
        omega
      obtain ⟨hi, hl⟩ := hi
      have hal : Tryd.prog.arrayLen 28 = 24 := by simp [Program.arrayLen, Tryd.underlying28]
      have hsl : ∀ W, (Instr.sliceAt 28 (.pointer (some ⟨w.heap.size, 0, none⟩)) (some (.int .i64 i)) none none).run Tryd.prog W = .ok (.slice (some ⟨w.heap.size, i, none⟩) (24 - i) (24 - i)) W := fun W => by
        rw [run_sliceAt_array_l W 28 ⟨w.heap.size, 0, none⟩ (by simp [Program.arrayLen, Program.elem, Tryd.underlying28]) .i64 i (by omega) (by rw [hal]; omega)]
        go_simp
        omega
      have hcv := run_convert_bytes_back (P := Tryd.prog) W0 29 9 5 ⟨w.heap.size, i, none⟩ (24 - i) ds Tryd.underlying29 Tryd.underlying5 Tryd.underlying9 (fun j hj => by rw [Lib.add_plain]; exact HB.out.cell j hj)
      rw [hl] at hcv
      have HBelow := Lib.hid HB.out.below
      have HDS := Lib.hid hds
      clear hds hal
      go_wp2
      go_ret
      exact ⟨ret_str HDS.out, HBelow.out⟩

theorem take_snoc (s : ByteArray) (k : Nat) (h : k < s.size) : s.data.toList.take (k + 1) = s.data.toList.take k ++ [s[k]] := by
  rw [List.take_succ_eq_append_getElem (by simpa using h)]; rfl

def digs (l : List UInt8) : Prop := ∀ c ∈ l, 48 ≤ c.toNat ∧ c.toNat ≤ 57
theorem digs_snoc {l : List UInt8} {c : UInt8} (h : digs l) (h1 : 48 ≤ c.toNat) (h2 : c.toNat ≤ 57) : digs (l ++ [c]) := fun x hx => by
  rcases List.mem_append.1 hx with h' | h'
  · exact h x h'
  · simp only [List.mem_singleton] at h'
    subst h'
    exact ⟨h1, h2⟩

theorem acc_lt9 {l : List UInt8} (h : digs l) (hl : l.length ≤ 9) : accFrom 0 l < 1000000000 := by
  have h1 := accFrom_lt l 0 h
  have h2 : 10 ^ l.length ≤ 10 ^ 9 := Nat.pow_le_pow_right (by omega) hl
  omega

/-- What zzCanonDecimal hands back. -/
def CanonPost (s : ByteArray) (e : Ending) : Prop := ∃ (v : Int) (ok : Bool), e = .returned (.tuple #[.int .i64 v, .bool ok]) ∧ (ok = true → ∃ u : Nat, v = u ∧ Lib.decDigits u = s.data.toList ∧ u < 1000000000)
theorem canonPost_no (s : ByteArray) (v : Int) : CanonPost s (.returned (.tuple #[.int .i64 v, .bool false])) := ⟨v, false, rfl, fun h => by cases h⟩
theorem dd_canon_list : ∀ (l : List UInt8) (h : 0 < l.length), l[0].toNat ≠ 48 → digs l → Lib.decDigits (accFrom 0 l) = l
  | [], h, _, _ => by simp at h
  | c :: r, _, hz, hD => dd_canon c r hz hD
theorem canonPost_yes (s : ByteArray) (a : Nat) (h0 : 0 < s.size) (hz : s[0].toNat ≠ 48) (ha : a < 1000000000) (hA : a = accFrom 0 s.data.toList) (hD : digs s.data.toList) : CanonPost s (.returned (.tuple #[.int .i64 a, .bool true])) :=
  ⟨a, true, rfl, fun _ => ⟨a, rfl, by rw [hA]; exact dd_canon_list s.data.toList (by rw [← Lib.size_eq]; exact h0) hz hD, ha⟩⟩

set_option maxHeartbeats 400000 in
theorem canon_any (s : ByteArray) (w : World) (hs : s.size ≤ 9) :
    Calls Tryd.prog 9 #[.string s] w fun e w' => CanonPost s e ∧ w' = w := by
  by_cases h0 : s.size = 0
  · go_enter Tryd.func9, Tryd.ntmps9
    go_wp2
    go_ret2
    exact ⟨canonPost_no s _, rfl⟩
  · have h0' : 0 < s.size := by omega
    have HL : Hid (s.data.toList.length = s.size) := (Lib.size_eq s).symm
    have hb0 : ((s.size : Int) == 0) = false := by simpa using h0
    cases hz : ((s[0].toNat : Int) == 48)
    · have HZ : Hid (s[0].toNat ≠ 48) := fun e => by
        rw [e] at hz
        cases hz
      go_enter Tryd.func9, Tryd.ntmps9
      go_wp2
      go_loop [4, 5] (fun v i => ∃ k a : Nat, k ≤ s.size ∧ i = .int .i64 k ∧ v = .int .i64 a ∧ a < 1000000000 ∧ Hid (a = accFrom 0 (s.data.toList.take k)) ∧ Hid (digs (s.data.toList.take k))) (fun _ i => s.size - (intOf i).toNat)
      case atStart => exact ⟨0, 0, Nat.zero_le _, rfl, rfl, by omega, rfl, fun c hc => by simp at hc⟩
      case round =>
        obtain ⟨k, a, hk, rfl, rfl, ha, HA, HD⟩ := hrel
        by_cases hlt : k < s.size
        · have HT := Lib.hid (take_snoc s k hlt)
          go_wp2
          · go_ret2
            exact ⟨canonPost_no s _, rfl⟩
          · rename_i hd _
            have hsn : digs (s.data.toList.take (k + 1)) := by
              rw [HT.out]
              exact digs_snoc HD.out (by omega) (by omega)
            have hacc : accFrom 0 (s.data.toList.take (k + 1)) = a * 10 + (s[k].toNat - 48) := by rw [HT.out, accFrom_snoc, ← HA.out]
            have hlt9 := acc_lt9 hsn (by rw [List.length_take]; omega)
            go_round
            case rel => exact ⟨k + 1, a * 10 + (s[k].toNat - 48), by omega, by go_num, by go_num, by omega, hacc.symm, hsn⟩
            case measure => simp [intOf]; omega
          · go_ret2
            exact ⟨canonPost_no s _, rfl⟩
        · have hall : s.data.toList.take k = s.data.toList := List.take_of_length_le (by rw [HL.out]; omega)
          have HA' : Hid (a = accFrom 0 s.data.toList) := by have := HA.out; rw [hall] at this; exact this
          have HD' : Hid (digs s.data.toList) := by have := HD.out; rw [hall] at this; exact this
          clear hall
          go_wp2
          go_ret2
          exact ⟨canonPost_yes s a h0' HZ.out ha HA'.out HD'.out, rfl⟩
    · go_enter Tryd.func9, Tryd.ntmps9
      go_wp2
      go_ret2
      exact ⟨canonPost_no s _, rfl⟩
end Go.Proofs.Qxb6000496aDoor
