/-
  Seat b6001095aD: zzAppendOctal, zzEscapeAsMountinfo: the walks.
-/
import Derived.Test.Qxb6001095aDoorUnesc
namespace Go.Proofs.Qxb6001095aDoor
open Go.RowKit Go.Shelf

/-- What lies below B is as it was behind an append to a row of the call's own. -/
theorem below_app {B n : Nat} {v : Value} {xs : List Value} {w w' : World} {o : Obj} (hown : w.ownsRow B 5 1 v n xs) (hg : (w.alloc o).grownBy w' v.ownBlock) (hB : B ≤ w.heap.size) : Below B w w' :=
  ((Below.refl B w).alloc hB o).grown hg (by simp; omega) (fun k hk => (hown.lt k hk).1)

theorem cells_oct (l : List UInt8) (c : UInt8) : Lib.byteCells (l ++ oct3 c) = Lib.byteCells l ++ [.int .u8 92, .int .u8 (48 + (c.toNat : Int) / 64), .int .u8 (48 + (c.toNat : Int) / 8 % 8), .int .u8 (48 + (c.toNat : Int) % 8)] := by
  have h := c.toNat_lt
  have e1 : (UInt8.ofNat (48 + c.toNat / 64)).toNat = 48 + c.toNat / 64 := by rw [UInt8.toNat_ofNat']; omega
  have e2 : (UInt8.ofNat (48 + c.toNat / 8 % 8)).toNat = 48 + c.toNat / 8 % 8 := by rw [UInt8.toNat_ofNat']; omega
  have e3 : (UInt8.ofNat (48 + c.toNat % 8)).toNat = 48 + c.toNat % 8 := by rw [UInt8.toNat_ofNat']; omega
  unfold Lib.byteCells oct3
  simp only [List.map_append, List.map_cons, List.map_nil, e1, e2, e3]
  rfl

set_option maxHeartbeats 1000000 in
set_option maxRecDepth 100000 in
theorem octal_any (B n : Nat) (v : Value) (l : List UInt8) (c : UInt8) (w0 : World) (hown : w0.ownsRow B 5 1 v n (Lib.byteCells l)) (hn : n ≤ 8388608) (hB : B ≤ w0.heap.size) :
    Calls Tryd.prog 33 #[v, .int .u8 (c.toNat : Int)] w0 fun e w' => ∃ v', e = .returned v' ∧ w'.ownsRow B 5 1 v' (n + 4) (Lib.byteCells (l ++ oct3 c)) ∧ Below B w0 w' := by
  obtain ⟨i0, hi, hz0, hz1, hz2⟩ := info_parts Tryd.Builder_Extra_167.infoByte
  have hc := c.toNat_lt
  have HO0 := Lib.hid hown
  clear hown
  go_enter Tryd.func33, Tryd.ntmps33
  go_wp2_with (at_builtin; refine wpList_append_own _ rfl _ _ 28 rfl B 5 i0 (.int .u8 0) 1 1 Tryd.underlying28 hi hz0 hz1 hz2 rfl (by decide) _ _ _ rfl (HO0.out.alloc _) ⟨w0.heap.size, 0, none⟩ 1 1 [.int .u8 92] rfl rfl ?c1 ?c2 ?c3 ?c4 ?c5 ?_)
  case c1 =>
    intro j u hj
    match j, hj with
    | 0, hj => simp at hj; subst hj; simp [Addr.add]
  case c2 => intro u hu; simp at hu; subst hu; rfl
  case c3 => unfold maxLen; omega
  case c4 => omega
  case c5 => simp; omega
  intro v1 w1 hown1 hg1 _
  have HO1 := Lib.hid hown1
  have HB1 := Lib.hid (below_app HO0.out hg1 (by omega))
  have hs1 : w0.heap.size + 1 ≤ w1.heap.size := by have := hg1.size; simp at this; omega
  clear hown1 hg1
  go_wp2_with (at_builtin; refine wpList_append_own _ rfl _ _ 28 rfl B 5 i0 (.int .u8 0) 1 1 Tryd.underlying28 hi hz0 hz1 hz2 rfl (by decide) _ _ _ rfl (HO1.out.alloc _) ⟨w1.heap.size, 0, none⟩ 1 1 [.int .u8 (48 + (c.toNat : Int) / 64)] rfl rfl ?c1 ?c2 ?c3 ?c4 ?c5 ?_)
  case c1 =>
    intro j u hj
    match j, hj with
    | 0, hj => simp at hj; subst hj; simp [Addr.add]
  case c2 => intro u hu; simp at hu; subst hu; rfl
  case c3 => unfold maxLen; omega
  case c4 => omega
  case c5 => simp; omega
  intro v2 w2 hown2 hg2 _
  have HO2 := Lib.hid hown2
  have HB2 := Lib.hid (below_app HO1.out hg2 (by omega))
  have hs2 : w1.heap.size + 1 ≤ w2.heap.size := by have := hg2.size; simp at this; omega
  clear hown2 hg2
  go_wp2_with (at_builtin; refine wpList_append_own _ rfl _ _ 28 rfl B 5 i0 (.int .u8 0) 1 1 Tryd.underlying28 hi hz0 hz1 hz2 rfl (by decide) _ _ _ rfl (HO2.out.alloc _) ⟨w2.heap.size, 0, none⟩ 1 1 [.int .u8 (48 + (c.toNat : Int) / 8 % 8)] rfl rfl ?c1 ?c2 ?c3 ?c4 ?c5 ?_)
  case c1 =>
    intro j u hj
    match j, hj with
    | 0, hj => simp at hj; subst hj; simp [Addr.add]
  case c2 => intro u hu; simp at hu; subst hu; rfl
  case c3 => unfold maxLen; omega
  case c4 => omega
  case c5 => simp; omega
  intro v3 w3 hown3 hg3 _
  have HO3 := Lib.hid hown3
  have HB3 := Lib.hid (below_app HO2.out hg3 (by omega))
  have hs3 : w2.heap.size + 1 ≤ w3.heap.size := by have := hg3.size; simp at this; omega
  clear hown3 hg3
  go_wp2_with (at_builtin; refine wpList_append_own _ rfl _ _ 28 rfl B 5 i0 (.int .u8 0) 1 1 Tryd.underlying28 hi hz0 hz1 hz2 rfl (by decide) _ _ _ rfl (HO3.out.alloc _) ⟨w3.heap.size, 0, none⟩ 1 1 [.int .u8 (48 + (c.toNat : Int) % 8)] rfl rfl ?c1 ?c2 ?c3 ?c4 ?c5 ?_)
  case c1 =>
    intro j u hj
    match j, hj with
    | 0, hj => simp at hj; subst hj; simp [Addr.add]
  case c2 => intro u hu; simp at hu; subst hu; rfl
  case c3 => unfold maxLen; omega
  case c4 => omega
  case c5 => simp; omega
  intro v4 w4 hown4 hg4 _
  have HO4 := Lib.hid hown4
  have HB4 := Lib.hid (below_app HO3.out hg4 (by omega))
  have hs4 : w3.heap.size + 1 ≤ w4.heap.size := by have := hg4.size; simp at this; omega
  clear hown4 hg4
  go_wp2
  go_ret
  refine ⟨v4, rfl, ?_, ((HB1.out.trans HB2.out).trans HB3.out).trans HB4.out⟩
  have h := HO4.out
  rw [cells_oct]
  exact h

theorem not_nil {w : World} {B n : Nat} {v : Value} {xs : List Value} (h : w.ownsRow B 5 1 v n xs) (hn : 0 < n) : ∃ g cap, v = .slice (some ⟨g, 0, none⟩) n cap := by
  rcases h.2 with ⟨_, h0⟩ | ⟨g, cap, cur, hv, _⟩
  · omega
  · exact ⟨g, cap, hv⟩

theorem take_snoc (s : ByteArray) (k : Nat) (h : k < s.size) : s.data.toList.take (k + 1) = s.data.toList.take k ++ [s[k]] := by
  rw [List.take_succ_eq_append_getElem (by rw [← Lib.size_eq]; exact h)]; rfl

/-- What the loop of zzEscapeAsMountinfo holds. -/
structure EscIs (w wr : World) (v : Value) (l : List UInt8) : Prop where
  own : wr.ownsRow w.heap.size 5 1 v l.length (Lib.byteCells l)
  some : ∃ g cap, v = .slice (some ⟨g, 0, none⟩) l.length cap
  below : Below w.heap.size w wr

theorem EscIs.oct {w wr w1 : World} {v v1 : Value} {s : ByteArray} {k : Nat} (h : EscIs w wr v (esc (s.data.toList.take k))) (hk : k < s.size) (hc : special s[k] = true)
    (h1 : w1.ownsRow w.heap.size 5 1 v1 ((esc (s.data.toList.take k)).length + 4) (Lib.byteCells (esc (s.data.toList.take k) ++ oct3 s[k]))) (h2 : Below w.heap.size wr w1) : EscIs w w1 v1 (esc (s.data.toList.take (k + 1))) := by
  have e : esc (s.data.toList.take (k + 1)) = esc (s.data.toList.take k) ++ oct3 s[k] := by
    rw [take_snoc s k hk, esc_snoc]
    unfold esc1
    rw [if_pos hc]
  have el : (esc (s.data.toList.take (k + 1))).length = (esc (s.data.toList.take k)).length + 4 := by rw [e, List.length_append]; rfl
  exact ⟨by rw [el, e]; exact h1, by rw [el]; exact not_nil h1 (by omega), h.below.trans h2⟩

theorem EscIs.one {w wr w1 : World} {v v1 : Value} {s : ByteArray} {k : Nat} (h : EscIs w wr v (esc (s.data.toList.take k))) (hk : k < s.size) (hc : special s[k] = false)
    (h1 : w1.ownsRow w.heap.size 5 1 v1 ((esc (s.data.toList.take k)).length + 1) (Lib.byteCells (esc (s.data.toList.take k)) ++ [.int .u8 (s[k].toNat : Int)])) (h2 : Below w.heap.size wr w1) : EscIs w w1 v1 (esc (s.data.toList.take (k + 1))) := by
  have e : esc (s.data.toList.take (k + 1)) = esc (s.data.toList.take k) ++ [s[k]] := by
    rw [take_snoc s k hk, esc_snoc]
    unfold esc1
    rw [if_neg (by rw [hc]; simp)]
  have el : (esc (s.data.toList.take (k + 1))).length = (esc (s.data.toList.take k)).length + 1 := by rw [e, List.length_append]; rfl
  have eb : Lib.byteCells (esc (s.data.toList.take k) ++ [s[k]]) = Lib.byteCells (esc (s.data.toList.take k)) ++ [.int .u8 (s[k].toNat : Int)] := by simp [Lib.byteCells]
  exact ⟨by rw [el, e, eb]; exact h1, by rw [el]; exact not_nil h1 (by omega), h.below.trans h2⟩

theorem special_of (c : UInt8) (h : ((c.toNat : Int) == 32) = true ∨ ((c.toNat : Int) == 9) = true ∨ ((c.toNat : Int) == 10) = true ∨ ((c.toNat : Int) == 92) = true) : special c = true := by
  simp only [beq_iff_eq] at h
  unfold special
  rcases h with h | h | h | h
  · have : c.toNat = 32 := by omega
    simp [this]
  · have : c.toNat = 9 := by omega
    simp [this]
  · have : c.toNat = 10 := by omega
    simp [this]
  · have : c.toNat = 92 := by omega
    simp [this]
theorem special_not (c : UInt8) (h1 : ((c.toNat : Int) == 32) = false) (h2 : ((c.toNat : Int) == 9) = false) (h3 : ((c.toNat : Int) == 10) = false) (h4 : ((c.toNat : Int) == 92) = false) : special c = false := by
  have e1 : c.toNat ≠ 32 := fun e => by rw [e] at h1; cases h1
  have e2 : c.toNat ≠ 9 := fun e => by rw [e] at h2; cases h2
  have e3 : c.toNat ≠ 10 := fun e => by rw [e] at h3; cases h3
  have e4 : c.toNat ≠ 92 := fun e => by rw [e] at h4; cases h4
  simp [special, e1, e2, e3, e4]

set_option maxHeartbeats 2000000 in
set_option maxRecDepth 100000 in
theorem escape_any (s : ByteArray) (w : World) (hs : s.size ≤ 262144) :
    Calls Tryd.prog 13 #[.string s] w fun e w' => e = .returned (.string ⟨(esc s.data.toList).toArray⟩) ∧ Below w.heap.size w w' := by
  obtain ⟨i0, hi, hz0, hz1, hz2⟩ := info_parts Tryd.Builder_Extra_167.infoByte
  have HN : Hid (s.data.toList.length = s.size) := (Lib.size_eq s).symm
  go_enter Tryd.func13, Tryd.ntmps13
  go_wp2_with (at_make; refine wpList_make_own _ rfl _ _ 28 rfl w.heap.size 5 i0 (.int .u8 0) 1 Tryd.underlying28 hi hz0 hz1 .i64 .i64 (4 * (s.size : Int)) (4 * s.size) rfl rfl ?m1 ?m2 ?m3 ?m4 ?_)
  case m1 => omega
  case m2 => rw [hz2]; omega
  case m3 => unfold maxLen; omega
  case m4 => exact Nat.le_refl _
  intro w1 hown1 hg1
  have HE1 : Hid (EscIs w w1 (.slice (some ⟨w.heap.size, 0, none⟩) 0 (4 * s.size)) (esc (s.data.toList.take 0))) :=
    ⟨hown1, ⟨_, _, rfl⟩, (Below.refl _ _).grown hg1 (Nat.le_refl _) (fun k hk => by cases hk)⟩
  clear hown1 hg1
  go_wp2
  go_loopw [3, 4] (fun v i wr => ∃ k : Nat, k ≤ s.size ∧ i = .int .i64 k ∧ Hid (EscIs w wr v (esc (s.data.toList.take k)))) (fun _ i _ => s.size - (intOf i).toNat)
  case atStart => exact ⟨0, Nat.zero_le _, rfl, HE1.out⟩
  case round =>
    obtain ⟨k, hk, rfl, HE⟩ := hrel
    rename World => W0
    have HBs : Hid (w.heap.size ≤ W0.heap.size) := HE.out.below.size
    by_cases hlt : k < s.size
    · have HLen : Hid ((esc (s.data.toList.take k)).length ≤ 8388608) := by
        have a := esc_len (s.data.toList.take k)
        have b : (s.data.toList.take k).length ≤ k := List.length_take_le _ _
        show _ ≤ _
        omega
      cases c1 : ((s[k].toNat : Int) == 32)
      · cases c2 : ((s[k].toNat : Int) == 9)
        · cases c3 : ((s[k].toNat : Int) == 10)
          · cases c4 : ((s[k].toNat : Int) == 92)
            · go_wp2_with (at_builtin; refine wpList_append_own _ rfl _ _ 28 rfl w.heap.size 5 i0 (.int .u8 0) 1 1 Tryd.underlying28 hi hz0 hz1 hz2 rfl (by decide) _ _ _ rfl (HE.out.own.alloc _) ⟨W0.heap.size, 0, none⟩ 1 1 [.int .u8 (s[k].toNat : Int)] rfl rfl ?c1 ?c2 ?c3 ?c4 ?c5 ?_)
              case c1 =>
                intro j u hj
                match j, hj with
                | 0, hj => simp at hj; subst hj; simp [Addr.add]
              case c2 => intro u hu; simp at hu; subst hu; rfl
              case c3 => have := HLen.out; unfold maxLen; omega
              case c4 => have := HLen.out; omega
              case c5 => have := HBs.out; simp; omega
              intro v1 w2 hown2 hg2 _
              have HI1 := Lib.hid hown2
              have HB1 := Lib.hid (below_app HE.out.own hg2 HBs.out)
              clear hown2 hg2
              go_wp2
              go_roundw
              case rel => exact ⟨k + 1, by omega, by go_num, HE.out.one hlt (special_not _ c1 c2 c3 c4) HI1.out HB1.out⟩
              case measure => simp [intOf]; omega
            · go_wp2_with (go_at_call 33; refine (octal_any w.heap.size _ u3 _ s[k] W0 HE.out.own HLen.out HBs.out).mono ?_; rintro e W1 ⟨v1, rfl, h1, h2⟩; have HI1 := Lib.hid h1; have HB1 := Lib.hid h2; clear h1 h2)
              go_roundw
              case rel => exact ⟨k + 1, by omega, by go_num, HE.out.oct hlt (special_of _ (Or.inr (Or.inr (Or.inr c4)))) HI1.out HB1.out⟩
              case measure => simp [intOf]; omega
          · go_wp2_with (go_at_call 33; refine (octal_any w.heap.size _ u3 _ s[k] W0 HE.out.own HLen.out HBs.out).mono ?_; rintro e W1 ⟨v1, rfl, h1, h2⟩; have HI1 := Lib.hid h1; have HB1 := Lib.hid h2; clear h1 h2)
            go_roundw
            case rel => exact ⟨k + 1, by omega, by go_num, HE.out.oct hlt (special_of _ (Or.inr (Or.inr (Or.inl c3)))) HI1.out HB1.out⟩
            case measure => simp [intOf]; omega
        · go_wp2_with (go_at_call 33; refine (octal_any w.heap.size _ u3 _ s[k] W0 HE.out.own HLen.out HBs.out).mono ?_; rintro e W1 ⟨v1, rfl, h1, h2⟩; have HI1 := Lib.hid h1; have HB1 := Lib.hid h2; clear h1 h2)
          go_roundw
          case rel => exact ⟨k + 1, by omega, by go_num, HE.out.oct hlt (special_of _ (Or.inr (Or.inl c2))) HI1.out HB1.out⟩
          case measure => simp [intOf]; omega
      · go_wp2_with (go_at_call 33; refine (octal_any w.heap.size _ u3 _ s[k] W0 HE.out.own HLen.out HBs.out).mono ?_; rintro e W1 ⟨v1, rfl, h1, h2⟩; have HI1 := Lib.hid h1; have HB1 := Lib.hid h2; clear h1 h2)
        go_roundw
        case rel => exact ⟨k + 1, by omega, by go_num, HE.out.oct hlt (special_of _ (Or.inl c1)) HI1.out HB1.out⟩
        case measure => simp [intOf]; omega
    · have hall : s.data.toList.take k = s.data.toList := List.take_of_length_le (by rw [HN.out]; omega)
      have HE2 : Hid (EscIs w W0 u3 (esc s.data.toList)) := by have := HE.out; rw [hall] at this; exact this
      clear hall
      obtain ⟨g, cap, hv⟩ := HE2.out.some
      subst hv
      obtain ⟨l, hl⟩ : ∃ l, l = esc s.data.toList := ⟨_, rfl⟩
      have hcv := run_convert_bytes_back (P := Tryd.prog) W0 28 9 5 ⟨g, 0, none⟩ cap l Tryd.underlying28 Tryd.underlying5 Tryd.underlying9 (fun j hj => HE2.out.own.cells (g := g) rfl j _ (by subst hl; simp [Lib.byteCells, hj]))
      rw [hl] at hcv
      clear hl
      have HB1 := Lib.hid HE2.out.below
      go_wp2
      go_ret
      exact ⟨rfl, HB1.out⟩

set_option maxHeartbeats 400000 in
theorem bytes3_ok (s : ByteArray) (w : World) (hs : s.size ≤ 1048576) :
    Calls Tryd.prog 11 #[.string s] w fun e w' => e = .returned (.bool true) ∧ w' = w := by
  go_enter Tryd.func11, Tryd.ntmps11
  go_wp2
  go_ret
  exact ⟨rfl, rfl⟩
set_option maxHeartbeats 400000 in
theorem bytes3_no (s : ByteArray) (w : World) (hs : 1048576 < s.size) :
    Calls Tryd.prog 11 #[.string s] w fun e w' => e = .returned (.bool false) ∧ w' = w := by
  go_enter Tryd.func11, Tryd.ntmps11
  go_wp2
  go_ret
  exact ⟨rfl, rfl⟩

set_option maxHeartbeats 400000 in
theorem zz12_any (s : ByteArray) (w : World) (hs : s.size ≤ 1073741824) (hL : LaidIs w) :
    Calls Tryd.prog 12 #[.string s] w fun e w' => e = .returned (.string ⟨(unAll s.data.toList).toArray⟩) ∧ Below w.heap.size w w' := by
  have HL := Lib.hid hL
  clear hL
  go_enter Tryd.func12, Tryd.ntmps12
  go_wp2_with (go_at_call 32; refine (unesc_any _ _ hs HL.out).mono ?_; rintro e w' ⟨rfl, hb⟩; have HB := Lib.hid hb; clear hb)
  go_ret
  exact ⟨rfl, HB.out⟩

/-- ZZunescapePath at what zzEscapeAsMountinfo has made of s: s. -/
theorem back_any (s t : ByteArray) (w : World) (hs : s.size ≤ 262144) (ht : t.data.toList = esc s.data.toList) (hL : LaidIs w) :
    Calls Tryd.prog 12 #[.string t] w fun e w' => e = .returned (.string s) ∧ Below w.heap.size w w' := by
  have hlen : t.size ≤ 1073741824 := by
    have := esc_len s.data.toList
    rw [← ht, ← Lib.size_eq, ← Lib.size_eq] at this
    omega
  have h := zz12_any t w hlen hL
  rw [ht, un_esc, Lib.mk_data] at h
  exact h

set_option maxHeartbeats 400000 in
theorem law3_any (s : ByteArray) (w : World) (hL : LaidIs w) :
    Calls Tryd.prog 3 #[.string s] w fun e w' => e = .returned (.bool true) ∧ Below w.heap.size w w' := by
  have HLd := Lib.hid hL
  clear hL
  by_cases hs : s.size ≤ 262144
  · have hs1 : s.size ≤ 1048576 := by omega
    obtain ⟨t, ht⟩ : ∃ t : ByteArray, t.data.toList = esc s.data.toList := ⟨⟨_⟩, rfl⟩
    have hesc := fun W => escape_any s W hs
    rw [← ht, Lib.mk_data] at hesc
    have HE := Lib.hid hesc
    have HT := Lib.hid ht
    clear hesc ht
    go_enter Tryd.func3, Tryd.ntmps3
    go_wp2_with (first
      | (go_at_call 11; refine (bytes3_ok _ _ hs1).mono ?_; rintro e w' ⟨rfl, rfl⟩)
      | (go_at_call 13; refine (HE.out _).mono ?_; rintro e w1 ⟨rfl, hb1⟩; have HB1 := Lib.hid hb1; have HL1 := Lib.hid (HLd.out.on hb1 HLd.out.big); clear hb1)
      | (go_at_call 12; refine (back_any s t _ hs HT.out HL1.out).mono ?_; rintro e w2 ⟨rfl, hb2⟩; have HB2 := Lib.hid hb2; clear hb2))
    go_ret
    exact ⟨rfl, HB1.out.trans (HB2.out.mono HB1.out.size)⟩
  · by_cases hs1 : s.size ≤ 1048576
    · have hs' : 262144 < s.size := by omega
      go_enter Tryd.func3, Tryd.ntmps3
      go_wp2_with (go_at_call 11; refine (bytes3_ok _ _ hs1).mono ?_; rintro e w' ⟨rfl, rfl⟩)
      go_ret
      exact ⟨rfl, Below.refl _ _⟩
    · have hs' : 1048576 < s.size := by omega
      go_enter Tryd.func3, Tryd.ntmps3
      go_wp2_with (go_at_call 11; refine (bytes3_no _ _ hs').mono ?_; rintro e w' ⟨rfl, rfl⟩)
      go_ret
      exact ⟨rfl, Below.refl _ _⟩
end Go.Proofs.Qxb6001095aDoor
