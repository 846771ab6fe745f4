/-
  Seat b6001095aD: the public strconv.ParseUint at base 8 size 8; unescapePath.
-/
import Derived.Test.Qxb6001095aDoorParse
import Derived.WalkSpells
import Derived.WalkLawsBesides
namespace Go.Proofs.Qxb6001095aDoor
open Go.RowKit Go.Shelf

/-- A variable outlives what is laid behind the heap. -/
theorem var_below {P : Program} {w w' : World} {n : String} {cs : Array Value} (hb : Below w.heap.size w w') (h : w.var? P n = some cs) : w'.var? P n = some cs := by
  unfold World.var? at *
  cases hg : P.globalNamed n with
  | none => simp [hg] at h
  | some g =>
    simp only [hg, Option.bind_some] at h ⊢
    have hlt : g < w.heap.size := by
      rcases Nat.lt_or_ge g w.heap.size with h' | h'
      · exact h'
      · rw [Array.getElem?_eq_none h'] at h; simp at h
    rw [hb.block g hlt]
    exact h

/-- The listed variables as the walks ask for them. -/
structure LaidIs (w : World) : Prop where
  syn : ∃ t p, w.cell? ⟨2, 0, none⟩ = some (.iface t p)
  ran : ∃ t p, w.cell? ⟨3, 0, none⟩ = some (.iface t p)
  big : 4 ≤ w.heap.size

theorem LaidIs.on {w w' : World} {B : Nat} (h : LaidIs w) (hb : Below B w w') (hB : 4 ≤ B) : LaidIs w' :=
  ⟨let ⟨t, p, e⟩ := h.syn; ⟨t, p, (hb.cell (p := ⟨2, 0, none⟩) (show 2 < B by omega)).trans e⟩, let ⟨t, p, e⟩ := h.ran; ⟨t, p, (hb.cell (p := ⟨3, 0, none⟩) (show 3 < B by omega)).trans e⟩, Nat.le_trans h.big hb.size⟩

set_option maxHeartbeats 1000000 in
theorem parse_ok (s : ByteArray) (n : Nat) (w : World) (hne : s.size ≠ 0) (hs : s.size ≤ 281474976710656) (h : oct 0 s.data.toList = some n) :
    Calls Tryd.prog 39 #[.string s, .int .i64 8, .int .i64 8] w fun e w' => e = .returned (.tuple #[.int .u64 n, .nilIface]) ∧ Below w.heap.size w w' := by
  have hI := inner_any s hne (by omega) w
  rw [h] at hI
  have hI : Calls Tryd.prog 45 #[.string s, .int .i64 8, .int .i64 8] w fun e w' => e = .returned (.tuple #[.int .u64 n, .nilIface]) ∧ w' = Lib.bytesWorld w 5 s := hI
  have HI := Lib.hid hI
  clear h hI
  go_enter Tryd.func39, Tryd.ntmps39
  go_wp2_with (go_at_call 45; refine HI.out.mono ?_; rintro e W1 ⟨rfl, hW⟩; have HW := Lib.hid hW; clear hW)
  go_ret2
  refine ⟨rfl, ?_⟩
  rw [HW.out]
  exact Lib.bytesWorld_below _ _ _

set_option maxHeartbeats 1000000 in
theorem parse_err (s : ByteArray) (w : World) (hne : s.size ≠ 0) (hs : s.size ≤ 281474976710656) (h : oct 0 s.data.toList = none) (hL : LaidIs w) :
    Calls Tryd.prog 39 #[.string s, .int .i64 8, .int .i64 8] w fun e w' => (∃ (v : Int) (N : Nat), e = .returned (.tuple #[.int .u64 v, .iface 74 (.pointer (some ⟨N, 0, none⟩))])) ∧ Below w.heap.size w w' := by
  have hI := inner_any s hne (by omega) w
  rw [h] at hI
  have HI := Lib.hid hI
  have HL := Lib.hid hL
  clear h hI hL
  go_enter Tryd.func39, Tryd.ntmps39
  go_wp2_with fail
  refine HI.out.mono ?_
  rintro e W1 ⟨he, hW⟩
  have hb1 : Below w.heap.size w W1 := by rw [hW]; exact Lib.bytesWorld_below _ _ _
  have HL1 := Lib.hid (HL.out.on hb1 HL.out.big)
  have HB1 := Lib.hid hb1
  clear hW hb1
  obtain ⟨ts, ps, es⟩ := HL1.out.syn
  obtain ⟨tr, pr, er⟩ := HL1.out.ran
  have ES := Lib.hid es; have ER := Lib.hid er
  clear es er
  rcases he with rfl | rfl
  · go_wp2_with (go_at_call 46; refine (Any.strconv_toError_syntax Tryd.lays245 ⟨#[80, 97, 114, 115, 101, 85, 105, 110, 116]⟩ s 8 8 (.iface ts ps) _ hs ES.out (Or.inr ⟨_, _, rfl⟩)).mono ?_; rintro e W2 ⟨N, rfl, _, _, h3⟩; have HB2 := Lib.hid h3; clear h3)
    go_ret2
    exact ⟨⟨_, N, rfl⟩, HB1.out.trans (HB2.out.mono HB1.out.size)⟩
  · go_wp2_with (go_at_call 46; refine (Any.strconv_toError_range Tryd.lays245 ⟨#[80, 97, 114, 115, 101, 85, 105, 110, 116]⟩ s 8 8 (.iface tr pr) _ hs ER.out (Or.inr ⟨_, _, rfl⟩)).mono ?_; rintro e W2 ⟨N, rfl, _, _, h3⟩; have HB2 := Lib.hid h3; clear h3)
    go_ret2
    exact ⟨⟨_, N, rfl⟩, HB1.out.trans (HB2.out.mono HB1.out.size)⟩

theorem builder_below {T e : TypeId} {B b : Nat} {bs : List Value} {W W' : World} (h : Lib.IsBuilder T e B b bs W) (hb : Below W.heap.size W W') : Lib.IsBuilder T e B b bs W' := by
  have one : ∀ p, Lib.BuilderAt T e B b p bs W → Lib.BuilderAt T e B b p bs W' := by
    rintro p ⟨hB, v, hv, hown, hne⟩
    have hlt : b < W.heap.size := by
      rcases Nat.lt_or_ge b W.heap.size with h' | h'
      · exact h'
      · simp [Array.getElem?_eq_none h'] at hv
    exact ⟨hB, v, (hb.block b hlt).trans hv, hown.kept (row := none) ⟨hb.os, hb.tape, hb.output, hb.size, fun k hk _ => hb.block k hk⟩ (Classical.em _), hne⟩
  exact h.elim (fun x => .inl (one _ x)) (fun x => .inr (one _ x))

/-- (*strings.Builder).WriteByte. -/
theorem write_any (B b : Nat) (acc : List UInt8) (c : UInt8) (x : Int) (w : World) (hx : x = (c.toNat : Int)) (h : Lib.IsBuilder 49 5 B b (Lib.byteCells acc) w) (hlen : acc.length + 1 ≤ 140737488355328) (hBw : B ≤ w.heap.size) :
    Calls Tryd.prog 40 #[.pointer (some ⟨b, 0, none⟩), .int .u8 x] w fun e w' => e = .returned .nilIface ∧ Lib.IsBuilder 49 5 B b (Lib.byteCells (acc ++ [c])) w' ∧ Below B w w' := by
  subst hx
  refine (Any.Builder_WriteByte Tryd.lays167 Tryd.Builder_Extra_167 B b (Lib.byteCells acc) (c.toNat : Int) w h (by simpa [Lib.byteCells] using hlen) hBw).mono ?_
  rintro e w' ⟨rfl, h1, h2⟩
  refine ⟨rfl, Or.inr ?_, h2⟩
  have e1 : Lib.byteCells (acc ++ [c]) = Lib.byteCells acc ++ [.int .u8 (c.toNat : Int)] := by simp [Lib.byteCells]
  rw [e1]
  exact h1

/-- (*strings.Builder).String. -/
theorem string_any (B b : Nat) (l : List UInt8) (w : World) (h : Lib.IsBuilder 49 5 B b (Lib.byteCells l) w) (hBw : B ≤ w.heap.size) :
    Calls Tryd.prog 41 #[.pointer (some ⟨b, 0, none⟩)] w fun e w' => e = .returned (.string ⟨l.toArray⟩) ∧ Below B w w' :=
  Any.Builder_String_any Tryd.lays169 Tryd.Builder_Extra_169 B b l w h hBw

theorem ret_str {a b : List UInt8} (h : a = b) : Ending.returned (.string ⟨a.toArray⟩) = .returned (.string ⟨b.toArray⟩) := by rw [h]

theorem drop_at (s : ByteArray) (i : Nat) (h : i < s.size) : s.data.toList.drop i = s[i] :: s.data.toList.drop (i + 1) :=
  List.drop_eq_getElem_cons (by rw [← Lib.size_eq]; exact h)

set_option maxHeartbeats 1000000 in
theorem unesc_any (s : ByteArray) (w : World) (hs : s.size ≤ 1073741824) (hL : LaidIs w) :
    Calls Tryd.prog 32 #[.string s] w fun e w' => e = .returned (.string ⟨(unAll s.data.toList).toArray⟩) ∧ Below w.heap.size w w' := by
  have HL := Lib.hid hL
  clear hL
  have HN : Hid (s.data.toList.length = s.size) := (Lib.size_eq s).symm
  go_enter Tryd.func32, Tryd.ntmps32
  go_wp2
  go_loopw [4] (fun vi wr => ∃ (i : Nat) (acc : List UInt8), vi = .int .i64 i ∧ i ≤ s.size ∧ acc.length ≤ i ∧ Hid (Lib.IsBuilder 49 5 w.heap.size w.heap.size (Lib.byteCells acc) wr) ∧ Hid (Below w.heap.size w wr) ∧ Hid (acc ++ unAll (s.data.toList.drop i) = unAll s.data.toList)) (fun vi _ => s.size - (intOf vi).toNat)
  case atStart => exact ⟨0, [], rfl, Nat.zero_le _, Nat.le_refl _, Lib.fresh_isBuilder 49 5 w, (Below.refl _ _).alloc (Nat.le_refl _) _, rfl⟩
  case round =>
    obtain ⟨i, acc, rfl, hi, hacc, HI, HB, HU⟩ := hrel
    rename World => W0
    by_cases hlt : i < s.size
    · have HBs : Hid (w.heap.size ≤ W0.heap.size) := HB.out.size
      have hdrop := drop_at s i hlt
      have HU' : Hid (acc ++ unAll (s[i] :: s.data.toList.drop (i + 1)) = unAll s.data.toList) := by
        have := HU.out
        rw [hdrop] at this
        exact this
      have hrl : (s.data.toList.drop (i + 1)).length = s.size - (i + 1) := by rw [List.length_drop, HN.out]
      have HRL := Lib.hid hrl
      clear hdrop hrl
      -- a byte that goes over as it is
      have HP : Hid (unAll (s[i] :: s.data.toList.drop (i + 1)) = s[i] :: unAll (s.data.toList.drop (i + 1)) → (acc ++ [s[i]]) ++ unAll (s.data.toList.drop (i + 1)) = unAll s.data.toList) := fun e => by
        have := HU'.out
        rw [e] at this
        rw [List.append_assoc]
        exact this
      cases c92 : ((s[i].toNat : Int) == 92)
      · have HQ : Hid ((acc ++ [s[i]]) ++ unAll (s.data.toList.drop (i + 1)) = unAll s.data.toList) := HP.out (unAll_plain _ _ (fun h => by
          rw [h.1] at c92
          cases c92))
        go_wp2_with (go_at_call 40; refine (write_any _ _ acc s[i] _ _ rfl HI.out (by omega) HBs.out).mono ?_; rintro e W1 ⟨rfl, h1, h2⟩; have HI1 := Lib.hid h1; have HB1 := Lib.hid h2; clear h1 h2)
        go_roundw
        case rel => exact ⟨i + 1, acc ++ [s[i]], by go_num, by omega, by simp; omega, HI1.out, HB.out.trans HB1.out, HQ.out⟩
        case measure => simp [intOf]; omega
      · have h92 : s[i].toNat = 92 := by have := beq_iff_eq.1 c92; omega
        have H92 := Lib.hid h92
        clear h92
        by_cases h3 : i + 3 < s.size
        · have hp : (s.extract (i + 1) (i + 4)).data.toList = (s.data.toList.drop (i + 1)).take 3 := by
            rw [Lib.extract_data, show i + 4 - (i + 1) = 3 by omega]
          have hps : (s.extract (i + 1) (i + 4)).size = 3 := by
            rw [Lib.size_eq, hp, List.length_take, HRL.out]
            omega
          have HPs := Lib.hid hps
          clear hps
          cases ho : oct 0 ((s.data.toList.drop (i + 1)).take 3) with
          | some n =>
            have hn := oct_le _ _ _ (by omega) ho
            have HO : Hid (oct 0 (s.extract (i + 1) (i + 4)).data.toList = some n) := by rw [← hp] at ho; exact ho
            have HQ : Hid ((acc ++ [UInt8.ofNat n]) ++ unAll (s.data.toList.drop (i + 4)) = unAll s.data.toList) := by
              have e := unAll_hit _ _ n H92.out (by rw [HRL.out]; omega) ho
              have := HU'.out
              rw [e, List.drop_drop] at this
              rw [List.append_assoc]
              exact this
            have Hn : Hid ((UInt8.ofNat n).toNat = n) := by
              show (UInt8.ofNat n).toNat = n
              rw [UInt8.toNat_ofNat']
              omega
            clear ho hp
            go_wp2_with (first
              | (go_at_call 39; refine (parse_ok _ n _ (by rw [HPs.out]; omega) (by rw [HPs.out]; omega) HO.out).mono ?_; rintro e W1 ⟨rfl, h1⟩; have HI1 := Lib.hid (builder_below HI.out h1); have HB1 := Lib.hid h1; have HBs1 := Lib.hid (Nat.le_trans HBs.out h1.size); clear h1)
              | (go_at_call 40; refine (write_any _ _ acc (UInt8.ofNat n) _ _ (by rw [Hn.out]) HI1.out (by omega) HBs1.out).mono ?_; rintro e W2 ⟨rfl, h1, h2⟩; have HI2 := Lib.hid h1; have HB2 := Lib.hid h2; clear h1 h2))
            go_roundw
            case rel => exact ⟨i + 4, acc ++ [UInt8.ofNat n], by go_num, by omega, by simp; omega, HI2.out, (HB.out.trans (HB1.out.mono HBs.out)).trans HB2.out, HQ.out⟩
            case measure => simp [intOf]; omega
          | none =>
            have HO : Hid (oct 0 (s.extract (i + 1) (i + 4)).data.toList = none) := by rw [← hp] at ho; exact ho
            have HQ : Hid ((acc ++ [s[i]]) ++ unAll (s.data.toList.drop (i + 1)) = unAll s.data.toList) := HP.out (unAll_miss _ _ ho)
            have HL0 := Lib.hid (HL.out.on HB.out HL.out.big)
            clear ho hp
            go_wp2_with (first
              | (go_at_call 39; refine (parse_err _ _ (by rw [HPs.out]; omega) (by rw [HPs.out]; omega) HO.out HL0.out).mono ?_; rintro e W1 ⟨⟨v, N, rfl⟩, h1⟩; have HI1 := Lib.hid (builder_below HI.out h1); have HB1 := Lib.hid h1; have HBs1 := Lib.hid (Nat.le_trans HBs.out h1.size); clear h1)
              | (go_at_call 40; refine (write_any _ _ acc s[i] _ _ rfl HI1.out (by omega) HBs1.out).mono ?_; rintro e W2 ⟨rfl, h1, h2⟩; have HI2 := Lib.hid h1; have HB2 := Lib.hid h2; clear h1 h2))
            go_roundw
            case rel => exact ⟨i + 1, acc ++ [s[i]], by go_num, by omega, by simp; omega, HI2.out, (HB.out.trans (HB1.out.mono HBs.out)).trans HB2.out, HQ.out⟩
            case measure => simp [intOf]; omega
        · have HQ : Hid ((acc ++ [s[i]]) ++ unAll (s.data.toList.drop (i + 1)) = unAll s.data.toList) := HP.out (unAll_plain _ _ (fun h => by
            have := h.2
            rw [HRL.out] at this
            omega))
          go_wp2_with (go_at_call 40; refine (write_any _ _ acc s[i] _ _ rfl HI.out (by omega) HBs.out).mono ?_; rintro e W1 ⟨rfl, h1, h2⟩; have HI1 := Lib.hid h1; have HB1 := Lib.hid h2; clear h1 h2)
          go_roundw
          case rel => exact ⟨i + 1, acc ++ [s[i]], by go_num, by omega, by simp; omega, HI1.out, HB.out.trans HB1.out, HQ.out⟩
          case measure => simp [intOf]; omega
    · have hend : s.data.toList.drop i = [] := List.drop_eq_nil_of_le (by rw [HN.out]; omega)
      have HE : Hid (acc = unAll s.data.toList) := by
        have := HU.out
        rw [hend, unAll_nil, List.append_nil] at this
        exact this
      have HBs : Hid (w.heap.size ≤ W0.heap.size) := HB.out.size
      clear hend
      go_wp2_with (go_at_call 41; refine (string_any _ _ acc _ HI.out HBs.out).mono ?_; rintro e W1 ⟨rfl, hb⟩; have HB1 := Lib.hid hb; clear hb)
      go_ret
      exact ⟨ret_str HE.out, HB.out.trans HB1.out⟩
end Go.Proofs.Qxb6001095aDoor
