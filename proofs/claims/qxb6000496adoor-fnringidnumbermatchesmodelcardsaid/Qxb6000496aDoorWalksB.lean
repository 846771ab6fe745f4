/-
  Seat b6000496aD: the walk of (RingID).number over the shelf's contracts (strings.CutPrefix, strconv.Atoi, strconv.Itoa), and of the two laws.
-/
import Derived.Test.Qxb6000496aDoorShelf
import Derived.Test.Qxb6000496aDoorWalksA
import Derived.Lib.AtoiErrMem
namespace Go.Proofs.Qxb6000496aDoor
open Go.RowKit Go.Shelf

/-- What lay below stays, where the world has drawn and blocks have been laid behind. -/
theorem below_grow (w : World) (q : Nat) (os : Array Obj) : Below w.heap.size w (Sort.grow (w.drewN q) os) :=
  ⟨rfl, rfl, rfl, by show w.heap.size ≤ (w.heap ++ os).size; rw [Array.size_append]; omega, fun i hi => by
    show (w.heap ++ os)[i]? = _
    rw [Array.getElem?_append_left hi]⟩

/-- A variable outlives what is laid behind the heap. -/
theorem var_below {P : Program} {w w' : World} {n : String} {cs : Array Value} (hb : Below w.heap.size w w') (h : w.var? P n = some cs) : w'.var? P n = some cs := by
  unfold World.var? at *
  cases hg : P.globalNamed n with
  | none => simp [hg] at h
  | some g =>
    simp only [hg, Option.bind_some] at h ⊢
    have hlt : g < w.heap.size := by
      rcases Nat.lt_or_ge g w.heap.size with h' | h'
      · exact h'
      · rw [Array.getElem?_eq_none h'] at h; simp at h
    rw [hb.block g hlt]
    exact h

/-- strings.CutPrefix, the two results under names. -/
theorem cut_any (s p r : ByteArray) (b : Bool) (w : World) (hr : r.data.toList = Lib.trimPrefix s.data.toList p.data.toList) (hb : Lib.hasPrefix s.data.toList p.data.toList = b) :
    Calls Tryd.prog 11 #[.string s, .string p] w fun e w' => e = .returned (.tuple #[.string r, .bool b]) ∧ w' = w := by
  have h := Any.strings_CutPrefix Tryd.laysCut s p w
  rw [← hr, hb, Lib.mk_data] at h
  exact h

/-- strconv.Itoa, its result under a name. -/
theorem ito_any (n : Int) (t : ByteArray) (w : World) (h0 : -9223372036854775808 ≤ n) (h1 : n ≤ 9223372036854775807) (ht : t.data.toList = Lib.itoa n)
    (htab : Lib.TabIs Tryd.prog w "internal/strconv.uint64pow10" .u64 Lib.pow10Tab) :
    Calls Tryd.prog 13 #[.int .i64 n] w fun e w' => e = .returned (.string t) ∧ Below w.heap.size w w' := by
  have h := Any.strconv_Itoa Tryd.laysItoa n h0 h1 w htab
  rw [← ht, Lib.mk_data] at h
  refine h.mono ?_
  rintro e w' ⟨rfl, k, os, rfl⟩
  exact ⟨rfl, below_grow _ _ _⟩

/-- strconv.Atoi where it succeeds. -/
theorem ato_ok (s : ByteArray) (n : Int) (w : World) (hs : s.size ≤ 281474976710656) (h : Lib.atoiAll s.data.toList = .ok n) :
    Calls Tryd.prog 12 #[.string s] w fun e w' => e = .returned (.tuple #[.int .i64 n, .nilIface]) ∧ Below w.heap.size w w' := by
  refine (Any.strconv_Atoi_ok Tryd.laysAtoi s (by omega) n h w).mono ?_
  rintro e w' ⟨rfl, hw⟩
  refine ⟨rfl, ?_⟩
  rcases hw with rfl | ⟨t, rfl⟩
  · exact Below.refl _ _
  · exact Lib.bytesWorld_below _ _ _

/-- strconv.Atoi where it fails. -/
theorem ato_err (s : ByteArray) (w : World) (hs : s.size ≤ 281474976710656) (h : ∀ n, Lib.atoiAll s.data.toList ≠ .ok n) (t0 t1 : TypeId) (p0 p1 : Value)
    (h0 : w.var? Tryd.prog "strconv.ErrSyntax" = some #[.iface t0 p0]) (h1 : w.var? Tryd.prog "strconv.ErrRange" = some #[.iface t1 p1]) :
    Calls Tryd.prog 12 #[.string s] w fun e w' => (∃ (n : Int) (N : Nat), e = .returned (.tuple #[.int .i64 n, .iface 42 (.pointer (some ⟨N, 0, none⟩))])) ∧ Below w.heap.size w w' := by
  rcases hc : Lib.atoiAll s.data.toList with v | _ | _
  · exact absurd hc (h v)
  · refine (Any.strconv_Atoi_syntax_var Tryd.laysAtoi s hs hc t0 p0 w h0).mono ?_
    rintro e w' ⟨N, rfl, -, -, hb⟩
    exact ⟨⟨_, N, rfl⟩, hb⟩
  · refine (Any.strconv_Atoi_range_var Tryd.laysAtoi s hs hc t1 p1 w h1).mono ?_
    rintro e w' ⟨N, rfl, -, -, hb⟩
    exact ⟨⟨_, N, rfl⟩, hb⟩

/-- The listed variables as the walk of number asks for them. -/
structure LaidIs (w : World) : Prop where
  tab : Lib.TabIs Tryd.prog w "internal/strconv.uint64pow10" .u64 Lib.pow10Tab
  syn : ∃ t p, w.var? Tryd.prog "strconv.ErrSyntax" = some #[.iface t p]
  ran : ∃ t p, w.var? Tryd.prog "strconv.ErrRange" = some #[.iface t p]

theorem LaidIs.on {w w' : World} (h : LaidIs w) (hb : Below w.heap.size w w') : LaidIs w' :=
  ⟨var_below hb h.tab, let ⟨t, p, e⟩ := h.syn; ⟨t, p, var_below hb e⟩, let ⟨t, p, e⟩ := h.ran; ⟨t, p, var_below hb e⟩⟩

theorem trimPrefix_le (l p : List UInt8) : (Lib.trimPrefix l p).length ≤ l.length := by
  unfold Lib.trimPrefix
  split
  · rw [List.length_drop]; omega
  · exact Nat.le_refl _

set_option maxHeartbeats 1000000 in
theorem number_any (id name : ByteArray) (w : World) (hid : id.size ≤ 281474976710656) (hL : LaidIs w) :
    Calls Tryd.prog 10 #[.string id, .string name] w fun e w' => e = .returned (.int .i64 (numOf id.data.toList name.data.toList)) ∧ Below w.heap.size w w' := by
  obtain ⟨rest, hrest⟩ : ∃ r : ByteArray, r.data.toList = Lib.trimPrefix id.data.toList name.data.toList := ⟨⟨_⟩, rfl⟩
  obtain ⟨digs, hdigs⟩ : ∃ r : ByteArray, r.data.toList = Lib.trimPrefix rest.data.toList [35] := ⟨⟨_⟩, rfl⟩
  cases h1 : Lib.hasPrefix id.data.toList name.data.toList
  · have hv : numOf id.data.toList name.data.toList = 0 := by unfold numOf; rw [if_neg (by rw [h1]; simp)]
    rw [hv]
    have H1 := Lib.hid h1; have HR := Lib.hid hrest
    clear h1 hrest hdigs hv hL
    go_enter Tryd.func10, Tryd.ntmps10
    go_wp2_with (go_at_call 11; refine (cut_any _ _ rest false _ HR.out H1.out).mono ?_; rintro e w' ⟨rfl, rfl⟩)
    go_ret
    exact ⟨rfl, Below.refl _ _⟩
  · by_cases h2 : Lib.trimPrefix id.data.toList name.data.toList = []
    · have hv : numOf id.data.toList name.data.toList = 1 := by unfold numOf; rw [if_pos h1, if_pos h2]
      have he : rest.toList.isEmpty = true := by rw [Lib.toList_data, hrest, h2]; rfl
      rw [hv]
      have H1 := Lib.hid h1; have HR := Lib.hid hrest
      clear h1 hrest hdigs hv hL h2
      go_enter Tryd.func10, Tryd.ntmps10
      go_wp2_with (go_at_call 11; refine (cut_any _ _ rest true _ HR.out H1.out).mono ?_; rintro e w' ⟨rfl, rfl⟩)
      go_ret
      exact ⟨rfl, Below.refl _ _⟩
    · have he : rest.toList.isEmpty = false := by
        rw [Lib.toList_data, hrest]
        simpa using h2
      have hsz : digs.size ≤ 281474976710656 := by
        rw [Lib.size_eq, hdigs]
        have a := trimPrefix_le rest.data.toList [35]
        have b := trimPrefix_le id.data.toList name.data.toList
        rw [← hrest] at b
        rw [Lib.size_eq] at hid
        omega
      have hnum : numOf id.data.toList name.data.toList = match Lib.atoiAll digs.data.toList with
          | .ok n => if Lib.hasPrefix rest.data.toList [35] = true ∧ 2 ≤ n ∧ Lib.itoa n = digs.data.toList then n else 0
          | _ => 0 := by
        unfold numOf
        rw [if_pos h1, if_neg h2, hdigs, hrest]
        cases Lib.atoiAll (Lib.trimPrefix (Lib.trimPrefix id.data.toList name.data.toList) [35]) <;> rfl
      cases h3 : Lib.hasPrefix rest.data.toList [35]
      · -- no '#': 0, however Atoi ends
        have hv : numOf id.data.toList name.data.toList = 0 := by
          rw [hnum, h3]
          cases Lib.atoiAll digs.data.toList
          · exact if_neg (by simp)
          · rfl
          · rfl
        rw [hv]
        have H1 := Lib.hid h1; have HR := Lib.hid hrest; have HD := Lib.hid hdigs; have H3 := Lib.hid h3; have HLd := Lib.hid hL
        clear h1 hrest hdigs hv hL h2 h3 hnum
        by_cases h4 : ∃ n, Lib.atoiAll digs.data.toList = .ok n
        · obtain ⟨n, h4⟩ := h4
          have H4 := Lib.hid h4
          clear h4
          go_enter Tryd.func10, Tryd.ntmps10
          go_wp2_with (first
            | (go_at_call_of 11 id; refine (cut_any _ _ rest true _ HR.out H1.out).mono ?_; rintro e w' ⟨rfl, rfl⟩)
            | (go_at_call_of 11 rest; refine (cut_any _ _ digs false _ HD.out H3.out).mono ?_; rintro e w' ⟨rfl, rfl⟩)
            | (go_at_call 12; refine (ato_ok _ n _ hsz H4.out).mono ?_; rintro e w' ⟨rfl, hb1⟩; have HB1 := Lib.hid hb1; clear hb1))
          go_ret
          exact ⟨rfl, HB1.out⟩
        · have H4 : Hid (∀ n, Lib.atoiAll digs.data.toList ≠ .ok n) := fun n e => h4 ⟨n, e⟩
          clear h4
          obtain ⟨t0, p0, e0⟩ := HLd.out.syn
          obtain ⟨t1, p1, e1⟩ := HLd.out.ran
          have E0 := Lib.hid e0; have E1 := Lib.hid e1
          clear e0 e1
          go_enter Tryd.func10, Tryd.ntmps10
          go_wp2_with (first
            | (go_at_call_of 11 id; refine (cut_any _ _ rest true _ HR.out H1.out).mono ?_; rintro e w' ⟨rfl, rfl⟩)
            | (go_at_call_of 11 rest; refine (cut_any _ _ digs false _ HD.out H3.out).mono ?_; rintro e w' ⟨rfl, rfl⟩)
            | (go_at_call 12; refine (ato_err _ _ hsz H4.out t0 t1 p0 p1 E0.out E1.out).mono ?_; rintro e w' ⟨⟨n, N, rfl⟩, hb1⟩; have HB1 := Lib.hid hb1; clear hb1))
          go_ret
          exact ⟨rfl, HB1.out⟩
      · by_cases h4 : ∃ n, Lib.atoiAll digs.data.toList = .ok n
        · obtain ⟨n, h4⟩ := h4
          rw [h4, h3] at hnum
          obtain ⟨b1, b2⟩ := Lib.atoiAll_bounds h4
          obtain ⟨t, ht⟩ : ∃ t : ByteArray, t.data.toList = Lib.itoa n := ⟨⟨_⟩, rfl⟩
          by_cases h5 : n < 2
          · have hv : numOf id.data.toList name.data.toList = 0 := by
              rw [hnum]
              exact if_neg (by omega)
            rw [hv]
            have H1 := Lib.hid h1; have HR := Lib.hid hrest; have HD := Lib.hid hdigs; have H3 := Lib.hid h3; have H4 := Lib.hid h4
            clear h1 hrest hdigs hv hL h2 h3 h4 ht hnum
            go_enter Tryd.func10, Tryd.ntmps10
            go_wp2_with (first
              | (go_at_call_of 11 id; refine (cut_any _ _ rest true _ HR.out H1.out).mono ?_; rintro e w' ⟨rfl, rfl⟩)
              | (go_at_call_of 11 rest; refine (cut_any _ _ digs true _ HD.out H3.out).mono ?_; rintro e w' ⟨rfl, rfl⟩)
              | (go_at_call 12; refine (ato_ok _ n _ hsz H4.out).mono ?_; rintro e w' ⟨rfl, hb1⟩; have HB1 := Lib.hid hb1; clear hb1))
            go_ret
            exact ⟨rfl, HB1.out⟩
          · have h5' : 2 ≤ n := by omega
            cases h6 : (t.toList == digs.toList)
            · have hv : numOf id.data.toList name.data.toList = 0 := by
                rw [hnum]
                refine if_neg ?_
                rintro ⟨_, _, h7⟩
                rw [← ht] at h7
                rw [Lib.toList_data, Lib.toList_data, h7] at h6
                simp at h6
              rw [hv]
              have H1 := Lib.hid h1; have HR := Lib.hid hrest; have HD := Lib.hid hdigs; have H3 := Lib.hid h3; have H4 := Lib.hid h4; have HT := Lib.hid ht; have HLd := Lib.hid hL
              clear h1 hrest hdigs hv hL h2 h3 h4 ht hnum
              go_enter Tryd.func10, Tryd.ntmps10
              go_wp2_with (first
                | (go_at_call_of 11 id; refine (cut_any _ _ rest true _ HR.out H1.out).mono ?_; rintro e w' ⟨rfl, rfl⟩)
                | (go_at_call_of 11 rest; refine (cut_any _ _ digs true _ HD.out H3.out).mono ?_; rintro e w' ⟨rfl, rfl⟩)
                | (go_at_call 12; refine (ato_ok _ n _ hsz H4.out).mono ?_; rintro e w1 ⟨rfl, hb1⟩; have HLe := Lib.hid (HLd.out.on hb1); have HB1 := Lib.hid hb1; clear hb1)
                | (go_at_call 13; refine (ito_any _ t _ b1 b2 HT.out HLe.out.tab).mono ?_; rintro e w2 ⟨rfl, hb2⟩; have HB2 := Lib.hid hb2; clear hb2))
              go_ret
              exact ⟨rfl, HB1.out.trans (HB2.out.mono HB1.out.size)⟩
            · have hv : numOf id.data.toList name.data.toList = n := by
                rw [hnum]
                exact if_pos ⟨rfl, by omega, by rw [← ht]; simpa [Lib.toList_data] using h6⟩
              rw [hv]
              have H1 := Lib.hid h1; have HR := Lib.hid hrest; have HD := Lib.hid hdigs; have H3 := Lib.hid h3; have H4 := Lib.hid h4; have HT := Lib.hid ht; have HLd := Lib.hid hL
              clear h1 hrest hdigs hv hL h2 h3 h4 ht hnum
              go_enter Tryd.func10, Tryd.ntmps10
              go_wp2_with (first
                | (go_at_call_of 11 id; refine (cut_any _ _ rest true _ HR.out H1.out).mono ?_; rintro e w' ⟨rfl, rfl⟩)
                | (go_at_call_of 11 rest; refine (cut_any _ _ digs true _ HD.out H3.out).mono ?_; rintro e w' ⟨rfl, rfl⟩)
                | (go_at_call 12; refine (ato_ok _ n _ hsz H4.out).mono ?_; rintro e w1 ⟨rfl, hb1⟩; have HLe := Lib.hid (HLd.out.on hb1); have HB1 := Lib.hid hb1; clear hb1)
                | (go_at_call 13; refine (ito_any _ t _ b1 b2 HT.out HLe.out.tab).mono ?_; rintro e w2 ⟨rfl, hb2⟩; have HB2 := Lib.hid hb2; clear hb2))
              go_ret
              exact ⟨rfl, HB1.out.trans (HB2.out.mono HB1.out.size)⟩
        · have hv : numOf id.data.toList name.data.toList = 0 := by
            rw [hnum]
            rcases h7 : Lib.atoiAll digs.data.toList with v | _ | _
            · exact absurd ⟨v, h7⟩ h4
            · rfl
            · rfl
          rw [hv]
          have H4 : Hid (∀ n, Lib.atoiAll digs.data.toList ≠ .ok n) := fun n e => h4 ⟨n, e⟩
          have H1 := Lib.hid h1; have HR := Lib.hid hrest; have HD := Lib.hid hdigs; have H3 := Lib.hid h3
          obtain ⟨t0, p0, e0⟩ := hL.syn
          obtain ⟨t1, p1, e1⟩ := hL.ran
          have E0 := Lib.hid e0; have E1 := Lib.hid e1
          clear e0 e1 h1 hrest hdigs hv hL h2 h3 h4 hnum
          go_enter Tryd.func10, Tryd.ntmps10
          go_wp2_with (first
            | (go_at_call_of 11 id; refine (cut_any _ _ rest true _ HR.out H1.out).mono ?_; rintro e w' ⟨rfl, rfl⟩)
            | (go_at_call_of 11 rest; refine (cut_any _ _ digs true _ HD.out H3.out).mono ?_; rintro e w' ⟨rfl, rfl⟩)
            | (go_at_call 12; refine (ato_err _ _ hsz H4.out t0 t1 p0 p1 E0.out E1.out).mono ?_; rintro e w' ⟨⟨n, N, rfl⟩, hb1⟩; have HB1 := Lib.hid hb1; clear hb1))
          go_ret
          exact ⟨rfl, HB1.out⟩
end Go.Proofs.Qxb6000496aDoor
