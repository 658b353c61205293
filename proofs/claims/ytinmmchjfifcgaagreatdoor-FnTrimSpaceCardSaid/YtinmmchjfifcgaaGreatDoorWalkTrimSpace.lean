/- impl.TrimSpace and laws.FnTrimSpace: the law returns true, whatever the string, where strings.asciiSpace holds its table; nothing that was there before the call turns. -/
import Derived.Test.YtinmmchjfifcgaaGreatDoorTrim
import Derived.Test.YtinmmchjfifcgaaGreatDoorWalkReplace
namespace Go.Proofs.YtinmmchjfifcgaaGreatDoor
open Go.RowKit
set_option maxRecDepth 100000

/-- strings.asciiSpace holds its table. -/
def SpTab (w : World) : Prop := Lib.TabIs Tryz.prog w "strings.asciiSpace" .u8 Lib.asciiSpaceTab
theorem gSp : Tryz.prog.globalNamed "strings.asciiSpace" = some 0 := by kernel_rfl
theorem SpTab.below {B : Nat} {w w' : World} (h : SpTab w) (hB : Below B w w') (h0 : 0 < B) : SpTab w' := var?_below hB gSp h0 h

theorem trimSp (l : List UInt8) : dropR (hasB ⟨#[32, 9, 10, 11, 12, 13]⟩) (l.dropWhile (hasB ⟨#[32, 9, 10, 11, 12, 13]⟩)) = Lib.trimSpace l := by
  have e : hasB ⟨#[32, 9, 10, 11, 12, 13]⟩ = Lib.isSp := by
    funext c
    show ([32, 9, 10, 11, 12, 13] : List UInt8).contains c = _
    unfold Lib.isSp
    simp only [List.contains_cons, List.contains_nil, Bool.or_false]
    cases (c == 32) <;> cases (c == 9) <;> cases (c == 10) <;> cases (c == 11) <;> cases (c == 12) <;> cases (c == 13) <;> rfl
  rw [e]; rfl

theorem trimSpace_below (s : ByteArray) (w : World) (hs : s.size ≤ 2147483647) (hA : AsciiTo s s.size) (hT : SpTab w) :
    Calls Tryz.prog 76 #[.string s] w fun e w' => e = .returned (.string ⟨(Lib.trimSpace s.data.toList).toArray⟩) ∧ Below w.heap.size w w' := by
  refine (Tryz.strings_TrimSpace s w (by omega) ?_ hT).mono ?_
  · intro j b hb
    have hj : j < s.size := by rw [Lib.size_eq]; exact (List.getElem?_eq_some_iff.1 hb).1
    have e : s[j] = b := by rw [get_list]; exact (List.getElem?_eq_some_iff.1 hb).2
    rw [← e]; exact hA j hj hj
  · rintro e w' ⟨he, rfl⟩
    exact ⟨he, rfl, rfl, rfl, by rw [Lib.bytesWorld_size]; omega, fun j hj => Lib.bytesWorld_at_old w 5 s j hj⟩

set_option maxHeartbeats 1000000 in
theorem bTrimSpace (s : ByteArray) (hs : s.size ≤ 2147483647) (hA : AsciiTo s s.size) (W : World) (bs t r : Nat) (h : Ops1 W s bs t r) (hT : SpTab W) (h0 : 0 < W.heap.size) :
    Calls Tryz.prog 58 #[.agg #[.nilIface], .slice (some ⟨bs, 0, none⟩) 1 1, .func (.func 62) #[] #[.pointer (some ⟨r, 0, none⟩)]] W (BPost ⟨(Lib.trimSpace s.data.toList).toArray⟩ W ⟨r, 0, none⟩) := by
  obtain ⟨hbs, ht', hr', hs0, ht, hr, hf⟩ := h
  obtain ⟨R, hR⟩ : ∃ R, R = Lib.trimSpace s.data.toList := ⟨_, rfl⟩
  have hc := trimSpace_below s (W.alloc (.cells #[.nilIface] 73)) hs hA (hT.below ((Below.refl _ W).alloc (Nat.le_refl _) _) h0)
  rw [← hR] at hc ⊢
  have HC := Lib.hid hc
  have HH := Lib.hid (And.intro hr hf)
  have HS := Lib.hid hs0
  have HT := Lib.hid ht
  clear hA hT hr hf hc hR h0
  go_enter Tryz.func58, Tryz.ntmps58
  go_wp2_with (go_at_call 63; refine (operand_any _ _ _).mono ?_; rintro e w' ⟨rfl, rfl⟩)
  refine HC.out.mono ?_
  rintro e W1 ⟨rfl, hB⟩
  have hB1 := below_alloc hB
  have HB1 := Lib.hid hB1
  have hr0 : (W1.cell? ⟨r, 0, none⟩).isSome = true := by rw [hB1.cell (p := ⟨r, 0, none⟩) hr', HH.out.1]; rfl
  have hf0 : W1.frozen? ⟨r, 0, none⟩ = false := by rw [hB1.frozen (p := ⟨r, 0, none⟩) hr', HH.out.2]
  obtain ⟨hr1, hf1⟩ := keep hB1 hr' HH.out.1 HH.out.2
  have hs1 : W1.cell? ⟨bs, 0, none⟩ = some (.pointer (some ⟨t, 0, none⟩)) := by rw [hB1.cell (p := ⟨bs, 0, none⟩) hbs]; exact HS.out
  clear hB hB1 hs0 ht
  by_cases hq : (⟨R.toArray⟩ : ByteArray) = s
  · have hq1 : (R == s.toList) = true := by rw [← hq, Lib.toList_data]; simp
    have HQ := Lib.hid hq
    clear hq
    go_wp2_with (go_at_call 62; refine (iter_any _ _ _ hr0 hf0).mono ?_; rintro e w' ⟨rfl, rfl⟩)
    go_ret
    rw [HQ.out]
    exact bpost_old HB1.out (by rw [HB1.out.cell (p := ⟨t, 0, none⟩) ht']; exact HT.out)
  · have hq1 : (R == s.toList) = false := by
      rw [beq_eq_false_iff_ne]; intro e; apply hq
      rw [Lib.toList_data] at e
      apply ByteArray.ext; apply Array.ext'; exact e
    clear hq
    go_wp2_with (first
      | (go_at_call 68; refine (interned_any _ _).mono ?_; rintro e w' ⟨rfl, rfl⟩)
      | (go_at_call 62; refine (iter_any _ _ _ (hr1 _) (hf1 _)).mono ?_; rintro e w' ⟨rfl, rfl⟩))
    go_ret
    exact bpost_new HB1.out

theorem trimSpace_any (s : ByteArray) (w : World) (hs : s.size ≤ 2147483647) (hA : AsciiTo s s.size) (hT : SpTab w) (h0 : 0 < w.heap.size) :
    Calls Tryz.prog 25 #[.string s] w fun e w' => e = .returned (.tuple #[.string ⟨(Lib.trimSpace s.data.toList).toArray⟩, .bool true]) ∧ Below w.heap.size w w' := by
  have hc : Calls Tryz.prog 50 #[.func (.func 58) #[] #[], .slice (some ⟨w.heap.size + 1, 0, none⟩) 1 1] ((w.alloc (.cells #[.iface 59 (.string s), .pointer none] 65)).alloc (.cells #[.pointer (some ⟨w.heap.size, 0, none⟩)] 46)) (fun e w' => ∃ p, e = .returned (.tuple #[.pointer (some p), .nilIface]) ∧ Below w.heap.size w w' ∧ w'.cell? p = some (.iface 59 (.string ⟨(Lib.trimSpace s.data.toList).toArray⟩))) := by
    have hb : Below w.heap.size w (((w.alloc (.cells #[.iface 59 (.string s), .pointer none] 65)).alloc (.cells #[.pointer (some ⟨w.heap.size, 0, none⟩)] 46)).alloc (.cells #[.pointer none] 46)) := (((Below.refl _ w).alloc (Nat.le_refl _) _).alloc (by simp) _).alloc (by simp; omega) _
    refine (call_any 58 _ ⟨(Lib.trimSpace s.data.toList).toArray⟩ _ (enters_of Tryz.func58 (by kernel_rfl) rfl) ?_).mono ?_
    · simpa using bTrimSpace s hs hA _ _ _ _ (ops1_at w s) (hT.below hb h0) (by simp)
    rintro e w' ⟨p, he, hB, hp⟩
    exact ⟨p, he, (((Below.refl _ w).alloc (Nat.le_refl _) _).alloc (by simp) _).trans (hB.mono (by simp; omega)), hp⟩
  have H := Lib.hid hc
  clear hc hA hT
  go_enter Tryz.func25, Tryz.ntmps25
  go_wp2_with (first
    | (go_at_call 35; refine (str_any _ _).mono ?_; rintro e w' ⟨rfl, rfl⟩)
    | (go_at_call 50; refine H.out.mono ?_; rintro e w' ⟨p, rfl, hB, hp⟩)
    | (go_at_call 33; refine (isString_any _ _ _ hp).mono ?_; rintro e w' ⟨rfl, rfl⟩)
    | go_in)
  go_ret2
  exact ⟨rfl, hB⟩

theorem law7_big (s : ByteArray) (w : World) (h : 2147483647 < s.size) : Calls Tryz.prog 7 #[.string s] w fun e w' => e = .returned (.bool true) ∧ Below w.heap.size w w' := by
  go_enter Tryz.func7, Tryz.ntmps7
  go_wp2
  go_ret
  exact ⟨rfl, Below.refl _ _⟩

set_option maxHeartbeats 1000000 in
theorem law7_small (s : ByteArray) (w : World) (h : s.size ≤ 2147483647) (hT : SpTab w) (h0 : 0 < w.heap.size) : Calls Tryz.prog 7 #[.string s] w fun e w' => e = .returned (.bool true) ∧ Below w.heap.size w w' := by
  have HT := Lib.hid hT
  clear hT
  go_enter Tryz.func7, Tryz.ntmps7
  go_wp2_with fail
  refine (ascii_any w.heap.size s _ (by go_simp) h).mono ?_
  rintro e w1 ⟨r, rfl, hw, hr⟩
  subst hw
  cases r with
  | false =>
    clear hr
    go_wp2_with (go_at_call 10; refine (alive_any _).mono ?_; rintro e w' ⟨rfl, hB⟩)
    go_ret
    exact ⟨rfl, below_alloc hB⟩
  | true =>
    have HA := Lib.hid (hr rfl)
    clear hr
    by_cases hbig : 1000 < s.size
    · go_wp2_with (go_at_call 10; refine (alive_any _).mono ?_; rintro e w' ⟨rfl, hB⟩)
      go_ret
      exact ⟨rfl, below_alloc hB⟩
    · have hs : s.size ≤ 1000 := by omega
      go_wp2_with fail
      refine (trimSpace_any s _ h HA.out (HT.out.below ((Below.refl _ w).alloc (Nat.le_refl _) _) h0) (by simp)).mono ?_
      rintro e w2 ⟨rfl, hB2⟩
      have HB2 := Lib.hid (below_alloc hB2)
      clear hB2
      go_wp2_with fail
      refine (trimLeft_any s ⟨#[32, 9, 10, 11, 12, 13]⟩ w2 (by decide)).mono ?_
      rintro e w3 ⟨rfl, rfl⟩
      go_wp2_with fail
      refine (trimRight_any ⟨(s.data.toList.dropWhile (hasB ⟨#[32, 9, 10, 11, 12, 13]⟩)).toArray⟩ ⟨#[32, 9, 10, 11, 12, 13]⟩ w2 ?_ (by decide)).mono ?_
      · rw [size_mk]
        have := (List.dropWhile_sublist (l := s.data.toList) (hasB ⟨#[32, 9, 10, 11, 12, 13]⟩)).length_le
        rw [← Lib.size_eq] at this; omega
      rintro e w3 ⟨rfl, rfl⟩
      rw [show (⟨(s.data.toList.dropWhile (hasB ⟨#[32, 9, 10, 11, 12, 13]⟩)).toArray⟩ : ByteArray).data.toList = s.data.toList.dropWhile (hasB ⟨#[32, 9, 10, 11, 12, 13]⟩) from rfl, trimSp]
      go_wp2_with fail
      refine (is_same _ _).mono ?_
      rintro e w4 ⟨rfl, rfl⟩
      go_wp2_with (go_at_call 10; refine (alive_any _).mono ?_; rintro e w' ⟨rfl, hB⟩)
      go_ret
      exact ⟨rfl, below_next HB2.out hB⟩

theorem law7_any (s : ByteArray) (w : World) (hT : SpTab w) (h0 : 0 < w.heap.size) : Calls Tryz.prog 7 #[.string s] w fun e w' => e = .returned (.bool true) ∧ Below w.heap.size w w' := by
  by_cases h1 : s.size ≤ 2147483647
  · exact law7_small s w h1 hT h0
  · exact law7_big s w (by omega)

end Go.Proofs.YtinmmchjfifcgaaGreatDoor
