/- laws.FnNoPadIsCut returns true, whatever the string; nothing that was there before the call turns. impl.TrimRight. -/
import Derived.Test.YtinmmchjfifcgaaGreatDoorTrimRightZ
namespace Go.Proofs.YtinmmchjfifcgaaGreatDoor
open Go.RowKit
set_option maxRecDepth 100000

/-- Two operands. -/
structure Ops2 (W : World) (s f : ByteArray) (bs t0 t1 r : Nat) : Prop where
  bs_lt : bs < W.heap.size
  t0_lt : t0 < W.heap.size
  t1_lt : t1 < W.heap.size
  r_lt : r < W.heap.size
  hs0 : W.cell? ⟨bs, 0, none⟩ = some (.pointer (some ⟨t0, 0, none⟩))
  hs1 : W.cell? ⟨bs, 1, none⟩ = some (.pointer (some ⟨t1, 0, none⟩))
  ht0 : W.cell? ⟨t0, 0, none⟩ = some (.iface 59 (.string s))
  ht1 : W.cell? ⟨t1, 0, none⟩ = some (.iface 59 (.string f))
  hr : W.cell? ⟨r, 0, none⟩ = some (.pointer none)
  hf : W.frozen? ⟨r, 0, none⟩ = false

theorem ops2_at (w : World) (s f : ByteArray) : Ops2 ((((w.alloc (.cells #[.iface 59 (.string s), .pointer none] 65)).alloc (.cells #[.iface 59 (.string f), .pointer none] 65)).alloc (.cells #[.pointer (some ⟨w.heap.size, 0, none⟩), .pointer (some ⟨w.heap.size + 1, 0, none⟩)] 46)).alloc (.cells #[.pointer none] 46)) s f (w.heap.size + 1 + 1) w.heap.size (w.heap.size + 1) (w.heap.size + 1 + 1 + 1) :=
  ⟨by simp, (by simp; try omega), (by simp; try omega), by simp, by go_simp, by go_simp, by go_simp, by go_simp, by go_simp, by go_simp⟩

theorem call2 (K : Nat) (s f s' : ByteArray) (w : World) (hK : ∀ args w, (callFunc K args).run Tryz.prog w = .ok (.enter K args) w)
    (hb : ∀ W bs t0 t1 r, Ops2 W s f bs t0 t1 r → Calls Tryz.prog K #[.agg #[.nilIface], .slice (some ⟨bs, 0, none⟩) 2 2, .func (.func 62) #[] #[.pointer (some ⟨r, 0, none⟩)]] W (BPost s' W ⟨r, 0, none⟩)) :
    Calls Tryz.prog 50 #[.func (.func K) #[] #[], .slice (some ⟨w.heap.size + 1 + 1, 0, none⟩) 2 2] (((w.alloc (.cells #[.iface 59 (.string s), .pointer none] 65)).alloc (.cells #[.iface 59 (.string f), .pointer none] 65)).alloc (.cells #[.pointer (some ⟨w.heap.size, 0, none⟩), .pointer (some ⟨w.heap.size + 1, 0, none⟩)] 46)) (fun e w' => ∃ p, e = .returned (.tuple #[.pointer (some p), .nilIface]) ∧ Below w.heap.size w w' ∧ w'.cell? p = some (.iface 59 (.string s'))) := by
  refine (call_any K _ s' _ hK ?_).mono ?_
  · simpa using hb _ _ _ _ _ (ops2_at w s f)
  rintro e w' ⟨p, he, hB, hp⟩
  exact ⟨p, he, ((((Below.refl _ w).alloc (Nat.le_refl _) _).alloc (by simp) _).alloc (by simp; omega) _).trans (hB.mono (by simp; omega)), hp⟩

set_option maxHeartbeats 1000000 in
theorem bTrimRight (s f : ByteArray) (hs : s.size ≤ 2147483647) (hf : f.size ≤ 2147483647) (W : World) (bs t0 t1 r : Nat) (h : Ops2 W s f bs t0 t1 r) :
    Calls Tryz.prog 54 #[.agg #[.nilIface], .slice (some ⟨bs, 0, none⟩) 2 2, .func (.func 62) #[] #[.pointer (some ⟨r, 0, none⟩)]] W (BPost ⟨(dropR (hasB f) s.data.toList).toArray⟩ W ⟨r, 0, none⟩) := by
  obtain ⟨hbs, hl0, hl1, hr', hs0, hs1, ht0, ht1, hr, hfr⟩ := h
  obtain ⟨R, hR⟩ : ∃ R, R = dropR (hasB f) s.data.toList := ⟨_, rfl⟩
  have hc := zzTrimRight_any s f (W.alloc (.cells #[.nilIface] 73)) hs hf
  rw [← hR] at hc ⊢
  have HC := Lib.hid hc
  have HH := Lib.hid (And.intro hr hfr)
  have HS := Lib.hid hs0
  have HT := Lib.hid ht0
  clear hr hfr hc hR
  go_enter Tryz.func54, Tryz.ntmps54
  go_wp2_with (go_at_call 63; refine (operand_any _ _ _).mono ?_; rintro e w' ⟨rfl, rfl⟩)
  refine HC.out.mono ?_
  rintro e W1 ⟨rfl, hB⟩
  have hB1 := below_alloc hB
  have HB1 := Lib.hid hB1
  have hr0 : (W1.cell? ⟨r, 0, none⟩).isSome = true := by rw [hB1.cell (p := ⟨r, 0, none⟩) hr', HH.out.1]; rfl
  have hf0 : W1.frozen? ⟨r, 0, none⟩ = false := by rw [hB1.frozen (p := ⟨r, 0, none⟩) hr', HH.out.2]
  obtain ⟨hr1, hf1⟩ := keep hB1 hr' HH.out.1 HH.out.2
  have hs2 : W1.cell? ⟨bs, 0, none⟩ = some (.pointer (some ⟨t0, 0, none⟩)) := by rw [hB1.cell (p := ⟨bs, 0, none⟩) hbs]; exact HS.out
  clear hB hB1 hs0 hs1 ht0 ht1
  by_cases hq : (⟨R.toArray⟩ : ByteArray) = s
  · have hq1 : (R == s.toList) = true := by rw [← hq, Lib.toList_data]; simp
    have HQ := Lib.hid hq
    clear hq
    go_wp2_with (go_at_call 62; refine (iter_any _ _ _ hr0 hf0).mono ?_; rintro e w' ⟨rfl, rfl⟩)
    go_ret
    rw [HQ.out]
    exact bpost_old HB1.out (by rw [HB1.out.cell (p := ⟨t0, 0, none⟩) hl0]; exact HT.out)
  · have hq1 : (R == s.toList) = false := by
      rw [beq_eq_false_iff_ne]; intro e; apply hq
      rw [Lib.toList_data] at e
      apply ByteArray.ext; apply Array.ext'; exact e
    clear hq
    go_wp2_with (first
      | (go_at_call 68; refine (interned_any _ _).mono ?_; rintro e w' ⟨rfl, rfl⟩)
      | (go_at_call 62; refine (iter_any _ _ _ (hr1 _) (hf1 _)).mono ?_; rintro e w' ⟨rfl, rfl⟩))
    go_ret
    exact bpost_new HB1.out

set_option maxHeartbeats 400000 in
theorem implTrimRight_any (s f : ByteArray) (w : World) (hs : s.size ≤ 2147483647) (hf : f.size ≤ 2147483647) :
    Calls Tryz.prog 18 #[.string s, .string f] w fun e w' => e = .returned (.tuple #[.string ⟨(dropR (hasB f) s.data.toList).toArray⟩, .bool true]) ∧ Below w.heap.size w w' := by
  have H := Lib.hid (call2 54 s f ⟨(dropR (hasB f) s.data.toList).toArray⟩ w (enters_of Tryz.func54 (by kernel_rfl) rfl) (bTrimRight s f hs hf))
  go_enter Tryz.func18, Tryz.ntmps18
  go_wp2_with (first
    | (go_at_call 35; refine (str_any _ _).mono ?_; rintro e w' ⟨rfl, rfl⟩)
    | (go_at_call 50; refine H.out.mono ?_; rintro e w' ⟨p, rfl, hB, hp⟩)
    | (go_at_call 33; refine (isString_any _ _ _ hp).mono ?_; rintro e w' ⟨rfl, rfl⟩)
    | go_in)
  go_ret2
  exact ⟨rfl, hB⟩

theorem sgnU (n : Nat) : sgn alphaU.data.toList n ≠ 61 := by
  have h : ∀ i : Fin 64, alphaU.data.toList.getD i.val 0 ≠ 61 := by decide +kernel
  unfold sgn; exact h ⟨n % 64, by omega⟩

theorem dropR_pads (p : UInt8 → Bool) (l : List UInt8) (k : Nat) (c : UInt8) (hc : p c = true) (h : ∀ x ∈ l, p x = false) : dropR p (l ++ List.replicate k c) = l := by
  unfold dropR
  rw [List.reverse_append, List.reverse_replicate, List.dropWhile_append]
  have e : (List.replicate k c).dropWhile p = [] := by
    induction k with
    | zero => rfl
    | succ k ih => rw [List.replicate_succ, List.dropWhile_cons, if_pos hc]; exact ih
  rw [e]
  simp only [List.isEmpty_nil, if_true]
  have e2 : l.reverse.dropWhile p = l.reverse := by
    cases hl : l.reverse with
    | nil => rfl
    | cons a r =>
      have : a ∈ l := by rw [← List.mem_reverse, hl]; simp
      rw [List.dropWhile_cons, if_neg (by rw [h a this]; simp)]
  rw [e2, List.reverse_reverse]

/-- The unpadded encoding is the padded one, cut. -/
theorem cut_pads (S : List UInt8) : dropR (hasB ⟨#[61]⟩) (encB alphaU.data.toList true S) = encB alphaU.data.toList false S := by
  obtain ⟨k, hk⟩ := encB_pads alphaU.data.toList S
  rw [hk]
  refine dropR_pads _ _ _ _ (by decide) fun x hx => ?_
  have := encB_no _ sgnU S x hx
  unfold hasB
  rw [Bool.eq_false_iff]; intro h
  rw [List.contains_iff_mem] at h
  simp at h; exact this h

theorem law5_big (s : ByteArray) (w : World) (h : 2147483647 < s.size) : Calls Tryz.prog 5 #[.string s] w fun e w' => e = .returned (.bool true) ∧ Below w.heap.size w w' := by
  go_enter Tryz.func5, Tryz.ntmps5
  go_wp2
  go_ret
  exact ⟨rfl, Below.refl _ _⟩

set_option maxHeartbeats 1000000 in
theorem law5_small (s : ByteArray) (w : World) (h : s.size ≤ 2147483647) : Calls Tryz.prog 5 #[.string s] w fun e w' => e = .returned (.bool true) ∧ Below w.heap.size w w' := by
  have HC : Hid (∀ i (h : i < [s].length), (w.alloc (.cells #[.string s] 9)).cell? ⟨w.heap.size, i, none⟩ = some (.string [s][i])) := Lib.hid (by
    intro i hi
    match i, hi with
    | 0, _ => simp)
  have HCUT := Lib.hid (cut_pads s.data.toList)
  go_enter Tryz.func5, Tryz.ntmps5
  go_wp2_with fail
  refine (ready_any [s] w.heap.size _ (by simp) (by simp) HC.out).mono ?_
  rintro e w1 ⟨r, rfl, hB, hr⟩
  have HB1 := Lib.hid (below_alloc hB)
  clear hB
  cases r with
  | false =>
    clear hr
    go_wp2
    go_ret
    exact ⟨rfl, HB1.out⟩
  | true =>
    have hs : s.size ≤ 1000 := hr rfl s (by simp)
    clear hr
    go_wp2_with fail
    refine (encodeRaw_any s hs w1).mono ?_
    rintro e w2 ⟨rfl, hB2⟩
    have HB2 := Lib.hid (below_next HB1.out hB2)
    clear hB2
    go_wp2_with (go_at_call 16; refine (of_true _ _).mono ?_; rintro e w' ⟨rfl, rfl⟩)
    refine (encodeURL_any s hs w2).mono ?_
    rintro e w3 ⟨rfl, hB3⟩
    have HB3 := Lib.hid (below_next HB2.out hB3)
    clear hB3
    have HT : Hid (Calls Tryz.prog 18 #[.string ⟨(encB alphaU.data.toList true s.data.toList).toArray⟩, .string ⟨#[61]⟩] w3 fun e w' => e = .returned (.tuple #[.string ⟨(encB alphaU.data.toList false s.data.toList).toArray⟩, .bool true]) ∧ Below w3.heap.size w3 w') := Lib.hid (by
      have h := implTrimRight_any ⟨(encB alphaU.data.toList true s.data.toList).toArray⟩ ⟨#[61]⟩ w3 (by
        have := encB_le alphaU.data.toList true s.data.toList
        rw [← Lib.size_eq] at this
        rw [size_mk]; omega) (by decide)
      have e : (⟨(encB alphaU.data.toList true s.data.toList).toArray⟩ : ByteArray).data.toList = encB alphaU.data.toList true s.data.toList := rfl
      rw [e, HCUT.out] at h
      exact h)
    go_wp2_with (go_at_call 16; refine (of_true _ _).mono ?_; rintro e w' ⟨rfl, rfl⟩)
    refine HT.out.mono ?_
    rintro e w4 ⟨rfl, hB4⟩
    have HB4 := Lib.hid (below_next HB3.out hB4)
    clear hB4
    go_wp2_with (first
      | (go_at_call 16; refine (of_true _ _).mono ?_; rintro e w' ⟨rfl, rfl⟩)
      | (go_at_call 10; refine (alive_any _).mono ?_; rintro e w' ⟨rfl, hB⟩))
    go_ret
    exact ⟨rfl, below_next HB4.out hB⟩

theorem law5_any (s : ByteArray) (w : World) : Calls Tryz.prog 5 #[.string s] w fun e w' => e = .returned (.bool true) ∧ Below w.heap.size w w' := by
  by_cases h1 : s.size ≤ 2147483647
  · exact law5_small s w h1
  · exact law5_big s w (by omega)

end Go.Proofs.YtinmmchjfifcgaaGreatDoor
