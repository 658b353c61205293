/- base64.decode and base64.is_valid as the thin package calls them: impl.Decode64 and impl.Valid64, at a text of at most 1000 bytes that holds no end of a line. -/
import Derived.Test.YtinmmchjfifcgaaGreatDoorDecString
import Derived.Test.YtinmmchjfifcgaaGreatDoorEncUrl
namespace Go.Proofs.YtinmmchjfifcgaaGreatDoor
open Go.RowKit
set_option maxRecDepth 100000

/-- One operand, as a block of facts behind it. -/
theorem std_then (s : ByteArray) (hs : s.size ≤ 1000) (hn : NoNl s.data.toList) (W W2 : World) (b : Nat) (hb : b = W.heap.size) (hB : Below W.heap.size W W2) (hh : W2.heap[W.heap.size]? = some (.cells (encL alphaS.data.toList 64 61).toArray 107 (0, 0))) :
    Calls Tryz.prog 77 #[.pointer (some ⟨b, 0, none⟩), .string s] W2 (fun e w' => Below W.heap.size W w' ∧ ((∃ (R : List UInt8) (v : Value), dec s.data.toList = some R ∧ e = .returned (.tuple #[v, .nilIface]) ∧ Sem.run Tryz.prog (convert 56 9 v) w' = .ok (.string ⟨R.toArray⟩) w') ∨ (dec s.data.toList = none ∧ ∃ v1 v, e = .returned (.tuple #[v1, .iface 180 v])))) := by
  subst hb
  refine (decodeString_any s W.heap.size W2 hh (lt_of_block hh) hs hn).mono ?_
  rintro e w' ⟨h1, h2⟩
  exact ⟨hB.trans (h1.mono hB.size), h2⟩

set_option maxHeartbeats 1000000 in
theorem bDecYes (s : ByteArray) (hs : s.size ≤ 1000) (hn : NoNl s.data.toList) (R : List UInt8) (hR : dec s.data.toList = some R) (W : World) (bs t r : Nat) (h : Ops1 W s bs t r) :
    Calls Tryz.prog 59 #[.agg #[.nilIface], .slice (some ⟨bs, 0, none⟩) 1 1, .func (.func 62) #[] #[.pointer (some ⟨r, 0, none⟩)]] W (BPost ⟨R.toArray⟩ W ⟨r, 0, none⟩) := by
  obtain ⟨hbs, ht', hr', hs0, ht, hr, hf⟩ := h
  have HH := Lib.hid (And.intro hr hf)
  have HR := Lib.hid hR
  clear hr hf hR
  go_enter Tryz.func59, Tryz.ntmps59
  go_wp2_with fail
  refine (operand_any _ _ _).mono ?_
  rintro e w' ⟨rfl, rfl⟩
  go_wp2_with fail
  refine (stdEncoding_any _).mono ?_
  rintro e W2 ⟨rfl, hB2, hh2⟩
  have HE := Lib.hid (std_then s hs hn _ _ (W.heap.size + 1) (by simp) hB2 hh2)
  clear hB2 hh2
  go_wp2_with fail
  refine HE.out.mono ?_
  rintro e W3 ⟨hB, ⟨R2, v, hR2, rfl, hcv⟩ | ⟨hN, _⟩⟩
  · obtain rfl : R2 = R := Option.some.inj (hR2.symm.trans HR.out)
    have hB1 := below_alloc hB
    have HB1 := Lib.hid hB1
    obtain ⟨hr1, hf1⟩ := keep hB1 hr' HH.out.1 HH.out.2
    clear hB hB1 hs0 ht hR2
    go_wp2_with (first
      | (go_at_call 68; refine (interned_any _ _).mono ?_; rintro e w' ⟨rfl, rfl⟩)
      | (go_at_call 62; refine (iter_any _ _ _ (hr1 _) (hf1 _)).mono ?_; rintro e w' ⟨rfl, rfl⟩))
    go_ret
    exact bpost_new HB1.out
  · rw [HR.out] at hN; cases hN

set_option maxHeartbeats 1000000 in
theorem bDecNo (s : ByteArray) (hs : s.size ≤ 1000) (hn : NoNl s.data.toList) (hR : dec s.data.toList = none) (W : World) (bs t r : Nat) (h : Ops1 W s bs t r) :
    Calls Tryz.prog 59 #[.agg #[.nilIface], .slice (some ⟨bs, 0, none⟩) 1 1, .func (.func 62) #[] #[.pointer (some ⟨r, 0, none⟩)]] W (EPost W) := by
  obtain ⟨hbs, ht', hr', hs0, ht, hr, hf⟩ := h
  have HR := Lib.hid hR
  clear hr hf hR
  go_enter Tryz.func59, Tryz.ntmps59
  go_wp2_with fail
  refine (operand_any _ _ _).mono ?_
  rintro e w' ⟨rfl, rfl⟩
  go_wp2_with fail
  refine (stdEncoding_any _).mono ?_
  rintro e W2 ⟨rfl, hB2, hh2⟩
  have HE := Lib.hid (std_then s hs hn _ _ (W.heap.size + 1) (by simp) hB2 hh2)
  clear hB2 hh2
  go_wp2_with fail
  refine HE.out.mono ?_
  rintro e W3 ⟨hB, ⟨R2, v, hR2, _, _⟩ | ⟨_, v1, v, rfl⟩⟩
  · rw [HR.out] at hR2; cases hR2
  · have HB1 := Lib.hid (below_alloc hB)
    clear hB hs0 ht
    go_wp2
    go_ret
    exact ⟨v, rfl, HB1.out⟩

/-- What a builtin leaves that hands over a truth value. -/
theorem vpost_bool {b : Bool} {W W1 : World} {r : Nat} (hB : Below W.heap.size W W1) :
    VPost (.iface 69 (.bool b)) W ⟨r, 0, none⟩ (.returned .nilIface) ((W1.alloc (.cells #[.iface 69 (.bool b), .pointer none] 65)).setCell ⟨r, 0, none⟩ (.pointer (some ⟨W1.heap.size, 0, none⟩))) :=
  ⟨rfl, _, _, hB.alloc (hB.size) _, rfl, by simp⟩

set_option maxHeartbeats 1000000 in
theorem bValid (s : ByteArray) (hs : s.size ≤ 1000) (hn : NoNl s.data.toList) (W : World) (bs t r : Nat) (h : Ops1 W s bs t r) :
    Calls Tryz.prog 60 #[.agg #[.nilIface], .slice (some ⟨bs, 0, none⟩) 1 1, .func (.func 62) #[] #[.pointer (some ⟨r, 0, none⟩)]] W (VPost (.iface 69 (.bool (dec s.data.toList).isSome)) W ⟨r, 0, none⟩) := by
  obtain ⟨hbs, ht', hr', hs0, ht, hr, hf⟩ := h
  have HH := Lib.hid (And.intro hr hf)
  clear hr hf
  go_enter Tryz.func60, Tryz.ntmps60
  go_wp2_with fail
  refine (operand_any _ _ _).mono ?_
  rintro e w' ⟨rfl, rfl⟩
  go_wp2_with fail
  refine (stdEncoding_any _).mono ?_
  rintro e W2 ⟨rfl, hB2, hh2⟩
  have HE := Lib.hid (std_then s hs hn _ _ (W.heap.size + 1) (by simp) hB2 hh2)
  clear hB2 hh2
  go_wp2_with fail
  refine HE.out.mono ?_
  rintro e W3 ⟨hB, ⟨R2, v, hR2, rfl, hcv⟩ | ⟨hR2, v1, v, rfl⟩⟩
  · have hB1 := below_alloc hB
    have HB1 := Lib.hid hB1
    have HR := Lib.hid hR2
    obtain ⟨hr1, hf1⟩ := keep hB1 hr' HH.out.1 HH.out.2
    clear hB hB1 hs0 ht hR2 hcv
    go_wp2_with (first
      | (go_at_call 78; refine (internedBool_any _ _).mono ?_; rintro e w' ⟨rfl, rfl⟩)
      | (go_at_call 62; refine (iter_any _ _ _ (hr1 _) (hf1 _)).mono ?_; rintro e w' ⟨rfl, rfl⟩))
    go_ret
    rw [HR.out]
    exact vpost_bool HB1.out
  · have hB1 := below_alloc hB
    have HB1 := Lib.hid hB1
    have HR := Lib.hid hR2
    obtain ⟨hr1, hf1⟩ := keep hB1 hr' HH.out.1 HH.out.2
    clear hB hB1 hs0 ht hR2
    go_wp2_with (first
      | (go_at_call 78; refine (internedBool_any _ _).mono ?_; rintro e w' ⟨rfl, rfl⟩)
      | (go_at_call 62; refine (iter_any _ _ _ (hr1 _) (hf1 _)).mono ?_; rintro e w' ⟨rfl, rfl⟩))
    go_ret
    rw [HR.out]
    exact vpost_bool HB1.out

theorem callE1 (K : Nat) (s : ByteArray) (w : World) (hK : ∀ args w, (callFunc K args).run Tryz.prog w = .ok (.enter K args) w)
    (hb : ∀ W bs t r, Ops1 W s bs t r → Calls Tryz.prog K #[.agg #[.nilIface], .slice (some ⟨bs, 0, none⟩) 1 1, .func (.func 62) #[] #[.pointer (some ⟨r, 0, none⟩)]] W (EPost W)) :
    Calls Tryz.prog 50 #[.func (.func K) #[] #[], .slice (some ⟨w.heap.size + 1, 0, none⟩) 1 1] ((w.alloc (.cells #[.iface 59 (.string s), .pointer none] 65)).alloc (.cells #[.pointer (some ⟨w.heap.size, 0, none⟩)] 46)) (fun e w' => ∃ v, e = .returned (.tuple #[.pointer none, .iface 180 v]) ∧ Below w.heap.size w w') := by
  refine (callE_any K _ _ hK ?_).mono ?_
  · simpa using hb _ _ _ _ (ops1_at w s)
  rintro e w' ⟨v, he, hB⟩
  exact ⟨v, he, (((Below.refl _ w).alloc (Nat.le_refl _) _).alloc (by simp) _).trans (hB.mono (by simp; omega))⟩
theorem callV1 (K : Nat) (s : ByteArray) (tv : Value) (htv : tv ≠ .pointer none) (w : World) (hK : ∀ args w, (callFunc K args).run Tryz.prog w = .ok (.enter K args) w)
    (hb : ∀ W bs t r, Ops1 W s bs t r → Calls Tryz.prog K #[.agg #[.nilIface], .slice (some ⟨bs, 0, none⟩) 1 1, .func (.func 62) #[] #[.pointer (some ⟨r, 0, none⟩)]] W (VPost tv W ⟨r, 0, none⟩)) :
    Calls Tryz.prog 50 #[.func (.func K) #[] #[], .slice (some ⟨w.heap.size + 1, 0, none⟩) 1 1] ((w.alloc (.cells #[.iface 59 (.string s), .pointer none] 65)).alloc (.cells #[.pointer (some ⟨w.heap.size, 0, none⟩)] 46)) (fun e w' => ∃ p, e = .returned (.tuple #[.pointer (some p), .nilIface]) ∧ Below w.heap.size w w' ∧ w'.cell? p = some tv) := by
  refine (callV_any K _ tv htv _ hK ?_).mono ?_
  · simpa using hb _ _ _ _ (ops1_at w s)
  rintro e w' ⟨p, he, hB, hp⟩
  exact ⟨p, he, (((Below.refl _ w).alloc (Nat.le_refl _) _).alloc (by simp) _).trans (hB.mono (by simp; omega)), hp⟩

set_option maxHeartbeats 400000 in
theorem decode64_yes (s : ByteArray) (hs : s.size ≤ 1000) (hn : NoNl s.data.toList) (R : List UInt8) (hR : dec s.data.toList = some R) (w : World) : Calls Tryz.prog 29 #[.string s] w fun e w' => e = .returned (.tuple #[.string ⟨R.toArray⟩, .bool true]) ∧ Below w.heap.size w w' := by
  have H := Lib.hid (call1 59 s ⟨R.toArray⟩ w (enters_of Tryz.func59 (by kernel_rfl) rfl) (bDecYes s hs hn R hR))
  clear hn hR
  go_enter Tryz.func29, Tryz.ntmps29
  go_wp2_with (first
    | (go_at_call 35; refine (str_any _ _).mono ?_; rintro e w' ⟨rfl, rfl⟩)
    | (go_at_call 50; refine H.out.mono ?_; rintro e w' ⟨p, rfl, hB, hp⟩)
    | (go_at_call 33; refine (isString_any _ _ _ hp).mono ?_; rintro e w' ⟨rfl, rfl⟩)
    | go_in)
  go_ret2
  exact ⟨rfl, hB⟩

set_option maxHeartbeats 400000 in
theorem decode64_no (s : ByteArray) (hs : s.size ≤ 1000) (hn : NoNl s.data.toList) (hR : dec s.data.toList = none) (w : World) : Calls Tryz.prog 29 #[.string s] w fun e w' => e = .returned (.tuple #[.string ⟨#[]⟩, .bool false]) ∧ Below w.heap.size w w' := by
  have H := Lib.hid (callE1 59 s w (enters_of Tryz.func59 (by kernel_rfl) rfl) (bDecNo s hs hn hR))
  clear hn hR
  go_enter Tryz.func29, Tryz.ntmps29
  go_wp2_with (first
    | (go_at_call 35; refine (str_any _ _).mono ?_; rintro e w' ⟨rfl, rfl⟩)
    | (go_at_call 50; refine H.out.mono ?_; rintro e w' ⟨v, rfl, hB⟩)
    | (go_at_call 33; refine (isString_err _ _).mono ?_; rintro e w' ⟨rfl, rfl⟩)
    | go_in)
  go_ret2
  exact ⟨rfl, hB⟩

set_option maxHeartbeats 400000 in
theorem valid64_any (s : ByteArray) (hs : s.size ≤ 1000) (hn : NoNl s.data.toList) (w : World) : Calls Tryz.prog 30 #[.string s] w fun e w' => e = .returned (.tuple #[.bool (dec s.data.toList).isSome, .bool true]) ∧ Below w.heap.size w w' := by
  have H := Lib.hid (callV1 60 s (.iface 69 (.bool (dec s.data.toList).isSome)) (by intro h; cases h) w (enters_of Tryz.func60 (by kernel_rfl) rfl) (bValid s hs hn))
  clear hn
  generalize (dec s.data.toList).isSome = b at H ⊢
  go_enter Tryz.func30, Tryz.ntmps30
  go_wp2_with (first
    | (go_at_call 35; refine (str_any _ _).mono ?_; rintro e w' ⟨rfl, rfl⟩)
    | (go_at_call 50; refine H.out.mono ?_; rintro e w' ⟨p, rfl, hB, hp⟩)
    | (go_at_call 46; refine (isTrue_any _ _ _ hp).mono ?_; rintro e w' ⟨rfl, rfl⟩)
    | go_in)
  go_ret2
  exact ⟨rfl, hB⟩

end Go.Proofs.YtinmmchjfifcgaaGreatDoor
