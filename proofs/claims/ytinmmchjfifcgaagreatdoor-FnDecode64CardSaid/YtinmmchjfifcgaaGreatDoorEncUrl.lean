/- The two padded base64 encoders: impl.EncodeURL and impl.Encode, texts of at most 1000 bytes. -/
import Derived.Test.YtinmmchjfifcgaaGreatDoorEncString
import Derived.Test.YtinmmchjfifcgaaGreatDoorWalkReplace
namespace Go.Proofs.YtinmmchjfifcgaaGreatDoor
open Go.RowKit
set_option maxRecDepth 100000

theorem stringTerm_any (s : ByteArray) (w : World) :
    Calls Tryz.prog 52 #[.string s] w fun e w' => e = .returned (.pointer (some ⟨w.heap.size, 0, none⟩)) ∧ w.alloc (.cells #[.iface 59 (.string s), .pointer none] 65) = w' := by
  go_enter Tryz.func52, Tryz.ntmps52
  go_wp2
  go_ret
  exact ⟨rfl, rfl⟩

/-- Bytes and an Encoding, ready for EncodeToString. -/
theorem enc_after (A : ByteArray) (hA : A.size = 64) (s : ByteArray) (hs : s.size ≤ 1000) (W0 W1 W2 : World) (v : Value) (hp : BytesPost s.data.toList W0 v W1) (hB : Below W1.heap.size W1 W2) (hh : W2.heap[W1.heap.size]? = some (.cells (encL A.data.toList 64 61).toArray 107 (0, 0))) :
    Calls Tryz.prog 72 #[.pointer (some ⟨W1.heap.size, 0, none⟩), v] W2 fun e w' => e = .returned (.string ⟨(encB A.data.toList true s.data.toList).toArray⟩) ∧ Below W0.heap.size W0 w' := by
  obtain ⟨b, c, rfl, hB1, hb, hc, hj⟩ := hp
  have h1 := hB1.size
  have h2 := lt_of_block hh
  have hl : s.data.toList.length = s.size := (Lib.size_eq s).symm
  refine (encToString_any A.data.toList (by rw [← Lib.size_eq]; exact hA) true 61 (.inl ⟨rfl, rfl⟩) s.data.toList W1.heap.size b c W2 h2 (by omega) hh (fun j h => by rw [hB.cell (p := ⟨b, j, none⟩) hb]; exact hj j h) (by omega) hc).mono ?_
  rintro e w' ⟨rfl, hB3⟩
  exact ⟨rfl, hB1.trans ((hB.mono h1).trans (hB3.mono (by omega)))⟩

set_option maxHeartbeats 1000000 in
theorem bEncUrl (s : ByteArray) (hs : s.size ≤ 1000) (W : World) (bs t r : Nat) (h : Ops1 W s bs t r) :
    Calls Tryz.prog 55 #[.agg #[.nilIface], .slice (some ⟨bs, 0, none⟩) 1 1, .func (.func 62) #[] #[.pointer (some ⟨r, 0, none⟩)]] W (BPost ⟨(encB alphaU.data.toList true s.data.toList).toArray⟩ W ⟨r, 0, none⟩) := by
  obtain ⟨hbs, ht', hr', hs0, ht, hr, hf⟩ := h
  have HH := Lib.hid (And.intro hr hf)
  clear hr hf
  go_enter Tryz.func55, Tryz.ntmps55
  go_wp2_with fail
  refine (operandBytes_any _ _ _).mono ?_
  rintro e W1 ⟨v, rfl, hp⟩
  have HP := Lib.hid hp
  clear hp
  go_wp2_with fail
  refine (urlEncoding_any _).mono ?_
  rintro e W2 ⟨rfl, hB2, hh2⟩
  have HE := Lib.hid (enc_after alphaU alphaU_ok.size s hs _ _ _ _ HP.out hB2 hh2)
  clear hB2 hh2
  go_wp2_with fail
  refine HE.out.mono ?_
  rintro e W3 ⟨rfl, hB⟩
  have hB1 := below_alloc hB
  have HB1 := Lib.hid hB1
  obtain ⟨hr1, hf1⟩ := keep hB1 hr' HH.out.1 HH.out.2
  clear hB hB1 hs0 ht
  go_wp2_with (first
    | (go_at_call 52; refine (stringTerm_any _ _).mono ?_; rintro e w' ⟨rfl, rfl⟩)
    | (go_at_call 62; refine (iter_any _ _ _ (hr1 _) (hf1 _)).mono ?_; rintro e w' ⟨rfl, rfl⟩))
  go_ret
  exact bpost_new HB1.out

set_option maxHeartbeats 1000000 in
theorem bEncStd (s : ByteArray) (hs : s.size ≤ 1000) (W : World) (bs t r : Nat) (h : Ops1 W s bs t r) :
    Calls Tryz.prog 56 #[.agg #[.nilIface], .slice (some ⟨bs, 0, none⟩) 1 1, .func (.func 62) #[] #[.pointer (some ⟨r, 0, none⟩)]] W (BPost ⟨(encB alphaS.data.toList true s.data.toList).toArray⟩ W ⟨r, 0, none⟩) := by
  obtain ⟨hbs, ht', hr', hs0, ht, hr, hf⟩ := h
  have HH := Lib.hid (And.intro hr hf)
  clear hr hf
  go_enter Tryz.func56, Tryz.ntmps56
  go_wp2_with fail
  refine (operandBytes_any _ _ _).mono ?_
  rintro e W1 ⟨v, rfl, hp⟩
  have HP := Lib.hid hp
  clear hp
  go_wp2_with fail
  refine (stdEncoding_any _).mono ?_
  rintro e W2 ⟨rfl, hB2, hh2⟩
  have HE := Lib.hid (enc_after alphaS alphaS_ok.size s hs _ _ _ _ HP.out hB2 hh2)
  clear hB2 hh2
  go_wp2_with fail
  refine HE.out.mono ?_
  rintro e W3 ⟨rfl, hB⟩
  have hB1 := below_alloc hB
  have HB1 := Lib.hid hB1
  obtain ⟨hr1, hf1⟩ := keep hB1 hr' HH.out.1 HH.out.2
  clear hB hB1 hs0 ht
  go_wp2_with (first
    | (go_at_call 52; refine (stringTerm_any _ _).mono ?_; rintro e w' ⟨rfl, rfl⟩)
    | (go_at_call 62; refine (iter_any _ _ _ (hr1 _) (hf1 _)).mono ?_; rintro e w' ⟨rfl, rfl⟩))
  go_ret
  exact bpost_new HB1.out

set_option maxHeartbeats 400000 in
theorem encodeURL_any (s : ByteArray) (hs : s.size ≤ 1000) (w : World) : Calls Tryz.prog 19 #[.string s] w fun e w' => e = .returned (.tuple #[.string ⟨(encB alphaU.data.toList true s.data.toList).toArray⟩, .bool true]) ∧ Below w.heap.size w w' := by
  have H := Lib.hid (call1 55 s ⟨(encB alphaU.data.toList true s.data.toList).toArray⟩ w (enters_of Tryz.func55 (by kernel_rfl) rfl) (bEncUrl s hs))
  go_enter Tryz.func19, Tryz.ntmps19
  go_wp2_with (first
    | (go_at_call 35; refine (str_any _ _).mono ?_; rintro e w' ⟨rfl, rfl⟩)
    | (go_at_call 50; refine H.out.mono ?_; rintro e w' ⟨p, rfl, hB, hp⟩)
    | (go_at_call 33; refine (isString_any _ _ _ hp).mono ?_; rintro e w' ⟨rfl, rfl⟩)
    | go_in)
  go_ret2
  exact ⟨rfl, hB⟩

set_option maxHeartbeats 400000 in
theorem encodeStd_any (s : ByteArray) (hs : s.size ≤ 1000) (w : World) : Calls Tryz.prog 20 #[.string s] w fun e w' => e = .returned (.tuple #[.string ⟨(encB alphaS.data.toList true s.data.toList).toArray⟩, .bool true]) ∧ Below w.heap.size w w' := by
  have H := Lib.hid (call1 56 s ⟨(encB alphaS.data.toList true s.data.toList).toArray⟩ w (enters_of Tryz.func56 (by kernel_rfl) rfl) (bEncStd s hs))
  go_enter Tryz.func20, Tryz.ntmps20
  go_wp2_with (first
    | (go_at_call 35; refine (str_any _ _).mono ?_; rintro e w' ⟨rfl, rfl⟩)
    | (go_at_call 50; refine H.out.mono ?_; rintro e w' ⟨p, rfl, hB, hp⟩)
    | (go_at_call 33; refine (isString_any _ _ _ hp).mono ?_; rintro e w' ⟨rfl, rfl⟩)
    | go_in)
  go_ret2
  exact ⟨rfl, hB⟩

end Go.Proofs.YtinmmchjfifcgaaGreatDoor
