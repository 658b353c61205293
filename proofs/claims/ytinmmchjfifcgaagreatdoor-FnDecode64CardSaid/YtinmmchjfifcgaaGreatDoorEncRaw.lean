/- WithPadding and the unpadded encoder impl.EncodeNoPad, texts of at most 1000 bytes. -/
import Derived.Test.YtinmmchjfifcgaaGreatDoorEncUrl
namespace Go.Proofs.YtinmmchjfifcgaaGreatDoor
open Go.RowKit
set_option maxRecDepth 100000

theorem withPadding_any (E : Array Value) (v : Value) (w : World) (hE : E[320]? = some v) : Calls Tryz.prog 71 #[.agg E, .int .i32 (-1)] w fun e w' => e = .returned (.pointer (some ⟨w.heap.size, 0, none⟩)) ∧ Below w.heap.size w w' ∧ w'.heap[w.heap.size]? = some (.cells (E.setIfInBounds 320 (.int .i32 (-1))) 107 (0, 0)) := by
  have h1 : (w.alloc (.cells E 107)).cell? ⟨w.heap.size, 320, none⟩ = some v := by
    unfold World.cell?
    simp only [heap_alloc_new]
    exact hE
  clear hE
  go_enter Tryz.func71, Tryz.ntmps71
  go_wp2
  go_ret
  exact ⟨rfl, (Below.refl _ w).alloc (Nat.le_refl _) _, heap_alloc_new _ _⟩

theorem encL_pad (A : List UInt8) (h : A.length = 64) : (encL A 64 61).toArray[320]? = some (.int .i32 61) := by
  simp [encL, Lib.byteCells_length, h, dmR_length]
theorem encL_raw (A : List UInt8) (h : A.length = 64) : (encL A 64 61).toArray.setIfInBounds 320 (.int .i32 (-1)) = (encL A 64 (-1)).toArray := by
  apply Array.ext'
  simp [encL, Lib.byteCells_length, h, dmR_length]
theorem size322 : (Tryz.prog.info? 107).map (·.size) = some 322 := by kernel_rfl

theorem enc_after_raw (A : ByteArray) (hA : A.size = 64) (s : ByteArray) (hs : s.size ≤ 1000) (W0 W1 W2 : World) (v : Value) (hp : BytesPost s.data.toList W0 v W1) (eb : Nat) (he : W1.heap.size ≤ eb) (hB : Below W1.heap.size W1 W2) (hh : W2.heap[eb]? = some (.cells (encL A.data.toList 64 (-1)).toArray 107 (0, 0))) :
    Calls Tryz.prog 72 #[.pointer (some ⟨eb, 0, none⟩), v] W2 fun e w' => e = .returned (.string ⟨(encB A.data.toList false s.data.toList).toArray⟩) ∧ Below W0.heap.size W0 w' := by
  obtain ⟨b, c, rfl, hB1, hb, hc, hj⟩ := hp
  have h1 := hB1.size
  have h2 := lt_of_block hh
  have hl : s.data.toList.length = s.size := (Lib.size_eq s).symm
  refine (encToString_any A.data.toList (by rw [← Lib.size_eq]; exact hA) false (-1) (.inr ⟨rfl, rfl⟩) s.data.toList eb b c W2 h2 (by omega) hh (fun j h => by rw [hB.cell (p := ⟨b, j, none⟩) hb]; exact hj j h) (by omega) hc).mono ?_
  rintro e w' ⟨rfl, hB3⟩
  exact ⟨rfl, hB1.trans ((hB.mono h1).trans (hB3.mono (by omega)))⟩

set_option maxHeartbeats 1000000 in
theorem bEncRaw (s : ByteArray) (hs : s.size ≤ 1000) (W : World) (bs t r : Nat) (h : Ops1 W s bs t r) :
    Calls Tryz.prog 53 #[.agg #[.nilIface], .slice (some ⟨bs, 0, none⟩) 1 1, .func (.func 62) #[] #[.pointer (some ⟨r, 0, none⟩)]] W (BPost ⟨(encB alphaU.data.toList false s.data.toList).toArray⟩ W ⟨r, 0, none⟩) := by
  obtain ⟨hbs, ht', hr', hs0, ht, hr, hf⟩ := h
  have HH := Lib.hid (And.intro hr hf)
  clear hr hf
  go_enter Tryz.func53, Tryz.ntmps53
  go_wp2_with fail
  refine (operandBytes_any _ _ _).mono ?_
  rintro e W1 ⟨v, rfl, hp⟩
  have HP := Lib.hid hp
  clear hp
  go_wp2_with fail
  refine (urlEncoding_any _).mono ?_
  rintro e W2 ⟨rfl, hB2, hh2⟩
  have HB2 := Lib.hid hB2
  have HR : Hid (W2.rangeAt W1.heap.size 0 (encL alphaU.data.toList 64 61)) := Lib.hid (by
    intro j v hj
    unfold World.cell?
    simp only [hh2]
    simpa using hj)
  clear hB2 hh2
  obtain ⟨E, hE⟩ : ∃ E, E = encL alphaU.data.toList 64 61 := ⟨_, rfl⟩
  rw [← hE] at HR
  have hlen : E.length = 322 := by rw [hE]; exact encL_length _ _ _ (by rw [← Lib.size_eq]; exact alphaU_ok.size)
  have hpad : E.toArray[320]? = some (.int .i32 61) := by rw [hE]; exact encL_pad _ (by rw [← Lib.size_eq]; exact alphaU_ok.size)
  have hraw : E.toArray.setIfInBounds 320 (.int .i32 (-1)) = (encL alphaU.data.toList 64 (-1)).toArray := by rw [hE]; exact encL_raw _ (by rw [← Lib.size_eq]; exact alphaU_ok.size)
  have HC := Lib.hid (withPadding_any E.toArray (.int .i32 61) W2 hpad)
  rw [hraw] at HC
  have HL := Lib.hid hlen
  clear hlen hpad hraw hE
  have HS : Hid ((Tryz.prog.info? 107).map (·.size) = some E.length) := Lib.hid (by rw [HL.out]; exact size322)
  go_wp2_with (with_reducible refine wpList_load_mid rfl 107 (.tmp 24) rfl W1.heap.size 0 rfl E _ HR.out Tryz.underlying107 rfl HS.out ?_)
  refine HC.out.mono ?_
  rintro e W3 ⟨rfl, hB3, hh3⟩
  have h12 := HB2.out.size
  have HE := Lib.hid (enc_after_raw alphaU alphaU_ok.size s hs _ _ _ _ HP.out _ h12 (HB2.out.trans (hB3.mono h12)) hh3)
  clear hB3 hh3 h12
  go_wp2_with fail
  refine HE.out.mono ?_
  rintro e W4 ⟨rfl, hB⟩
  have hB1 := below_alloc hB
  have HB1 := Lib.hid hB1
  obtain ⟨hr1, hf1⟩ := keep hB1 hr' HH.out.1 HH.out.2
  clear hB hB1 hs0 ht
  go_wp2_with (first
    | (go_at_call 52; refine (stringTerm_any _ _).mono ?_; rintro e w' ⟨rfl, rfl⟩)
    | (go_at_call 62; refine (iter_any _ _ _ (hr1 _) (hf1 _)).mono ?_; rintro e w' ⟨rfl, rfl⟩))
  go_ret
  exact bpost_new HB1.out

set_option maxHeartbeats 400000 in
theorem encodeRaw_any (s : ByteArray) (hs : s.size ≤ 1000) (w : World) : Calls Tryz.prog 17 #[.string s] w fun e w' => e = .returned (.tuple #[.string ⟨(encB alphaU.data.toList false s.data.toList).toArray⟩, .bool true]) ∧ Below w.heap.size w w' := by
  have H := Lib.hid (call1 53 s ⟨(encB alphaU.data.toList false s.data.toList).toArray⟩ w (enters_of Tryz.func53 (by kernel_rfl) rfl) (bEncRaw s hs))
  go_enter Tryz.func17, Tryz.ntmps17
  go_wp2_with (first
    | (go_at_call 35; refine (str_any _ _).mono ?_; rintro e w' ⟨rfl, rfl⟩)
    | (go_at_call 50; refine H.out.mono ?_; rintro e w' ⟨p, rfl, hB, hp⟩)
    | (go_at_call 33; refine (isString_any _ _ _ hp).mono ?_; rintro e w' ⟨rfl, rfl⟩)
    | go_in)
  go_ret2
  exact ⟨rfl, hB⟩

end Go.Proofs.YtinmmchjfifcgaaGreatDoor
