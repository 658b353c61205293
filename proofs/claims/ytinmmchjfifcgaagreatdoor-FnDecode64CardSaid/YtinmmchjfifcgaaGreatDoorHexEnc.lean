/- impl.EncodeHex and spec.Hex: hexadecimal digits, texts of at most 1000 bytes. -/
import Derived.Test.YtinmmchjfifcgaaGreatDoorEncRaw
import Derived.Shelf.Hex.More
import Derived.Test.YtinmmchjfifcgaaGreatDoorTrim
import Derived.Deep.QuietTactic
import Derived.BigQuiet
import Derived.RegionTactic
namespace Go.Proofs.YtinmmchjfifcgaaGreatDoor
open Go.RowKit
set_option maxRecDepth 100000

theorem hex_after (s : ByteArray) (hs : s.size ≤ 1000) (W0 W1 : World) (v : Value) (hp : BytesPost s.data.toList W0 v W1) :
    Calls Tryz.prog 75 #[v] W1 fun e w' => e = .returned (.string ⟨(Lib.Hx.encode s.data.toList).toArray⟩) ∧ Below W0.heap.size W0 w' := by
  obtain ⟨b, c, rfl, hB1, hb, hc, hj⟩ := hp
  have h1 := hB1.size
  have hl : s.data.toList.length = s.size := (Lib.size_eq s).symm
  refine (Tryz.hex_EncodeToString_bytes b 0 c s.data.toList W1 (fun i h => by rw [Nat.zero_add]; exact hj i h) hb (by omega)).mono ?_
  rintro e w' ⟨rfl, hB3⟩
  exact ⟨rfl, hB1.trans (hB3.mono h1)⟩

set_option maxHeartbeats 1000000 in
theorem bHex (s : ByteArray) (hs : s.size ≤ 1000) (W : World) (bs t r : Nat) (h : Ops1 W s bs t r) :
    Calls Tryz.prog 57 #[.agg #[.nilIface], .slice (some ⟨bs, 0, none⟩) 1 1, .func (.func 62) #[] #[.pointer (some ⟨r, 0, none⟩)]] W (BPost ⟨(Lib.Hx.encode s.data.toList).toArray⟩ W ⟨r, 0, none⟩) := by
  obtain ⟨hbs, ht', hr', hs0, ht, hr, hf⟩ := h
  have HH := Lib.hid (And.intro hr hf)
  clear hr hf
  go_enter Tryz.func57, Tryz.ntmps57
  go_wp2_with fail
  refine (operandBytes_any _ _ _).mono ?_
  rintro e W1 ⟨v, rfl, hp⟩
  have HE := Lib.hid (hex_after s hs _ _ _ hp)
  clear hp
  go_wp2_with fail
  refine HE.out.mono ?_
  rintro e W3 ⟨rfl, hB⟩
  have hB1 := below_alloc hB
  have HB1 := Lib.hid hB1
  obtain ⟨hr1, hf1⟩ := keep hB1 hr' HH.out.1 HH.out.2
  clear hB hB1 hs0 ht
  go_wp2_with (first
    | (go_at_call 52; refine (stringTerm_any _ _).mono ?_; rintro e w' ⟨rfl, rfl⟩)
    | (go_at_call 62; refine (iter_any _ _ _ (hr1 _) (hf1 _)).mono ?_; rintro e w' ⟨rfl, rfl⟩))
  go_ret
  exact bpost_new HB1.out

set_option maxHeartbeats 400000 in
theorem encodeHex_any (s : ByteArray) (hs : s.size ≤ 1000) (w : World) : Calls Tryz.prog 21 #[.string s] w fun e w' => e = .returned (.tuple #[.string ⟨(Lib.Hx.encode s.data.toList).toArray⟩, .bool true]) ∧ Below w.heap.size w w' := by
  have H := Lib.hid (call1 57 s ⟨(Lib.Hx.encode s.data.toList).toArray⟩ w (enters_of Tryz.func57 (by kernel_rfl) rfl) (bHex s hs))
  go_enter Tryz.func21, Tryz.ntmps21
  go_wp2_with (first
    | (go_at_call 35; refine (str_any _ _).mono ?_; rintro e w' ⟨rfl, rfl⟩)
    | (go_at_call 50; refine H.out.mono ?_; rintro e w' ⟨p, rfl, hB, hp⟩)
    | (go_at_call 33; refine (isString_any _ _ _ hp).mono ?_; rintro e w' ⟨rfl, rfl⟩)
    | go_in)
  go_ret2
  exact ⟨rfl, hB⟩

theorem hex_one (a : Nat) (h : a < 16) : (⟨#[48, 49, 50, 51, 52, 53, 54, 55, 56, 57, 97, 98, 99, 100, 101, 102]⟩ : ByteArray).extract a (a + 1) = ⟨#[Lib.Hx.digit a]⟩ := by
  have h2 : ∀ i : Fin 16, (⟨#[48, 49, 50, 51, 52, 53, 54, 55, 56, 57, 97, 98, 99, 100, 101, 102]⟩ : ByteArray).extract i.val (i.val + 1) = ⟨#[Lib.Hx.digit i.val]⟩ := by decide +kernel
  exact h2 ⟨a, h⟩

theorem encode_take (l : List UInt8) (k : Nat) (h : k < l.length) : Lib.Hx.encode (l.take (k + 1)) = Lib.Hx.encode (l.take k) ++ [Lib.Hx.digit (l[k].toNat / 16), Lib.Hx.digit (l[k].toNat % 16)] := by
  rw [List.take_succ_eq_append_getElem h]; unfold Lib.Hx.encode; rw [List.flatMap_append]; rfl

set_option maxHeartbeats 1000000 in
theorem specHex_any (s : ByteArray) (w : World) (hs : s.size ≤ 1000) :
    Calls Tryz.prog 23 #[.string s] w fun e w' => e = .returned (.string ⟨(Lib.Hx.encode s.data.toList).toArray⟩) ∧ Below w.heap.size w w' := by
  go_enter Tryz.func23, Tryz.ntmps23
  go_wp2
  go_loopw [3, 4, 5, 6, 9] (fun o _ _ _ i wr => ∃ k : Nat, i = .int .i64 k ∧ k ≤ s.size ∧ o = .string ⟨(Lib.Hx.encode (s.data.toList.take k)).toArray⟩ ∧ Below w.heap.size w wr) (fun _ _ _ _ i _ => s.size - (intOf i).toNat)
  case atStart => exact ⟨0, rfl, Nat.zero_le _, rfl, Below.refl _ _⟩
  case round =>
    obtain ⟨k, rfl, hk, rfl, hB⟩ := hrel
    have HB := Lib.hid hB
    clear hB
    by_cases hlt : k < s.size
    · have hc := s[k].toNat_lt
      obtain ⟨a, ha⟩ : ∃ a, a = s[k].toNat / 16 := ⟨_, rfl⟩
      obtain ⟨b, hb⟩ : ∃ b, b = s[k].toNat % 16 := ⟨_, rfl⟩
      have ha1 : (s[k].toNat : Int) / 16 = (a : Int) := by omega
      have hb1 : (s[k].toNat : Int) % 16 = (b : Int) := by omega
      have ha2 : a < 16 := by omega
      have hb2 : b < 16 := by omega
      have HE := Lib.hid (encode_take s.data.toList k (by rw [← Lib.size_eq]; exact hlt))
      rw [← get_list s k hlt, ← ha, ← hb] at HE
      clear ha hb hc
      have hwa : IntKind.u8.wrap ((a : Int) + 1) = ((a + 1 : Nat) : Int) := by rw [IntKind.wrap_u8]; omega
      have hwb : IntKind.u8.wrap ((b : Int) + 1) = ((b + 1 : Nat) : Int) := by rw [IntKind.wrap_u8]; omega
      have q1 : (a : Int) + 1 ≤ 16 := by omega
      have q2 : (0 : Int) ≤ (a : Int) + 1 := by omega
      have q3 : (b : Int) + 1 ≤ 16 := by omega
      have q4 : (0 : Int) ≤ (b : Int) + 1 := by omega
      have q5 : (a : Int) ≤ (a : Int) + 1 := by omega
      have q6 : (b : Int) ≤ (b : Int) + 1 := by omega
      have he1 := hex_one a ha2
      have he2 := hex_one b hb2
      obtain ⟨O, hO⟩ : ∃ O, O = Lib.Hx.encode (s.data.toList.take k) := ⟨_, rfl⟩
      have hOs : (⟨O.toArray⟩ : ByteArray).size ≤ 2000 := by
        rw [size_mk, hO, Lib.Hx.encode_length, List.length_take]; omega
      rw [← hO] at HE ⊢
      clear hO
      have hss : ((⟨#[Lib.Hx.digit a]⟩ : ByteArray) ++ ⟨#[Lib.Hx.digit b]⟩) = ⟨#[Lib.Hx.digit a, Lib.Hx.digit b]⟩ := strV_app [Lib.Hx.digit a] [Lib.Hx.digit b]
      have hs2 : (⟨#[Lib.Hx.digit a, Lib.Hx.digit b]⟩ : ByteArray).size = 2 := rfl
      go_wp2
      go_quiet (fail)
      simp only [hb1]
      go_wp2
      go_quiet (fail)
      go_wp2
      go_roundw
      case rel => exact ⟨k + 1, by go_num, by omega, by rw [HE.out]; exact congrArg Value.string (strV_app O [Lib.Hx.digit a, Lib.Hx.digit b]), HB.out.trans ⟨rfl, rfl, rfl, Nat.le_refl _, fun _ _ => rfl⟩⟩
      case measure => simp [intOf]; omega
    · obtain rfl : k = s.size := by omega
      go_wp2
      go_ret
      refine ⟨?_, HB.out⟩
      show Ending.returned (.string ⟨(Lib.Hx.encode (s.data.toList.take s.size)).toArray⟩) = _
      rw [List.take_of_length_le (by rw [← Lib.size_eq]; exact Nat.le_refl _)]

end Go.Proofs.YtinmmchjfifcgaaGreatDoor
