/- Encoding.DecodeString of the standard encoding, at a text of at most 1000 bytes that holds no end of a line. -/
import Derived.Test.YtinmmchjfifcgaaGreatDoorDecode95
namespace Go.Proofs.YtinmmchjfifcgaaGreatDoor
open Go.RowKit
set_option maxRecDepth 100000

theorem decode_nil (eb db sb c : Nat) (w : World) : Calls Tryz.prog 95 #[.pointer (some ⟨eb, 0, none⟩), .slice (some ⟨db, 0, none⟩) 0 0, .slice (some ⟨sb, 0, none⟩) 0 c] w fun e w' => e = .returned (.tuple #[.int .i64 0, .nilIface]) ∧ w = w' := by
  go_enter Tryz.func95, Tryz.ntmps95
  go_wp2
  go_ret2
  exact ⟨rfl, rfl⟩

/-- No end of a line. -/
def NoNl (S : List UInt8) : Prop := ∀ j (h : j < S.length), ((S[j].toNat : Int) == 10) = false ∧ ((S[j].toNat : Int) == 13) = false
theorem noNl_of {s : ByteArray} (h1 : hasB s 10 = false) (h2 : hasB s 13 = false) : NoNl s.data.toList := by
  intro j hj
  have m := List.getElem_mem hj
  refine ⟨?_, ?_⟩
  · rw [beq_eq_false_iff_ne]
    intro e
    have e2 : s.data.toList[j] = 10 := UInt8.toNat_inj.1 (by show _ = 10; omega)
    unfold hasB at h1
    rw [List.contains_eq_mem, decide_eq_false_iff_not] at h1
    exact h1 (e2 ▸ m)
  · rw [beq_eq_false_iff_ne]
    intro e
    have e2 : s.data.toList[j] = 13 := UInt8.toNat_inj.1 (by show _ = 13; omega)
    unfold hasB at h2
    rw [List.contains_eq_mem, decide_eq_false_iff_not] at h2
    exact h2 (e2 ▸ m)

theorem Dst.of_row {db : Nat} {n : Nat} {w : World} (h : w.heap[db]? = some (.cells (List.replicate n (u8c 0)).toArray 5 (0, 0))) : Dst db (List.replicate n 0) w := by
  refine ⟨?_⟩
  rw [h]
  simp [Lib.byteCells, u8c]
theorem Dst.conv {db D : Nat} {X R : List UInt8} {w : World} (h : Dst db X w) (hR : X.take R.length = R) : Sem.run Tryz.prog (convert 56 9 (.slice (some ⟨db, 0, none⟩) R.length D)) w = .ok (.string ⟨R.toArray⟩) w := by
  have h := h.row
  refine run_convert_bytes_back (P := Tryz.prog) w 56 9 5 ⟨db, 0, none⟩ D R Tryz.underlying56 Tryz.underlying5 Tryz.underlying9 (Lib.bytes_of_row h ?_)
  show (Lib.byteCells X).take R.length = Lib.byteCells R
  rw [show Lib.byteCells X = X.map (fun b => Value.int .u8 (b.toNat : Int)) from rfl, ← List.map_take, hR]; rfl

/-- The string as a new slice of bytes, its block named. -/
theorem bytes_conv (s : ByteArray) (w : World) : ∃ c w', Sem.run Tryz.prog (convert 9 56 (.string s)) w = .ok (.slice (some ⟨w.heap.size, 0, none⟩) s.data.toList.length c) w' ∧ Below w.heap.size w w' ∧ w.heap.size < w'.heap.size ∧ s.data.toList.length ≤ c ∧ ∀ j (h : j < s.data.toList.length), w'.cell? ⟨w.heap.size, j, none⟩ = some (.int .u8 (s.data.toList[j].toNat : Int)) := by
  refine ⟨grownCap w s.size 0 5, Lib.bytesWorld w 5 s, by rw [← Lib.size_eq]; exact Lib.run_convert_string_bytes w 9 56 5 s Tryz.underlying9 Tryz.underlying56 Tryz.underlying5, ⟨rfl, rfl, rfl, by rw [Lib.bytesWorld_size]; omega, fun j hj => Lib.bytesWorld_at_old w 5 s j hj⟩, by rw [Lib.bytesWorld_size]; omega, by rw [← Lib.size_eq]; exact grownCap_ge w s.size 0 5, fun j hj => ?_⟩
  rw [Lib.bytesWorld_cell w 5 s j (by rw [Lib.size_eq]; exact hj), List.getD, List.getElem?_eq_getElem hj]; rfl

/-- What DecodeString leaves. -/
def DecStrPost (S : List UInt8) (w : World) (e : Ending) (w' : World) : Prop :=
  Below w.heap.size w w' ∧
  ((∃ (R : List UInt8) (v : Value), dec S = some R ∧ e = .returned (.tuple #[v, .nilIface]) ∧ Sem.run Tryz.prog (convert 56 9 v) w' = .ok (.string ⟨R.toArray⟩) w') ∨
   (dec S = none ∧ ∃ v1 v, e = .returned (.tuple #[v1, .iface 180 v])))

set_option maxHeartbeats 1000000 in
theorem decodeString_any (s : ByteArray) (eb : Nat) (w : World) (hE : EncIs alphaS.data.toList 61 eb w) (helt : eb < w.heap.size) (hs : s.size ≤ 1000) (hnl : NoNl s.data.toList) :
    Calls Tryz.prog 77 #[.pointer (some ⟨eb, 0, none⟩), .string s] w (DecStrPost s.data.toList w) := by
  have hsl := Lib.size_eq s
  obtain ⟨D, hD⟩ : ∃ D, D = s.size / 4 * 3 := ⟨_, rfl⟩
  obtain ⟨w1, hmk, hB1, hz1, hh1⟩ := make_bytes D w (by omega)
  obtain ⟨c, w2, hcv, hB2, hz2, hc2, hS2⟩ := bytes_conv s w1
  have HB := Lib.hid (hB1.trans (hB2.mono hB1.size))
  have HDL := Lib.hid (decLen_any eb s.size w (hE.pad rfl) (by omega))
  rw [← hD] at HDL
  have hd1 : Dst w.heap.size (List.replicate D 0) w1 := Dst.of_row hh1
  have hl1 := hd1.lt
  have hd2 : Dst w.heap.size (List.replicate D 0) w2 := hd1.below hB2
  have HDEC : Hid (Calls Tryz.prog 95 #[.pointer (some ⟨eb, 0, none⟩), .slice (some ⟨w.heap.size, 0, none⟩) D D, .slice (some ⟨w1.heap.size, 0, none⟩) s.data.toList.length c] w2 (DecodePost s.data.toList w.heap.size D w2)) := Lib.hid (by
    by_cases h0 : s.size = 0
    · have e : s.data.toList = [] := List.length_eq_zero_iff.1 (by rw [← hsl]; exact h0)
      have eD : D = 0 := by omega
      rw [e, eD]
      refine (decode_nil eb w.heap.size w1.heap.size c w2).mono ?_
      rintro e w' ⟨rfl, rfl⟩
      exact ⟨[], by rw [eD] at hd2; exact hd2, rfl, Oth.refl _ _ _, .inl ⟨[], rfl, Nat.le_refl _, rfl, rfl⟩⟩
    · have := decode_any eb w1.heap.size w.heap.size c s.data.toList (List.replicate D 0) w2
        { enc := (hE.below hB1 helt).below hB2 (by omega), elt := by omega, ene := by omega, slt := hz2, sne := by omega, dlt := by omega, src := hS2, nl := hnl, len := by omega, xl := by rw [List.length_replicate, hD, hsl] } hd2 (by omega) hc2
      rwa [List.length_replicate] at this)
  clear hE hnl hB1 hh1 hB2 hS2 hd1 hd2 hsl hD hz2 hc2
  have hmk' := hmk
  go_enter Tryz.func77, Tryz.ntmps77
  go_wp2_with fail
  refine HDL.out.mono ?_
  rintro e w' ⟨rfl, rfl⟩
  go_wp2_with fail
  refine HDEC.out.mono ?_
  rintro e w3 ⟨X', hX, hXl, hO, ⟨R, hR, hRl, rfl, ht⟩ | ⟨hR, n, v, hn, rfl⟩⟩
  · have HR := Lib.hid hR
    have HX := Lib.hid hX
    have HO := Lib.hid hO
    have HT := Lib.hid ht
    clear hR hX hO ht
    go_wp2
    go_ret2
    exact ⟨HB.out.trans ((HO.out.below HB.out.size)), .inl ⟨R, _, HR.out, rfl, HX.out.conv HT.out⟩⟩
  · have HR := Lib.hid hR
    have HO := Lib.hid hO
    clear hR hX hO
    go_wp2
    go_ret2
    exact ⟨HB.out.trans ((HO.out.below HB.out.size)), .inr ⟨HR.out, _, v, rfl⟩⟩

end Go.Proofs.YtinmmchjfifcgaaGreatDoor
