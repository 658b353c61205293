/- Bytes of a string, the encoded length, and Encoding.EncodeToString: what each returns. -/
import Derived.Test.YtinmmchjfifcgaaGreatDoorEncode64
import Derived.Lib.ConvBytes
import Derived.Lib.BufferRead
import Derived.Laws.OwnMore
namespace Go.Proofs.YtinmmchjfifcgaaGreatDoor
open Go.RowKit
set_option maxRecDepth 100000

/-- A new slice of bytes that holds S. -/
def BytesPost (S : List UInt8) (w : World) (v : Value) (w' : World) : Prop := ∃ b c, v = .slice (some ⟨b, 0, none⟩) S.length c ∧ Below w.heap.size w w' ∧ b < w'.heap.size ∧ S.length ≤ c ∧ ∀ j (h : j < S.length), w'.cell? ⟨b, j, none⟩ = some (.int .u8 (S[j].toNat : Int))

theorem bytes_convert (s : ByteArray) (w : World) : ∃ v w', Sem.run Tryz.prog (convert 9 56 (.string s)) w = .ok v w' ∧ BytesPost s.data.toList w v w' := by
  refine ⟨_, _, Lib.run_convert_string_bytes w 9 56 5 s Tryz.underlying9 Tryz.underlying56 Tryz.underlying5, w.heap.size, _, by rw [Lib.size_eq], ⟨rfl, rfl, rfl, by rw [Lib.bytesWorld_size]; omega, fun j hj => Lib.bytesWorld_at_old w 5 s j hj⟩, by rw [Lib.bytesWorld_size]; omega, by rw [← Lib.size_eq]; exact grownCap_ge w s.size 0 5, fun j hj => ?_⟩
  rw [Lib.bytesWorld_cell w 5 s j (by rw [Lib.size_eq]; exact hj), List.getD, List.getElem?_eq_getElem hj]; rfl

def BytesRet (S : List UInt8) (w : World) (e : Ending) (w' : World) : Prop := ∃ v, e = .returned v ∧ BytesPost S w v w'

theorem toBytes_any (s : ByteArray) (w : World) : Calls Tryz.prog 85 #[.string s] w (BytesRet s.data.toList w) := by
  by_cases h0 : s.size = 0
  · have e : s.data.toList = [] := List.length_eq_zero_iff.1 (by rw [← Lib.size_eq]; exact h0)
    have h1 : ((s.size : Int) == 0) = true := by rw [h0]; rfl
    have HE := Lib.hid e
    clear h0 e
    go_enter Tryz.func85, Tryz.ntmps85
    go_wp2
    go_ret
    refine ⟨_, rfl, ?_⟩
    rw [HE.out]
    exact ⟨w.heap.size, 0, rfl, (Below.refl _ w).alloc (Nat.le_refl _) _, by simp, Nat.le_refl _, fun j hj => by simp at hj⟩
  · have h1 : ((s.size : Int) == 0) = false := by rw [beq_eq_false_iff_ne]; omega
    obtain ⟨v, w1, hr, hp⟩ := bytes_convert s w
    have HP := Lib.hid hp
    clear h0 hp
    go_enter Tryz.func85, Tryz.ntmps85
    go_wp2
    go_ret
    exact ⟨v, rfl, HP.out⟩

def BytesRet2 (S : List UInt8) (w : World) (e : Ending) (w' : World) : Prop := ∃ v, e = .returned (.tuple #[v, .nilIface]) ∧ BytesPost S w v w'

theorem operandBytes_any (s : ByteArray) (k : Int) (w : World) : Calls Tryz.prog 69 #[.iface 59 (.string s), .int .i64 k] w (BytesRet2 s.data.toList w) := by
  go_enter Tryz.func69, Tryz.ntmps69
  go_wp2_with (first
    | (go_at_call 63; refine (operand_any _ _ _).mono ?_; rintro e w' ⟨rfl, rfl⟩)
    | (go_at_call 85; refine (toBytes_any _ _).mono ?_; rintro e w' ⟨v, rfl, hp⟩))
  go_ret2
  exact ⟨v, rfl, hp⟩

theorem encLen_pad (eb n : Nat) (w : World) (h : w.cell? ⟨eb, 320, none⟩ = some (.int .i32 61)) (hn : n ≤ 1000000) : Calls Tryz.prog 87 #[.pointer (some ⟨eb, 0, none⟩), .int .i64 (n : Int)] w fun e w' => e = .returned (.int .i64 (((n + 2) / 3 * 4 : Nat) : Int)) ∧ w = w' := by
  go_enter Tryz.func87, Tryz.ntmps87
  go_wp2
  go_ret
  exact ⟨by simp, rfl⟩
theorem encLen_raw (eb n : Nat) (w : World) (h : w.cell? ⟨eb, 320, none⟩ = some (.int .i32 (-1))) (hn : n ≤ 1000000) : Calls Tryz.prog 87 #[.pointer (some ⟨eb, 0, none⟩), .int .i64 (n : Int)] w fun e w' => e = .returned (.int .i64 ((n / 3 * 4 + (n % 3 * 8 + 5) / 6 : Nat) : Int)) ∧ w = w' := by
  go_enter Tryz.func87, Tryz.ntmps87
  go_wp2
  go_ret
  exact ⟨by simp, rfl⟩

theorem make_bytes (n : Nat) (w : World) (hn : n ≤ 10000000) : ∃ w1, Sem.run Tryz.prog (Instr.makeSlice 56 (.int .i64 (n : Int)) (.int .i64 (n : Int))) w = .ok (.slice (some ⟨w.heap.size, 0, none⟩) n n) w1 ∧
    Below w.heap.size w w1 ∧ w.heap.size < w1.heap.size ∧ w1.heap[w.heap.size]? = some (.cells (List.replicate n (u8c 0)).toArray 5 (0, 0)) := by
  obtain ⟨i0, hi, hz0, hz1, hz2⟩ := info_parts (show (Tryz.prog.info? 5).map (fun i => (i.zero, i.size, i.bytes)) = some (some (.int .u8 0), 1, 1) from by kernel_rfl)
  obtain ⟨w1, hr, hown, hg⟩ := run_make_full (P := Tryz.prog) w w.heap.size 56 5 i0 (.int .u8 0) 1 Tryz.underlying56 hi hz0 hz1 .i64 .i64 n (by rw [hz2]; omega) (by unfold maxLen; omega) (Nat.le_refl _)
  refine ⟨w1, hr, (Below.refl _ w).grown hg (Nat.le_refl _) (fun k hk => by cases hk), (hown.lt _ rfl).2, ?_⟩
  rcases hown.2 with ⟨h, _⟩ | ⟨g, cap, cur, hv, _, hh, _, _, hs, ht⟩
  · cases h
  · simp only [Value.slice.injEq, Option.some.injEq, Addr.mk.injEq] at hv
    obtain ⟨⟨rfl, _⟩, _, rfl⟩ := hv
    rw [hh]
    congr 2
    apply Array.ext'
    rw [List.take_of_length_le (by simp [hs])] at ht
    rw [ht]
    simp only [Nat.mul_one]
    exact toList_madeCells_one _ _

/-- The encoded length, as EncodedLen reckons it. -/
theorem encLen_any (A : List UInt8) (pad : Bool) (pv : Int) (hpv : (pad = true ∧ pv = 61) ∨ (pad = false ∧ pv = -1)) (S : List UInt8) (eb : Nat) (w : World) (h : w.cell? ⟨eb, 320, none⟩ = some (.int .i32 pv)) (hn : S.length ≤ 1000000) :
    Calls Tryz.prog 87 #[.pointer (some ⟨eb, 0, none⟩), .int .i64 (S.length : Int)] w fun e w' => e = .returned (.int .i64 ((encB A pad S).length : Int)) ∧ w = w' := by
  rcases hpv with ⟨rfl, rfl⟩ | ⟨rfl, rfl⟩
  · rw [encB_length_pad]; exact encLen_pad eb S.length w h hn
  · rw [encB_length_raw]; exact encLen_raw eb S.length w h hn

theorem encode_nil (eb db sb c : Nat) (w : World) : Calls Tryz.prog 88 #[.pointer (some ⟨eb, 0, none⟩), .slice (some ⟨db, 0, none⟩) 0 0, .slice (some ⟨sb, 0, none⟩) 0 c] w fun e w' => e = .returned (.tuple #[]) ∧ w = w' := by
  go_enter Tryz.func88, Tryz.ntmps88
  go_wp2
  refine bodyPost_ret (results_none rfl _ _ _) rfl ?_
  exact ⟨rfl, rfl⟩

set_option maxHeartbeats 1000000 in
theorem encToString_any (A : List UInt8) (hA : A.length = 64) (pad : Bool) (pv : Int) (hpv : (pad = true ∧ pv = 61) ∨ (pad = false ∧ pv = -1)) (S : List UInt8) (eb sb c : Nat) (w : World) (heb : eb < w.heap.size) (hsb : sb < w.heap.size)
    (hE : EncIs A pv eb w) (hS : ∀ j (h : j < S.length), w.cell? ⟨sb, j, none⟩ = some (.int .u8 (S[j].toNat : Int))) (hL : S.length ≤ 1000000) (hLc : S.length ≤ c) :
    Calls Tryz.prog 72 #[.pointer (some ⟨eb, 0, none⟩), .slice (some ⟨sb, 0, none⟩) S.length c] w fun e w' => e = .returned (.string ⟨(encB A pad S).toArray⟩) ∧ Below w.heap.size w w' := by
  have hle := encB_le A pad S
  have HL := Lib.hid (encLen_any A pad pv hpv S eb w (hE.pad hA) hL)
  obtain ⟨w1, hmk, hB1, hz1, hh1⟩ := make_bytes (encB A pad S).length w (by omega)
  have HMK := Lib.hid hmk
  have HB1 := Lib.hid hB1
  have HEN : Hid (Calls Tryz.prog 88 #[.pointer (some ⟨eb, 0, none⟩), .slice (some ⟨w.heap.size, 0, none⟩) (encB A pad S).length (encB A pad S).length, .slice (some ⟨sb, 0, none⟩) S.length c] w1 fun e w' => e = .returned (.tuple #[]) ∧ Below w.heap.size w1 w' ∧ w'.heap[w.heap.size]? = some (.cells (Lib.byteCells (encB A pad S)).toArray 5 (0, 0))) := Lib.hid (by
    by_cases h0 : S = []
    · subst h0
      refine (encode_nil eb w.heap.size sb c w1).mono ?_
      rintro e w' ⟨rfl, rfl⟩
      exact ⟨rfl, Below.refl _ _, by simpa [encB, Lib.byteCells] using hh1⟩
    · have h1 : 1 ≤ S.length := by cases S with | nil => exact absurd rfl h0 | cons => simp
      exact encode_any A hA pad pv hpv S eb w.heap.size sb _ c w1 heb hsb (hE.below hB1 heb) (fun j hj => by rw [hB1.cell (p := ⟨sb, j, none⟩) hsb]; exact hS j hj) hh1 rfl h1 hL hLc)
  obtain ⟨R, hR⟩ : ∃ R, R = encB A pad S := ⟨_, rfl⟩
  rw [← hR] at HL HMK HEN
  have HRR := Lib.hid hR
  clear hE hS hmk hB1 hh1 hle hR
  have hmk := HMK.out
  go_enter Tryz.func72, Tryz.ntmps72
  go_wp2_with fail
  refine HL.out.mono ?_
  rintro e w' ⟨rfl, rfl⟩
  go_wp2_with fail
  refine HEN.out.mono ?_
  rintro e w2 ⟨rfl, hB2, hh2⟩
  have hcv := run_convert_bytes_back (P := Tryz.prog) w2 56 9 5 ⟨w.heap.size, 0, none⟩ R.length R Tryz.underlying56 Tryz.underlying5 Tryz.underlying9 (Lib.bytes_of_row hh2 (by rw [List.take_of_length_le (by simp [Lib.byteCells_length])]))
  have HB2 := Lib.hid (HB1.out.trans hB2)
  clear hB2 hh2
  go_wp2
  go_ret
  exact ⟨by rw [← HRR.out]; rfl, HB2.out⟩

end Go.Proofs.YtinmmchjfifcgaaGreatDoor
