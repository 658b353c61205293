/- base64.NewEncoding lays the alphabet and its decoding table; stdEncoding and urlEncoding. No condition but that the alphabet has 64 letters, each once, none of them an end of a line. -/
import Derived.Test.YtinmmchjfifcgaaGreatDoorCore
import Derived.Lib.BufferWrite
import Derived.Lib.SlBuf
import Derived.Laws.CopyOwn
import Derived.Deep.QuietTactic
import Derived.BigQuiet
import Derived.RegionTactic
namespace Go.Proofs.YtinmmchjfifcgaaGreatDoor
open Go.RowKit
set_option maxRecDepth 100000

/-- The decoding table behind k letters of the alphabet. -/
def dmR (A : List UInt8) : Nat → List Nat
  | 0 => List.replicate 256 255
  | k + 1 => (dmR A k).set (A.getD k 0).toNat k
theorem dmR_length (A : List UInt8) : ∀ k, (dmR A k).length = 256
  | 0 => by simp [dmR]
  | k + 1 => by rw [dmR, List.length_set]; exact dmR_length A k

def u8c (n : Nat) : Value := .int .u8 (n : Int)
/-- The cells of an Encoding behind k letters. -/
def encL (A : List UInt8) (k : Nat) (pad : Int) : List Value := Lib.byteCells A ++ ((dmR A k).map u8c ++ [.int .i32 pad, .bool false])

structure AlphaOK (A : ByteArray) : Prop where
  size : A.size = 64
  ends : ∀ k (h : k < A.size), ¬ (A[k].toNat : Int) = 10 ∧ ¬ (A[k].toNat : Int) = 13
  once : ∀ k (h : k < A.size), (dmR A.data.toList k).getD A[k].toNat 0 = 255

theorem encL_length (A : List UInt8) (k : Nat) (pad : Int) (h : A.length = 64) : (encL A k pad).length = 322 := by
  simp [encL, Lib.byteCells_length, dmR_length, h]

theorem encL_dm (A : List UInt8) (k : Nat) (pad : Int) (h : A.length = 64) (c : Nat) (hc : c < 256) : (encL A k pad)[64 + c]? = some (u8c ((dmR A k).getD c 0)) := by
  unfold encL
  rw [List.getElem?_append_right (by rw [Lib.byteCells_length, h]; omega), Lib.byteCells_length, h, Nat.add_sub_cancel_left, List.getElem?_append_left (by rw [List.length_map, dmR_length]; exact hc), List.getElem?_map]
  have hl := dmR_length A k
  rw [List.getElem?_eq_getElem (by omega), List.getD, List.getElem?_eq_getElem (by omega)]; rfl

theorem encL_set (A : List UInt8) (k : Nat) (pad : Int) (h : A.length = 64) : (encL A k pad).set (64 + (A.getD k 0).toNat) (u8c k) = encL A (k + 1) pad := by
  have hc : (A.getD k 0).toNat < 256 := (A.getD k 0).toNat_lt
  unfold encL
  rw [List.set_append_right _ _ (by rw [Lib.byteCells_length, h]; omega), Lib.byteCells_length, h, Nat.add_sub_cancel_left, List.set_append_left _ _ (by rw [List.length_map, dmR_length]; exact hc), ← List.map_set, dmR]

theorem zero107 : (Tryz.zeroCells107.setIfInBounds 320 (.int .i32 61)).toList = List.replicate 320 (u8c 0) ++ [.int .i32 61, .bool false] := by kernel_rfl
theorem info5s : (Tryz.prog.info? 5).map (·.size) = some 1 := by kernel_rfl

/-- A copy of a string into a block that is known whole. -/
theorem copy_str {b o dLen dCap : Nat} {s : ByteArray} {cur : Array Value} {B : Nat} {w : World} (hg : w.heap[b]? = some (.cells cur 107 (0, 0))) (hle : s.size ≤ dLen) (hfit : o + s.size ≤ cur.size) (hB : B ≤ b) :
    ∃ w1, (Builtin.copy_ #[56, 9] 3 #[.slice (some ⟨b, o, none⟩) dLen dCap, .string s]).run Tryz.prog w = .ok (goInt s.size) w1 ∧
      w1.heap[b]? = some (.cells (cur.toList.take o ++ Lib.byteCells s.data.toList ++ cur.toList.drop (o + s.size)).toArray 107 (0, 0)) ∧ Below B w w1 := by
  refine ⟨_, Lib.run_copy_row_string w 56 9 3 5 b o dLen dCap s cur 107 Tryz.underlying56 info5s hg hle hfit, ?_, ?_⟩
  · exact setRow_heap w b _ _ _ _ hg
  · exact below_setRow (Below.refl _ _) hB _

/-- What the two copies leave. -/
theorem copies (A D : ByteArray) (hA : A.size = 64) (hD : D.data.toList = List.replicate 256 255) (w : World) :
    ∃ w1, Sem.run Tryz.prog (Builtin.copy_ #[56, 9] 3 #[.slice (some ⟨w.heap.size, 0, none⟩) 64 64, .string A]) (w.alloc (.cells (Tryz.zeroCells107.setIfInBounds 320 (.int .i32 61)) 107)) = .ok (.int .i64 64) w1 ∧
      Below w.heap.size w w1 ∧ w.heap.size < w1.heap.size ∧
      ∃ w2, Sem.run Tryz.prog (Builtin.copy_ #[56, 9] 3 #[.slice (some ⟨w.heap.size, 64, none⟩) 256 256, .string D]) w1 = .ok (.int .i64 256) w2 ∧
      Below w.heap.size w w2 ∧ w.heap.size < w2.heap.size ∧ w2.heap[w.heap.size]? = some (.cells (encL A.data.toList 0 61).toArray 107 (0, 0)) := by
  have hA' : A.data.toList.length = 64 := by rw [← Lib.size_eq]; exact hA
  have hDs : D.size = 256 := by rw [Lib.size_eq, hD]; simp
  have h0 : (w.alloc (.cells (Tryz.zeroCells107.setIfInBounds 320 (.int .i32 61)) 107)).heap[w.heap.size]? = some (.cells (Tryz.zeroCells107.setIfInBounds 320 (.int .i32 61)) 107 (0, 0)) := heap_alloc_new _ _
  have hsz : (Tryz.zeroCells107.setIfInBounds 320 (.int .i32 61)).size = 322 := by kernel_rfl
  obtain ⟨w1, hr1, hh1, hb1⟩ := copy_str (o := 0) (dLen := 64) (dCap := 64) (s := A) (B := w.heap.size) h0 (by omega) (by rw [hsz]; omega) (Nat.le_refl _)
  have hB1 : Below w.heap.size w w1 := ((Below.refl _ w).alloc (Nat.le_refl _) _).trans hb1
  obtain ⟨w2, hr2, hh2, hb2⟩ := copy_str (o := 64) (dLen := 256) (dCap := 256) (s := D) (B := w.heap.size) hh1 (by omega) (by
    rw [zero107, hA]; simp [Lib.byteCells_length, hA', hDs]) (Nat.le_refl _)
  refine ⟨w1, by rw [hr1, hA]; rfl, hB1, lt_of_block hh1, w2, by rw [hr2, hDs]; rfl, hB1.trans hb2, lt_of_block hh2, ?_⟩
  rw [hh2, zero107, hA]
  congr 2
  rw [hDs]
  apply Array.ext'
  have e1 : Lib.byteCells D.data.toList = List.replicate 256 (u8c 255) := by rw [hD]; rfl
  have e2 : (Lib.byteCells A.data.toList).length = 64 := by rw [Lib.byteCells_length, hA']
  simp only [List.take_zero, List.nil_append, Nat.zero_add]
  obtain ⟨X, hX⟩ : ∃ X, X = Lib.byteCells A.data.toList := ⟨_, rfl⟩
  unfold encL
  rw [← hX] at e2 ⊢
  rw [e1, List.drop_append_of_le_length (by simp), List.drop_replicate, List.take_left' e2, show (64 + 256 : Nat) = X.length + 256 from by rw [e2], List.drop_append]
  simp [dmR]

/-- The table as it begins: 256 times 255. -/
def d255 : ByteArray := ⟨#[255, 255, 255, 255, 255, 255, 255, 255, 255, 255, 255, 255, 255, 255, 255, 255, 255, 255, 255, 255, 255, 255, 255, 255, 255, 255, 255, 255, 255, 255, 255, 255, 255, 255, 255, 255, 255, 255, 255, 255, 255, 255, 255, 255, 255, 255, 255, 255, 255, 255, 255, 255, 255, 255, 255, 255, 255, 255, 255, 255, 255, 255, 255, 255, 255, 255, 255, 255, 255, 255, 255, 255, 255, 255, 255, 255, 255, 255, 255, 255, 255, 255, 255, 255, 255, 255, 255, 255, 255, 255, 255, 255, 255, 255, 255, 255, 255, 255, 255, 255, 255, 255, 255, 255, 255, 255, 255, 255, 255, 255, 255, 255, 255, 255, 255, 255, 255, 255, 255, 255, 255, 255, 255, 255, 255, 255, 255, 255, 255, 255, 255, 255, 255, 255, 255, 255, 255, 255, 255, 255, 255, 255, 255, 255, 255, 255, 255, 255, 255, 255, 255, 255, 255, 255, 255, 255, 255, 255, 255, 255, 255, 255, 255, 255, 255, 255, 255, 255, 255, 255, 255, 255, 255, 255, 255, 255, 255, 255, 255, 255, 255, 255, 255, 255, 255, 255, 255, 255, 255, 255, 255, 255, 255, 255, 255, 255, 255, 255, 255, 255, 255, 255, 255, 255, 255, 255, 255, 255, 255, 255, 255, 255, 255, 255, 255, 255, 255, 255, 255, 255, 255, 255, 255, 255, 255, 255, 255, 255, 255, 255, 255, 255, 255, 255, 255, 255, 255, 255, 255, 255, 255, 255, 255, 255, 255, 255, 255, 255, 255, 255, 255, 255, 255, 255, 255, 255]⟩
theorem d255_eq : d255.data.toList = List.replicate 256 255 := by decide +kernel

structure EncAt (A : ByteArray) (w : World) (k : Nat) (wr : World) : Prop where
  bel : Below w.heap.size w wr
  at_ : wr.heap[w.heap.size]? = some (.cells (encL A.data.toList k 61).toArray 107 (0, 0))

theorem EncAt.cell {A : ByteArray} {w wr : World} {k : Nat} (h : EncAt A w k wr) (hA : AlphaOK A) (hk : k < A.size) : wr.cell? ⟨w.heap.size, 64 + A[k].toNat, none⟩ = some (.int .u8 255) := by
  have := encL_dm A.data.toList k 61 (by rw [← Lib.size_eq]; exact hA.size) A[k].toNat A[k].toNat_lt
  rw [hA.once k hk] at this
  unfold World.cell?
  simp only [h.at_]
  simpa [u8c] using this
theorem EncAt.free {A : ByteArray} {w wr : World} {k : Nat} (h : EncAt A w k wr) (c : Nat) : wr.frozen? ⟨w.heap.size, 64 + c, none⟩ = false := by
  unfold World.frozen?
  simp [h.at_]

theorem EncAt.store {A : ByteArray} {w wr : World} {k : Nat} (h : EncAt A w k wr) (hA : AlphaOK A) (hk : k < A.size) (n : Nat) :
    EncAt A w (k + 1) ((wr.drewN n).setCell ⟨w.heap.size, 64 + A[k].toNat, none⟩ (.int .u8 (k : Int))) := by
  have h1 : (wr.drewN n).heap[w.heap.size]? = some (.cells (encL A.data.toList k 61).toArray 107 (0, 0)) := h.at_
  have hA' : A.data.toList.length = 64 := by rw [← Lib.size_eq]; exact hA.size
  have hb : Below w.heap.size w (wr.drewN n) := h.bel.trans ⟨rfl, rfl, rfl, Nat.le_refl _, fun _ _ => rfl⟩
  refine ⟨hb.setCell (Nat.le_refl _) _, ?_⟩
  rw [Lib.heap_setCell_same h1]
  congr 2
  have e := encL_set A.data.toList k 61 hA'
  have e2 : A.data.toList.getD k 0 = A[k] := by
    have hk' : k < A.data.toList.length := by rw [← Lib.size_eq]; exact hk
    rw [List.getD, List.getElem?_eq_getElem hk']
    rw [Array.getElem_toList]; rfl
  rw [e2] at e
  rw [← e]
  apply Array.ext'
  simp [u8c]

set_option maxHeartbeats 1000000 in
theorem newEncoding_any (A : ByteArray) (w : World) (hA : AlphaOK A) : Calls Tryz.prog 86 #[.string A] w fun e w' => e = .returned (.pointer (some ⟨w.heap.size, 0, none⟩)) ∧ Below w.heap.size w w' ∧ w'.heap[w.heap.size]? = some (.cells (encL A.data.toList 64 61).toArray 107 (0, 0)) := by
  have h64 := hA.size
  have h1 : ((A.size : Int) != 64) = false := by rw [h64]; rfl
  have HA := Lib.hid hA
  clear hA h64
  obtain ⟨w1, hr1, hB1, hz1, w2, hr2, hB2, hz2, hh2⟩ := copies A d255 HA.out.size d255_eq w
  have HB2 := Lib.hid hB2
  have HH2 := Lib.hid hh2
  clear hB1 hz1 hB2 hh2
  unfold d255 at hr2
  go_enter Tryz.func86, Tryz.ntmps86
  go_wp2_with fail
  clear hr1 hr2
  go_loopw [4, 30, 42] (fun i _ _ wr => ∃ k : Nat, i = .int .i64 k ∧ k ≤ A.size ∧ EncAt A w k wr) (fun i _ _ _ => A.size - (intOf i).toNat)
  case atStart => exact ⟨0, rfl, Nat.zero_le _, HB2.out, HH2.out⟩
  case round =>
    obtain ⟨k, rfl, hk, hE⟩ := hrel
    have HE := Lib.hid hE
    have hw : w.heap.size < wr.heap.size := lt_of_block hE.at_
    clear hE
    by_cases hlt : k < A.size
    · have hk64 : k < 64 := by have := HA.out.size; omega
      have hcell := HE.out.cell HA.out hlt
      have hfree := HE.out.free A[k].toNat
      have hc256 : (A[k].toNat : Int) < 256 := by have := A[k].toNat_lt; omega
      obtain ⟨he1, he2⟩ := HA.out.ends k hlt
      have hq1 : ((A[k].toNat : Int) == 10) = false := by rw [beq_eq_false_iff_ne]; exact he1
      have hq2 : ((A[k].toNat : Int) == 13) = false := by rw [beq_eq_false_iff_ne]; exact he2
      clear he1 he2
      go_wp2
      go_quiet (fail)
      go_wp2
      go_region
      all_goals
        go_wp2
        go_roundw
        case rel => exact ⟨k + 1, by go_num, by omega, HE.out.store HA.out hlt _⟩
        case measure => simp [intOf]; omega
    · obtain rfl : k = A.size := by omega
      go_wp2
      go_ret
      have hE := HE.out
      rw [HA.out.size] at hE
      exact ⟨rfl, hE.bel, hE.at_⟩

def alphaS : ByteArray := ⟨#[65, 66, 67, 68, 69, 70, 71, 72, 73, 74, 75, 76, 77, 78, 79, 80, 81, 82, 83, 84, 85, 86, 87, 88, 89, 90, 97, 98, 99, 100, 101, 102, 103, 104, 105, 106, 107, 108, 109, 110, 111, 112, 113, 114, 115, 116, 117, 118, 119, 120, 121, 122, 48, 49, 50, 51, 52, 53, 54, 55, 56, 57, 43, 47]⟩
def alphaU : ByteArray := ⟨#[65, 66, 67, 68, 69, 70, 71, 72, 73, 74, 75, 76, 77, 78, 79, 80, 81, 82, 83, 84, 85, 86, 87, 88, 89, 90, 97, 98, 99, 100, 101, 102, 103, 104, 105, 106, 107, 108, 109, 110, 111, 112, 113, 114, 115, 116, 117, 118, 119, 120, 121, 122, 48, 49, 50, 51, 52, 53, 54, 55, 56, 57, 45, 95]⟩
theorem alphaS_ok : AlphaOK alphaS := ⟨by decide, by decide +kernel, by decide +kernel⟩
theorem alphaU_ok : AlphaOK alphaU := ⟨by decide, by decide +kernel, by decide +kernel⟩

theorem stdEncoding_any (w : World) : Calls Tryz.prog 74 #[] w fun e w' => e = .returned (.pointer (some ⟨w.heap.size, 0, none⟩)) ∧ Below w.heap.size w w' ∧ w'.heap[w.heap.size]? = some (.cells (encL alphaS.data.toList 64 61).toArray 107 (0, 0)) := by
  have H := Lib.hid (newEncoding_any alphaS w alphaS_ok)
  unfold alphaS at H
  go_enter Tryz.func74, Tryz.ntmps74
  go_wp2_with fail
  refine H.out.mono ?_
  rintro e w' ⟨rfl, hB, hh⟩
  have HH := Lib.hid hh
  clear hh
  go_wp2
  go_ret
  exact ⟨rfl, hB, HH.out⟩

theorem urlEncoding_any (w : World) : Calls Tryz.prog 70 #[] w fun e w' => e = .returned (.pointer (some ⟨w.heap.size, 0, none⟩)) ∧ Below w.heap.size w w' ∧ w'.heap[w.heap.size]? = some (.cells (encL alphaU.data.toList 64 61).toArray 107 (0, 0)) := by
  have H := Lib.hid (newEncoding_any alphaU w alphaU_ok)
  unfold alphaU at H
  go_enter Tryz.func70, Tryz.ntmps70
  go_wp2_with fail
  refine H.out.mono ?_
  rintro e w' ⟨rfl, hB, hh⟩
  have HH := Lib.hid hh
  clear hh
  go_wp2
  go_ret
  exact ⟨rfl, hB, HH.out⟩

end Go.Proofs.YtinmmchjfifcgaaGreatDoor
