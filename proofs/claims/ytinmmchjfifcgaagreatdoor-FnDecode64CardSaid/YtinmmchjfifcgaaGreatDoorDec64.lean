/- Plain decoding of base64, and spec.place. -/
import Derived.Test.YtinmmchjfifcgaaGreatDoorSpecEnc
import Derived.Test.YtinmmchjfifcgaaGreatDoorTrim
namespace Go.Proofs.YtinmmchjfifcgaaGreatDoor
open Go.RowKit
set_option maxRecDepth 100000

/-- The decoding table of the standard alphabet. -/
def dmT : List Nat := [255, 255, 255, 255, 255, 255, 255, 255, 255, 255, 255, 255, 255, 255, 255, 255, 255, 255, 255, 255, 255, 255, 255, 255, 255, 255, 255, 255, 255, 255, 255, 255, 255, 255, 255, 255, 255, 255, 255, 255, 255, 255, 255, 62, 255, 255, 255, 63, 52, 53, 54, 55, 56, 57, 58, 59, 60, 61, 255, 255, 255, 255, 255, 255, 255, 0, 1, 2, 3, 4, 5, 6, 7, 8, 9, 10, 11, 12, 13, 14, 15, 16, 17, 18, 19, 20, 21, 22, 23, 24, 25, 255, 255, 255, 255, 255, 255, 26, 27, 28, 29, 30, 31, 32, 33, 34, 35, 36, 37, 38, 39, 40, 41, 42, 43, 44, 45, 46, 47, 48, 49, 50, 51, 255, 255, 255, 255, 255, 255, 255, 255, 255, 255, 255, 255, 255, 255, 255, 255, 255, 255, 255, 255, 255, 255, 255, 255, 255, 255, 255, 255, 255, 255, 255, 255, 255, 255, 255, 255, 255, 255, 255, 255, 255, 255, 255, 255, 255, 255, 255, 255, 255, 255, 255, 255, 255, 255, 255, 255, 255, 255, 255, 255, 255, 255, 255, 255, 255, 255, 255, 255, 255, 255, 255, 255, 255, 255, 255, 255, 255, 255, 255, 255, 255, 255, 255, 255, 255, 255, 255, 255, 255, 255, 255, 255, 255, 255, 255, 255, 255, 255, 255, 255, 255, 255, 255, 255, 255, 255, 255, 255, 255, 255, 255, 255, 255, 255, 255, 255, 255, 255, 255, 255, 255, 255, 255, 255, 255, 255, 255, 255, 255, 255, 255, 255, 255]
theorem dmT_eq : dmR alphaS.data.toList 64 = dmT := by decide +kernel
/-- The place of c in the standard alphabet, or 255. -/
def dmV (c : UInt8) : Nat := dmT.getD c.toNat 255
theorem dmV_lt (c : UInt8) : dmV c = 255 ∨ (dmV c < 64 ∧ alphaS.data.toList.getD (dmV c) 0 = c) := by
  have h : ∀ n : Fin 256, dmV (UInt8.ofNat n.val) = 255 ∨ (dmV (UInt8.ofNat n.val) < 64 ∧ alphaS.data.toList.getD (dmV (UInt8.ofNat n.val)) 0 = UInt8.ofNat n.val) := by decide +kernel
  have := h ⟨c.toNat, c.toNat_lt⟩
  simpa using this
theorem dmV_at (k : Nat) (h : k < 64) : dmV (alphaS.data.toList.getD k 0) = k := by
  have h2 : ∀ n : Fin 64, dmV (alphaS.data.toList.getD n.val 0) = n.val := by decide +kernel
  exact h2 ⟨k, h⟩
theorem dmV_61 : dmV 61 = 255 := by decide +kernel
/-- The same, 0 for no place. -/
def dz (c : UInt8) : Nat := if dmV c = 255 then 0 else dmV c
theorem dz_lt (c : UInt8) : dz c < 64 := by
  unfold dz
  rcases dmV_lt c with h | h
  · rw [if_pos h]; omega
  · split <;> omega

/-- How many bytes a group of four gives. -/
def kq (a b c d : UInt8) (r : List UInt8) : Option Nat :=
  if dmV a = 255 ∨ dmV b = 255 then none
  else if dmV c = 255 then (if c = 61 ∧ d = 61 ∧ r = [] then some 1 else none)
  else if dmV d = 255 then (if d = 61 ∧ r = [] then some 2 else none) else some 3
/-- A group's number. -/
def num4 (a b c d : UInt8) : Nat := ((dz a * 64 + dz b) * 64 + dz c) * 64 + dz d
def grpB (v : Nat) : List UInt8 := [UInt8.ofNat (v / 65536), UInt8.ofNat (v / 256), UInt8.ofNat v]
/-- base64's decoding. -/
def dec : List UInt8 → Option (List UInt8)
  | [] => some []
  | a :: b :: c :: d :: r => match kq a b c d r with
    | none => none
    | some k => (dec r).map ((grpB (num4 a b c d)).take k ++ ·)
  | _ => none

def PlacePost (c : UInt8) (w : World) (e : Ending) (w' : World) : Prop := e = .returned (.tuple #[.int .i64 (dz c : Nat), .bool (dmV c != 255)]) ∧ w = w'

set_option maxHeartbeats 400000 in
theorem place_any (c : UInt8) (w : World) : Calls Tryz.prog 44 #[.string alphaS, .int .u8 (c.toNat : Int)] w (PlacePost c w) := by
  have hs : alphaS.size = 64 := rfl
  obtain ⟨A, hA⟩ : ∃ A, A = alphaS := ⟨_, rfl⟩
  rw [← hA] at hs ⊢
  have HA := Lib.hid hA
  clear hA
  go_enter Tryz.func44, Tryz.ntmps44
  go_wp2
  go_loop [6, 9] (fun _ i => ∃ k : Nat, i = .int .i64 k ∧ k ≤ A.size ∧ NoneTo A.data.toList c k) (fun _ i => A.size - (intOf i).toNat)
  case atStart => exact ⟨0, rfl, by omega, NoneTo.zero _ _⟩
  case round =>
    obtain ⟨k, rfl, hk, hN⟩ := hrel
    have HN := Lib.hid hN
    clear hN
    by_cases hlt : k < A.size
    · have hlt2 : k < 64 := by omega
      by_cases hq : A[k] = c
      · have hc : (((A[k].toNat : Int)) == (c.toNat : Int)) = true := by rw [hq]; simp
        have hd : dmV c = k := by
          rw [← hq, get_list]
          have := dmV_at k hlt2
          rw [← HA.out, List.getD, List.getElem?_eq_getElem (by rw [← Lib.size_eq]; exact hlt)] at this
          exact this
        have HD := Lib.hid hd
        clear hq hd
        go_wp2
        go_ret2
        refine ⟨?_, rfl⟩
        have h1 : dz c = k := by unfold dz; rw [HD.out, if_neg (by omega)]
        have h2 : (dmV c != 255) = true := by rw [HD.out]; simp; omega
        rw [h1, h2]; rfl
      · have hc : (((A[k].toNat : Int)) == (c.toNat : Int)) = false := by
          rw [beq_eq_false_iff_ne]; intro e; apply hq; exact UInt8.toNat_inj.1 (by omega)
        have HQ := Lib.hid hq
        clear hq
        go_wp2
        go_round
        case rel => exact ⟨k + 1, by go_num, by omega, HN.out.succ (by rw [← Lib.size_eq]; exact hlt) (by have := HQ.out; rwa [get_list] at this)⟩
        case measure => simp [intOf]; omega
    · obtain rfl : k = A.size := by omega
      have hd : dmV c = 255 := by
        rcases dmV_lt c with h | ⟨h, h2⟩
        · exact h
        · exfalso
          have hN := HN.out
          rw [← HA.out] at h2
          have hl : dmV c < A.data.toList.length := by rw [← Lib.size_eq]; omega
          refine hN (dmV c) hl (by omega) ?_
          rw [List.getD, List.getElem?_eq_getElem hl] at h2
          exact h2
      have HD := Lib.hid hd
      clear hd
      go_wp2
      go_ret2
      refine ⟨?_, rfl⟩
      have h1 : dz c = 0 := by unfold dz; rw [HD.out]; rfl
      have h2 : (dmV c != 255) = false := by rw [HD.out]; rfl
      rw [h1, h2]; rfl

end Go.Proofs.YtinmmchjfifcgaaGreatDoor
