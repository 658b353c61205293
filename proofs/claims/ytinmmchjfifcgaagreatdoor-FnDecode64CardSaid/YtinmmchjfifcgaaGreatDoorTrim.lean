/- spec.has, spec.TrimLeft, spec.TrimRight, spec.ASCII return what the plain functions say: texts of at most 2147483647 bytes. -/
import Derived.Test.YtinmmchjfifcgaaGreatDoorCore
import Derived.Lib.Strings
import Derived.Lib.IndexBytes
import Derived.Lib.Space
namespace Go.Proofs.YtinmmchjfifcgaaGreatDoor
open Go.RowKit
set_option maxRecDepth 100000

/-- No letter before k is c. -/
def NoneTo (l : List UInt8) (c : UInt8) (k : Nat) : Prop := ∀ j (h : j < l.length), j < k → l[j] ≠ c
theorem NoneTo.zero (l : List UInt8) (c : UInt8) : NoneTo l c 0 := fun _ _ h => absurd h (by omega)
theorem NoneTo.succ {l : List UInt8} {c : UInt8} {k : Nat} (h : NoneTo l c k) (hk : k < l.length) (hc : l[k] ≠ c) : NoneTo l c (k + 1) := fun j hj hlt => by
  by_cases e : j = k
  · subst e; exact hc
  · exact h j hj (by omega)
theorem NoneTo.all {l : List UInt8} {c : UInt8} (h : NoneTo l c l.length) : l.contains c = false := by
  rw [Bool.eq_false_iff]; intro hc
  rw [List.contains_iff_mem] at hc
  obtain ⟨j, hj, e⟩ := List.getElem_of_mem hc
  exact h j hj hj e

/-- Does c stand in s? -/
def hasB (s : ByteArray) (c : UInt8) : Bool := s.data.toList.contains c

theorem get_list (s : ByteArray) (k : Nat) (h : k < s.size) : s[k] = s.data.toList[k]'(by rw [← Lib.size_eq]; exact h) := by
  rw [Array.getElem_toList]; rfl

set_option maxHeartbeats 400000 in
theorem has_any (s : ByteArray) (c : UInt8) (w : World) (hs : s.size ≤ 2147483647) :
    Calls Tryz.prog 43 #[.string s, .int .u8 (c.toNat : Int)] w fun e w' => e = .returned (.bool (hasB s c)) ∧ w = w' := by
  go_enter Tryz.func43, Tryz.ntmps43
  go_wp2
  go_loop [5, 8] (fun _ i => ∃ k : Nat, i = .int .i64 k ∧ k ≤ s.size ∧ NoneTo s.data.toList c k) (fun _ i => s.size - (intOf i).toNat)
  case atStart => exact ⟨0, rfl, by omega, NoneTo.zero _ _⟩
  case round =>
    obtain ⟨k, rfl, hk, hN⟩ := hrel
    have HN := Lib.hid hN
    clear hN
    by_cases hlt : k < s.size
    · by_cases hq : s[k] = c
      · have hc : (((s[k].toNat : Int)) == (c.toNat : Int)) = true := by rw [hq]; simp
        have HQ := Lib.hid hq
        clear hq
        go_wp2
        go_ret
        refine ⟨?_, rfl⟩
        have : hasB s c = true := by
          unfold hasB
          rw [List.contains_iff_mem, ← HQ.out, get_list]; exact List.getElem_mem _
        rw [this]; rfl
      · have hc : (((s[k].toNat : Int)) == (c.toNat : Int)) = false := by
          rw [beq_eq_false_iff_ne]; intro e; apply hq; exact UInt8.toNat_inj.1 (by omega)
        have HQ := Lib.hid hq
        clear hq
        go_wp2
        go_round
        case rel => exact ⟨k + 1, by go_num, by omega, HN.out.succ (by rw [← Lib.size_eq]; exact hlt) (by have := HQ.out; rwa [get_list] at this)⟩
        case measure => simp [intOf]; omega
    · obtain rfl : k = s.size := by omega
      go_wp2
      go_ret
      have h := HN.out
      rw [Lib.size_eq] at h
      exact ⟨by unfold hasB; rw [h.all]; rfl, rfl⟩

/-- A string's length, of a slot's value. -/
def lenOf : Value → Nat | .string x => x.size | _ => 0

theorem cons_of_pos (x : ByteArray) (h : 0 < x.size) : x.data.toList = x[0] :: x.data.toList.drop 1 := by
  rw [get_list]
  rw [Lib.size_eq] at h
  exact List.drop_eq_getElem_cons (l := x.data.toList) (i := 0) h

theorem snoc_of_pos (x : ByteArray) (h : 0 < x.size) : x.data.toList = x.data.toList.take (x.size - 1) ++ [x[x.size - 1]] := by
  rw [get_list]
  have h1 : x.size - 1 < x.data.toList.length := by rw [← Lib.size_eq]; omega
  rw [← List.take_succ_eq_append_getElem h1, List.take_of_length_le (by rw [← Lib.size_eq]; omega)]

/-- What trimming on the right leaves. -/
def dropR (p : UInt8 → Bool) (l : List UInt8) : List UInt8 := (l.reverse.dropWhile p).reverse
theorem dropR_snoc_yes (p : UInt8 → Bool) (l : List UInt8) (c : UInt8) (h : p c = true) : dropR p (l ++ [c]) = dropR p l := by
  unfold dropR; rw [List.reverse_append]; simp [h]
theorem dropR_snoc_no (p : UInt8 → Bool) (l : List UInt8) (c : UInt8) (h : p c = false) : dropR p (l ++ [c]) = l ++ [c] := by
  unfold dropR; rw [List.reverse_append]; simp [h]

set_option maxHeartbeats 400000 in
theorem trimLeft_any (s cs : ByteArray) (w : World) (hcs : cs.size ≤ 2147483647) :
    Calls Tryz.prog 27 #[.string s, .string cs] w fun e w' => e = .returned (.string ⟨(s.data.toList.dropWhile (hasB cs)).toArray⟩) ∧ w = w' := by
  go_enter Tryz.func27, Tryz.ntmps27
  go_wp2
  go_loop [0] (fun v => ∃ x : ByteArray, v = .string x ∧ x.size ≤ s.size ∧ x.data.toList.dropWhile (hasB cs) = s.data.toList.dropWhile (hasB cs)) (fun v => lenOf v)
  case atStart => exact ⟨s, rfl, by omega, rfl⟩
  case round =>
    obtain ⟨x, rfl, hx, hD⟩ := hrel
    have HD := Lib.hid hD
    clear hD
    by_cases h0 : 0 < x.size
    · by_cases hp : hasB cs x[0] = true
      · have HP := Lib.hid hp
        have hc := has_any cs x[0] w hcs
        rw [hp] at hc
        have HC := Lib.hid hc
        clear hp hc
        go_wp2_with (go_at_call 43; refine HC.out.mono ?_; rintro e w' ⟨rfl, rfl⟩)
        go_round
        case rel =>
          refine ⟨_, rfl, by rw [ByteArray.size_extract]; omega, ?_⟩
          rw [Lib.extract_to_end, ← HD.out, cons_of_pos x h0, List.dropWhile_cons, if_pos HP.out]; simp
        case measure => simp [lenOf]; omega
      · have hp' : hasB cs x[0] = false := by simpa using hp
        have HP := Lib.hid hp'
        have hc := has_any cs x[0] w hcs
        rw [hp'] at hc
        have HC := Lib.hid hc
        clear hp hp' hc
        go_wp2_with (go_at_call 43; refine HC.out.mono ?_; rintro e w' ⟨rfl, rfl⟩)
        go_ret
        refine ⟨?_, rfl⟩
        show Ending.returned (Value.string x) = _
        rw [← HD.out, cons_of_pos x h0, List.dropWhile_cons, if_neg (by rw [HP.out]; simp), ← cons_of_pos x h0, Lib.mk_data]
    · go_wp2
      go_ret
      refine ⟨?_, rfl⟩
      show Ending.returned (Value.string x) = _
      have e : x.data.toList = [] := List.length_eq_zero_iff.1 (by rw [← Lib.size_eq]; omega)
      rw [← HD.out, e, List.dropWhile_nil, ← e, Lib.mk_data]

set_option maxHeartbeats 400000 in
theorem trimRight_any (s cs : ByteArray) (w : World) (hs : s.size ≤ 2147483647) (hcs : cs.size ≤ 2147483647) :
    Calls Tryz.prog 26 #[.string s, .string cs] w fun e w' => e = .returned (.string ⟨(dropR (hasB cs) s.data.toList).toArray⟩) ∧ w = w' := by
  go_enter Tryz.func26, Tryz.ntmps26
  go_wp2
  go_loop [0] (fun v => ∃ x : ByteArray, v = .string x ∧ x.size ≤ s.size ∧ dropR (hasB cs) x.data.toList = dropR (hasB cs) s.data.toList) (fun v => lenOf v)
  case atStart => exact ⟨s, rfl, by omega, rfl⟩
  case round =>
    obtain ⟨x, rfl, hx, hD⟩ := hrel
    have HD := Lib.hid hD
    clear hD
    by_cases h0 : 0 < x.size
    · by_cases hp : hasB cs x[x.size - 1] = true
      · have HP := Lib.hid hp
        have hc := has_any cs x[x.size - 1] w hcs
        rw [hp] at hc
        have HC := Lib.hid hc
        clear hp hc
        go_wp2_with (go_at_call 43; refine HC.out.mono ?_; rintro e w' ⟨rfl, rfl⟩)
        go_round
        case rel =>
          refine ⟨_, rfl, by rw [ByteArray.size_extract]; omega, ?_⟩
          rw [Lib.extract_data, List.drop_zero, Nat.sub_zero, ← HD.out]
          conv => rhs; rw [snoc_of_pos x h0]
          rw [dropR_snoc_yes _ _ _ HP.out]
        case measure => simp [lenOf]; omega
      · have hp' : hasB cs x[x.size - 1] = false := by simpa using hp
        have HP := Lib.hid hp'
        have hc := has_any cs x[x.size - 1] w hcs
        rw [hp'] at hc
        have HC := Lib.hid hc
        clear hp hp' hc
        go_wp2_with (go_at_call 43; refine HC.out.mono ?_; rintro e w' ⟨rfl, rfl⟩)
        go_ret
        refine ⟨?_, rfl⟩
        show Ending.returned (Value.string x) = _
        rw [← HD.out, snoc_of_pos x h0, dropR_snoc_no _ _ _ HP.out, ← snoc_of_pos x h0, Lib.mk_data]
    · go_wp2
      go_ret
      refine ⟨?_, rfl⟩
      show Ending.returned (Value.string x) = _
      have e : x.data.toList = [] := List.length_eq_zero_iff.1 (by rw [← Lib.size_eq]; omega)
      rw [← HD.out, e, show dropR (hasB cs) [] = [] from rfl, ← e, Lib.mk_data]

def AsciiTo (s : ByteArray) (k : Nat) : Prop := ∀ j (h : j < s.size), j < k → s[j].toNat < 128
theorem AsciiTo.zero (s : ByteArray) : AsciiTo s 0 := fun _ _ h => absurd h (by omega)
theorem AsciiTo.succ {s : ByteArray} {k : Nat} (h : AsciiTo s k) (hk : k < s.size) (hc : s[k].toNat < 128) : AsciiTo s (k + 1) := fun j hj hlt => by
  by_cases e : j = k
  · subst e; exact hc
  · exact h j hj (by omega)

def AsciiPost (s : ByteArray) (w : World) (e : Ending) (w' : World) : Prop := ∃ r : Bool, e = .returned (.bool r) ∧ w = w' ∧ (r = true → AsciiTo s s.size)

set_option maxHeartbeats 1000000 in
theorem ascii_any (b : Nat) (s : ByteArray) (w : World) (h : w.cell? ⟨b, 0, none⟩ = some (.string s)) (hs : s.size ≤ 2147483647) :
    Calls Tryz.prog 24 #[.slice (some ⟨b, 0, none⟩) 1 1] w (AsciiPost s w) := by
  go_enter Tryz.func24, Tryz.ntmps24
  go_wp2
  go_loop [4, 5, 8, 14] (fun _ _ i _ => ∃ k : Nat, i = .int .i64 k ∧ k ≤ 1 ∧ (k = 1 → AsciiTo s s.size)) (fun _ _ i _ => 1 - (intOf i).toNat)
  case atStart => exact ⟨0, rfl, by omega, fun h => by omega⟩
  case round =>
    obtain ⟨k, rfl, hk, hA⟩ := hrel
    have HA := Lib.hid hA
    clear hA
    by_cases hlt : k < 1
    · obtain rfl : k = 0 := by omega
      go_wp2
      go_loop [5, 14] (fun _ i => ∃ j : Nat, i = .int .i64 j ∧ j ≤ s.size ∧ AsciiTo s j) (fun _ i => s.size - (intOf i).toNat)
      case atStart => exact ⟨0, rfl, by omega, AsciiTo.zero _⟩
      case round =>
        obtain ⟨j, rfl, hj, hJ⟩ := hrel
        have HJ := Lib.hid hJ
        clear hJ
        by_cases hlt2 : j < s.size
        · by_cases hc : s[j].toNat < 128
          · have hc1 : decide ((128 : Int) ≤ (s[j].toNat : Int)) = false := by simp; omega
            have HC := Lib.hid hc
            clear hc
            go_wp2
            go_round
            case rel => exact ⟨j + 1, by go_num, by omega, HJ.out.succ hlt2 HC.out⟩
            case measure => simp [intOf]; omega
          · have hc1 : decide ((128 : Int) ≤ (s[j].toNat : Int)) = true := by simp; omega
            clear hc
            go_wp2
            go_ret
            exact ⟨false, rfl, rfl, by simp⟩
        · obtain rfl : j = s.size := by omega
          go_wp2
          go_round
          case rel => exact ⟨1, by go_num, by omega, fun _ => HJ.out⟩
          case measure => simp [intOf]
    · obtain rfl : k = 1 := by omega
      go_wp2
      go_ret
      exact ⟨true, rfl, rfl, fun _ => HA.out trivial⟩

end Go.Proofs.YtinmmchjfifcgaaGreatDoor
