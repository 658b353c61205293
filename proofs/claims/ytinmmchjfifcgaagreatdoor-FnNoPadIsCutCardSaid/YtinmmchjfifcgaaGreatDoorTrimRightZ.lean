/- zzTrimRight trims on the right what stands in the set; texts of at most 2147483647 bytes. -/
import Derived.Test.YtinmmchjfifcgaaGreatDoorEncRaw
import Derived.Test.YtinmmchjfifcgaaGreatDoorTrim
import Derived.Deep.QuietTactic
import Derived.BigQuiet
import Derived.RegionTactic
namespace Go.Proofs.YtinmmchjfifcgaaGreatDoor
open Go.RowKit
set_option maxRecDepth 100000

/-- Does c stand among the first k of cs? -/
def hasTo (cs : ByteArray) (c : UInt8) (k : Nat) : Bool := (cs.data.toList.take k).contains c
theorem hasTo_zero (cs : ByteArray) (c : UInt8) : hasTo cs c 0 = false := by simp [hasTo]
theorem hasTo_all (cs : ByteArray) (c : UInt8) : hasTo cs c cs.size = hasB cs c := by
  unfold hasTo hasB; rw [List.take_of_length_le (by rw [← Lib.size_eq]; exact Nat.le_refl _)]
theorem hasTo_yes (cs : ByteArray) (c : UInt8) (k : Nat) (h : k < cs.size) (e : cs[k] = c) : hasTo cs c (k + 1) = true := by
  unfold hasTo
  rw [List.contains_iff_mem, ← e, get_list, List.take_succ_eq_append_getElem (by rw [← Lib.size_eq]; exact h)]; simp
theorem hasTo_no (cs : ByteArray) (c : UInt8) (k : Nat) (h : k < cs.size) (e : cs[k] ≠ c) : hasTo cs c (k + 1) = hasTo cs c k := by
  unfold hasTo
  rw [get_list] at e
  rw [List.take_succ_eq_append_getElem (by rw [← Lib.size_eq]; exact h)]
  generalize cs.data.toList[k]'_ = x at e
  rw [Bool.eq_iff_iff, List.contains_iff_mem, List.contains_iff_mem, List.mem_append, List.mem_singleton]
  exact ⟨fun h => h.resolve_right (fun h => e h.symm), Or.inl⟩

theorem dropR_take_yes (p : UInt8 → Bool) (l : List UInt8) (k : Nat) (h : k < l.length) (hp : p l[k] = true) : dropR p (l.take (k + 1)) = dropR p (l.take k) := by
  rw [List.take_succ_eq_append_getElem h, dropR_snoc_yes _ _ _ hp]
theorem dropR_take_no (p : UInt8 → Bool) (l : List UInt8) (k : Nat) (h : k < l.length) (hp : p l[k] = false) : dropR p (l.take (k + 1)) = l.take (k + 1) := by
  rw [List.take_succ_eq_append_getElem h, dropR_snoc_no _ _ _ hp]

theorem ba_take (s : ByteArray) (k : Nat) : Value.string (s.extract 0 k) = .string ⟨(s.data.toList.take k).toArray⟩ := by
  congr 1
  apply ByteArray.ext; apply Array.ext'
  simp [ByteArray.data_extract]

set_option maxHeartbeats 1000000 in
theorem zzTrimRight_any (s cs : ByteArray) (w : World) (hs : s.size ≤ 2147483647) (hcs : cs.size ≤ 2147483647) :
    Calls Tryz.prog 73 #[.string s, .string cs] w fun e w' => e = .returned (.string ⟨(dropR (hasB cs) s.data.toList).toArray⟩) ∧ Below w.heap.size w w' := by
  go_enter Tryz.func73, Tryz.ntmps73
  go_wp2
  go_loopw [5, 6, 7] (fun n _ _ wr => ∃ k : Nat, n = .int .i64 k ∧ k ≤ s.size ∧ dropR (hasB cs) (s.data.toList.take k) = dropR (hasB cs) s.data.toList ∧ Below w.heap.size w wr) (fun n _ _ _ => (intOf n).toNat)
  case atStart => exact ⟨s.size, rfl, Nat.le_refl _, by rw [List.take_of_length_le (by rw [← Lib.size_eq]; exact Nat.le_refl _)], Below.refl _ _⟩
  case round =>
    obtain ⟨k, rfl, hk, hD, hB⟩ := hrel
    have HD := Lib.hid hD
    have HB := Lib.hid hB
    clear hD hB
    by_cases h0 : 0 < k
    · obtain ⟨m, rfl⟩ : ∃ m, k = m + 1 := ⟨k - 1, by omega⟩
      have hm : m < s.size := by omega
      go_wp2
      go_loopw [6, 7] (fun f i wr => ∃ j : Nat, i = .int .i64 j ∧ j ≤ cs.size ∧ f = .bool (hasTo cs s[m] j) ∧ Below w.heap.size w wr) (fun _ i _ => cs.size - (intOf i).toNat)
      case atStart => exact ⟨0, rfl, Nat.zero_le _, by rw [hasTo_zero], HB.out⟩
      case round =>
        obtain ⟨j, rfl, hj, rfl, hB⟩ := hrel
        have HB := Lib.hid hB
        clear hB
        by_cases hlt : j < cs.size
        · by_cases hq : cs[j] = s[m]
          · have hc : ((cs[j].toNat : Int) == (s[m].toNat : Int)) = true := by rw [hq]; simp
            have HQ := Lib.hid (hasTo_yes cs s[m] j hlt hq)
            clear hq
            go_wp2
            go_quiet (fail)
            go_wp2
            go_roundw
            case rel => exact ⟨j + 1, by go_num, by omega, by rw [HQ.out], HB.out.trans ⟨rfl, rfl, rfl, Nat.le_refl _, fun _ _ => rfl⟩⟩
            case measure => simp [intOf]; omega
          · have hc : ((cs[j].toNat : Int) == (s[m].toNat : Int)) = false := by
              rw [beq_eq_false_iff_ne]; intro e; apply hq; exact UInt8.toNat_inj.1 (by omega)
            have HQ := Lib.hid (hasTo_no cs s[m] j hlt hq)
            clear hq
            go_wp2
            go_quiet (fail)
            go_wp2
            go_roundw
            case rel => exact ⟨j + 1, by go_num, by omega, by rw [HQ.out], HB.out.trans ⟨rfl, rfl, rfl, Nat.le_refl _, fun _ _ => rfl⟩⟩
            case measure => simp [intOf]; omega
        · obtain rfl : j = cs.size := by omega
          have hml : m < s.data.toList.length := by rw [← Lib.size_eq]; exact hm
          by_cases hp : hasB cs s[m] = true
          · have h2 : hasTo cs s[m] cs.size = true := by rw [hasTo_all]; exact hp
            have HD2 := Lib.hid (dropR_take_yes (hasB cs) s.data.toList m hml (by rw [← get_list]; exact hp))
            clear hp
            go_wp2
            go_roundw
            case rel => exact ⟨m, by go_num, by omega, by rw [← HD2.out]; exact HD.out, HB.out⟩
            case measure => simp [intOf]
          · have h2 : hasTo cs s[m] cs.size = false := by rw [hasTo_all]; simpa using hp
            have HD2 := Lib.hid (dropR_take_no (hasB cs) s.data.toList m hml (by rw [← get_list]; simpa using hp))
            clear hp
            go_wp2
            go_ret
            refine ⟨?_, HB.out⟩
            show Ending.returned (Value.string (s.extract 0 (m + 1))) = _
            rw [ba_take, ← HD2.out, HD.out]
    · obtain rfl : k = 0 := by omega
      go_wp2
      go_ret
      refine ⟨?_, HB.out⟩
      rw [← HD.out]; rfl

end Go.Proofs.YtinmmchjfifcgaaGreatDoor
