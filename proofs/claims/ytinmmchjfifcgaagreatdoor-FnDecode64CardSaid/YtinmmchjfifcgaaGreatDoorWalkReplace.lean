/- laws.FnReplace returns true, whatever the three strings; nothing that was there before the call turns. -/
import Derived.Test.YtinmmchjfifcgaaGreatDoorImplReplace
import Derived.Test.YtinmmchjfifcgaaGreatDoorReady
namespace Go.Proofs.YtinmmchjfifcgaaGreatDoor
open Go.RowKit
set_option maxRecDepth 100000

theorem below_next {w w1 w2 : World} (h : Below w.heap.size w w1) (h2 : Below w1.heap.size w1 w2) : Below w.heap.size w w2 := h.trans (h2.mono h.size)
theorem below_alloc {w w1 : World} {o : Obj} (h : Below (w.alloc o).heap.size (w.alloc o) w1) : Below w.heap.size w w1 := ((Below.refl _ w).alloc (Nat.le_refl _) _).trans (h.mono (by simp))

theorem spl_length (f : List UInt8) : ∀ (s acc : List UInt8) (k : Nat), (spl f acc k s).length ≤ s.length + 1
  | [], acc, k => by cases k <;> simp [spl]
  | c :: s, acc, 0 => by
    unfold spl
    split
    · have := spl_length f s [] (f.length - 1); simp; omega
    · have := spl_length f s (acc ++ [c]) 0; simp; omega
  | _ :: s, acc, k + 1 => by
    unfold spl
    have := spl_length f s acc k; simp; omega

theorem law1_big1 (s f t : ByteArray) (w : World) (h : 2147483647 < s.size) : Calls Tryz.prog 3 #[.string s, .string f, .string t] w fun e w' => e = .returned (.bool true) ∧ Below w.heap.size w w' := by
  go_enter Tryz.func3, Tryz.ntmps3
  go_wp2
  go_ret
  exact ⟨rfl, Below.refl _ _⟩
theorem law1_big2 (s f t : ByteArray) (w : World) (h : s.size ≤ 2147483647) (h2 : 2147483647 < f.size) : Calls Tryz.prog 3 #[.string s, .string f, .string t] w fun e w' => e = .returned (.bool true) ∧ Below w.heap.size w w' := by
  go_enter Tryz.func3, Tryz.ntmps3
  go_wp2
  go_ret
  exact ⟨rfl, Below.refl _ _⟩
theorem law1_big3 (s f t : ByteArray) (w : World) (h : s.size ≤ 2147483647) (h2 : f.size ≤ 2147483647) (h3 : 2147483647 < t.size) : Calls Tryz.prog 3 #[.string s, .string f, .string t] w fun e w' => e = .returned (.bool true) ∧ Below w.heap.size w w' := by
  go_enter Tryz.func3, Tryz.ntmps3
  go_wp2
  go_ret
  exact ⟨rfl, Below.refl _ _⟩

set_option maxHeartbeats 1000000 in
theorem law1_small (s f t : ByteArray) (w : World) (h : s.size ≤ 2147483647) (h2 : f.size ≤ 2147483647) (h3 : t.size ≤ 2147483647) : Calls Tryz.prog 3 #[.string s, .string f, .string t] w fun e w' => e = .returned (.bool true) ∧ Below w.heap.size w w' := by
  have HC : Hid (∀ i (h : i < [s, f, t].length), (w.alloc (.cells #[.string s, .string f, .string t] 9)).cell? ⟨w.heap.size, i, none⟩ = some (.string [s, f, t][i])) := Lib.hid (by
    intro i hi
    match i, hi with
    | 0, _ => simp
    | 1, _ => simp
    | 2, _ => simp)
  go_enter Tryz.func3, Tryz.ntmps3
  go_wp2_with fail
  refine (ready_any [s, f, t] w.heap.size _ (by simp) (by simp) HC.out).mono ?_
  rintro e w1 ⟨r, rfl, hB, hr⟩
  have HB1 := Lib.hid (below_alloc hB)
  clear hB
  cases r with
  | false =>
    clear hr
    go_wp2_with (go_at_call 10; refine (alive_any _).mono ?_; rintro e w' ⟨rfl, hB⟩)
    go_ret
    exact ⟨rfl, below_next HB1.out hB⟩
  | true =>
    have hs : s.size ≤ 1000 := hr rfl s (by simp)
    have hf : f.size ≤ 1000 := hr rfl f (by simp)
    have ht : t.size ≤ 1000 := hr rfl t (by simp)
    clear hr
    by_cases hf0 : f.size = 0
    · have hfe : f.toList = [] := by rw [Lib.toList_data]; exact List.length_eq_zero_iff.1 (by rw [← Lib.size_eq]; exact hf0)
      clear hf0
      go_wp2_with (go_at_call 10; refine (alive_any _).mono ?_; rintro e w' ⟨rfl, hB⟩)
      go_ret
      exact ⟨rfl, below_next HB1.out hB⟩
    · have hf1 : 1 ≤ f.size := by omega
      have hfe : ¬ f.toList = [] := by
        intro e
        have := congrArg List.length e
        rw [Lib.toList_data, ← Lib.size_eq, List.length_nil] at this; omega
      have hfe1 : f.toList.isEmpty = false := by rw [List.isEmpty_eq_false_iff]; exact hfe
      have hR : (rep f.data.toList t.data.toList 0 s.data.toList).length ≤ 140737488355328 := by
        have := rep_length f.data.toList t.data.toList s.data.toList 0
        rw [← Lib.size_eq, ← Lib.size_eq] at this
        have h4 : s.size * (t.size + 1) ≤ 1000 * 1001 := Nat.mul_le_mul hs (by omega)
        omega
      have HR := Lib.hid hR
      have HJ : Hid (joinL t.data.toList (spl f.data.toList [] 0 s.data.toList) = rep f.data.toList t.data.toList 0 s.data.toList) := Lib.hid (by rw [joinL_spl]; rfl)
      clear hf0 hR
      go_wp2_with fail
      refine (replace_any s f t w1 (by omega) hf1 h2 h3 HR.out).mono ?_
      rintro e w2 ⟨rfl, hB2⟩
      have HB2 := Lib.hid (below_next HB1.out hB2)
      clear hB2
      go_wp2_with fail
      refine (split_any s f w2 h hf1 h2).mono ?_
      rintro e w3 ⟨g, cap, rfl, hB3, hg, hc⟩
      have HB3 := Lib.hid (below_next HB2.out hB3)
      have HC := Lib.hid hc
      clear hB3 hc
      go_wp2_with fail
      have hj := join_any t.data.toList (spl f.data.toList [] 0 s.data.toList) g cap w3 (by have := spl_length f.data.toList s.data.toList [] 0; rw [← Lib.size_eq] at this; omega) (by rw [HJ.out]; exact HR.out) (by rw [← Lib.size_eq]; exact h3) HC.out
      rw [Lib.mk_data, HJ.out] at hj
      refine hj.mono ?_
      clear hj
      rintro e w4 ⟨rfl, rfl⟩
      go_wp2_with fail
      refine (is_same _ _).mono ?_
      rintro e w4 ⟨rfl, rfl⟩
      go_wp2_with (go_at_call 10; refine (alive_any _).mono ?_; rintro e w' ⟨rfl, hB⟩)
      go_ret
      exact ⟨rfl, below_next HB3.out hB⟩

theorem law1_any (s f t : ByteArray) (w : World) : Calls Tryz.prog 3 #[.string s, .string f, .string t] w fun e w' => e = .returned (.bool true) ∧ Below w.heap.size w w' := by
  by_cases h1 : s.size ≤ 2147483647
  · by_cases h2 : f.size ≤ 2147483647
    · by_cases h3 : t.size ≤ 2147483647
      · exact law1_small s f t w h1 h2 h3
      · exact law1_big3 s f t w h1 h2 (by omega)
    · exact law1_big2 s f t w h1 (by omega)
  · exact law1_big1 s f t w (by omega)

end Go.Proofs.YtinmmchjfifcgaaGreatDoor
