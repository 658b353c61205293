/- laws.FnReplacedBack returns true, whatever the two strings; nothing that was there before the call turns. -/
import Derived.Test.YtinmmchjfifcgaaGreatDoorWalkReplace
import Derived.Test.YtinmmchjfifcgaaGreatDoorPlaces
namespace Go.Proofs.YtinmmchjfifcgaaGreatDoor
open Go.RowKit
set_option maxRecDepth 100000

theorem law2_big1 (s f : ByteArray) (w : World) (h : 2147483647 < s.size) : Calls Tryz.prog 4 #[.string s, .string f] w fun e w' => e = .returned (.bool true) ∧ Below w.heap.size w w' := by
  go_enter Tryz.func4, Tryz.ntmps4
  go_wp2
  go_ret
  exact ⟨rfl, Below.refl _ _⟩
theorem law2_big2 (s f : ByteArray) (w : World) (h : s.size ≤ 2147483647) (h2 : 2147483647 < f.size) : Calls Tryz.prog 4 #[.string s, .string f] w fun e w' => e = .returned (.bool true) ∧ Below w.heap.size w w' := by
  go_enter Tryz.func4, Tryz.ntmps4
  go_wp2
  go_ret
  exact ⟨rfl, Below.refl _ _⟩

set_option maxHeartbeats 2000000 in
theorem law2_small (s f : ByteArray) (w : World) (h : s.size ≤ 2147483647) (h2 : f.size ≤ 2147483647) : Calls Tryz.prog 4 #[.string s, .string f] w fun e w' => e = .returned (.bool true) ∧ Below w.heap.size w w' := by
  have HC : Hid (∀ i (h : i < [s, f].length), (w.alloc (.cells #[.string s, .string f] 9)).cell? ⟨w.heap.size, i, none⟩ = some (.string [s, f][i])) := Lib.hid (by
    intro i hi
    match i, hi with
    | 0, _ => simp
    | 1, _ => simp)
  go_enter Tryz.func4, Tryz.ntmps4
  go_wp2_with fail
  refine (ready_any [s, f] w.heap.size _ (by simp) (by simp) HC.out).mono ?_
  rintro e w1 ⟨r, rfl, hB, hr⟩
  have HB1 := Lib.hid (below_alloc hB)
  clear hB
  cases r with
  | false =>
    clear hr
    go_wp2_with (go_at_call 10; refine (alive_any _).mono ?_; rintro e w' ⟨rfl, hB⟩)
    go_ret
    exact ⟨rfl, below_next HB1.out hB⟩
  | true =>
    have hs : s.size ≤ 1000 := hr rfl s (by simp)
    have hf : f.size ≤ 1000 := hr rfl f (by simp)
    clear hr
    by_cases hf0 : f.size = 0
    · have hfe : f.toList = [] := by rw [Lib.toList_data]; exact List.length_eq_zero_iff.1 (by rw [← Lib.size_eq]; exact hf0)
      clear hf0
      go_wp2_with (go_at_call 10; refine (alive_any _).mono ?_; rintro e w' ⟨rfl, hB⟩)
      go_ret
      exact ⟨rfl, below_next HB1.out hB⟩
    · have hf1 : 1 ≤ f.size := by omega
      have hfe : ¬ f.toList = [] := by
        intro e
        have := congrArg List.length e
        rw [Lib.toList_data, ← Lib.size_eq, List.length_nil] at this; omega
      have hfe1 : f.toList.isEmpty = false := by rw [List.isEmpty_eq_false_iff]; exact hfe
      clear hf0
      go_wp2_with fail
      refine (places_any s ⟨#[194, 167]⟩ w1 h).mono ?_
      rintro e w2 ⟨a, n, c, rfl, hB2, hfree⟩
      have HB2 := Lib.hid (below_next HB1.out hB2)
      have HF := Lib.hid hfree
      clear hB2 hfree
      by_cases hn : n = 0
      · subst hn
        have HF0 := Lib.hid (HF.out rfl)
        clear HF
        go_wp2_with fail
        refine (places_any f ⟨#[194, 167]⟩ w2 h2).mono ?_
        rintro e w3 ⟨a', n', c', rfl, hB3, hfree'⟩
        have HB3 := Lib.hid (below_next HB2.out hB3)
        clear hB3 hfree'
        by_cases hn' : n' = 0
        · subst hn'
          have hR1 := rep_length f.data.toList [194, 167] s.data.toList 0
          rw [← Lib.size_eq] at hR1
          have h4 : s.size * (([194, 167] : List UInt8).length + 1) ≤ 1000 * 3 := Nat.mul_le_mul hs (by decide)
          have hback : rep [194, 167] f.data.toList 0 (rep f.data.toList [194, 167] 0 s.data.toList) = s.data.toList := by
            have := rep_back f.data.toList 194 167 (by decide) (by intro e; rw [← Lib.toList_data] at e; exact hfe e) s.data.toList 0 HF0.out
            simpa using this
          obtain ⟨R, hR⟩ : ∃ R, R = rep f.data.toList [194, 167] 0 s.data.toList := ⟨_, rfl⟩
          rw [← hR] at hback hR1
          have hRl : R.length ≤ 3000 := by omega
          have HR := Lib.hid hR
          have HBK := Lib.hid hback
          have hc1 := replace_any s f ⟨#[194, 167]⟩ w3 (by omega) hf1 h2 (by decide) (by show (rep f.data.toList [194, 167] 0 s.data.toList).length ≤ _; rw [← hR]; omega)
          have hc1' : Calls Tryz.prog 11 #[.string s, .string f, .string ⟨#[194, 167]⟩] w3 fun e w' => e = .returned (.tuple #[.string ⟨R.toArray⟩, .bool true]) ∧ Below w3.heap.size w3 w' := by
            rw [hR]; exact hc1
          have HC1 := Lib.hid hc1'
          clear hR hback hR1 h4 hc1 hc1'
          go_wp2_with fail
          refine HC1.out.mono ?_
          rintro e w4 ⟨rfl, hB4⟩
          have HB4 := Lib.hid (below_next HB3.out hB4)
          clear hB4
          go_wp2_with fail
          refine (of_true _ _).mono ?_
          rintro e w' ⟨rfl, rfl⟩
          have hl2 : (⟨R.toArray⟩ : ByteArray).size ≤ 3000 := by rw [size_mk]; omega
          have hc2 := replace_any ⟨R.toArray⟩ ⟨#[194, 167]⟩ f w4 (by omega) (by decide) (by decide) h2 (by
            show (rep [194, 167] f.data.toList 0 R).length ≤ _
            rw [HBK.out, ← Lib.size_eq]; omega)
          have hc2' : Calls Tryz.prog 11 #[.string ⟨R.toArray⟩, .string ⟨#[194, 167]⟩, .string f] w4 fun e w' => e = .returned (.tuple #[.string s, .bool true]) ∧ Below w4.heap.size w4 w' := by
            have e : strV (rep [194, 167] f.data.toList 0 R) = .string s := by rw [HBK.out, strV, Lib.mk_data]
            rw [← e]; exact hc2
          have HC2 := Lib.hid hc2'
          clear hc2 hc2'
          go_wp2_with fail
          refine HC2.out.mono ?_
          rintro e w5 ⟨rfl, hB5⟩
          have HB5 := Lib.hid (below_next HB4.out hB5)
          clear hB5
          go_wp2_with fail
          refine (of_true _ _).mono ?_
          rintro e w' ⟨rfl, rfl⟩
          go_wp2
          go_ret
          exact ⟨rfl, HB5.out⟩
        · have hn1 : 0 < n' := by omega
          clear hn'
          go_wp2_with (go_at_call 10; refine (alive_any _).mono ?_; rintro e w' ⟨rfl, hB⟩)
          go_ret
          exact ⟨rfl, below_next HB3.out hB⟩
      · have hn1 : 0 < n := by omega
        clear hn
        go_wp2_with (go_at_call 10; refine (alive_any _).mono ?_; rintro e w' ⟨rfl, hB⟩)
        go_ret
        exact ⟨rfl, below_next HB2.out hB⟩

theorem law2_any (s f : ByteArray) (w : World) : Calls Tryz.prog 4 #[.string s, .string f] w fun e w' => e = .returned (.bool true) ∧ Below w.heap.size w w' := by
  by_cases h1 : s.size ≤ 2147483647
  · by_cases h2 : f.size ≤ 2147483647
    · exact law2_small s f w h1 h2
    · exact law2_big2 s f w h1 (by omega)
  · exact law2_big1 s f w (by omega)

end Go.Proofs.YtinmmchjfifcgaaGreatDoor
