/- laws.FnDecode64 returns true, whatever the string; nothing that was there before the call turns. -/
import Derived.Test.YtinmmchjfifcgaaGreatDoorImpl64
namespace Go.Proofs.YtinmmchjfifcgaaGreatDoor
open Go.RowKit
set_option maxRecDepth 100000

theorem law8_big (s : ByteArray) (w : World) (h : 2147483647 < s.size) : Calls Tryz.prog 8 #[.string s] w fun e w' => e = .returned (.bool true) ∧ Below w.heap.size w w' := by
  go_enter Tryz.func8, Tryz.ntmps8
  go_wp2
  go_ret
  exact ⟨rfl, Below.refl _ _⟩

theorem specDecode_lit (s : ByteArray) (w : World) (hs : s.size ≤ 1000) : Calls Tryz.prog 28 #[.string s, .string ⟨#[65, 66, 67, 68, 69, 70, 71, 72, 73, 74, 75, 76, 77, 78, 79, 80, 81, 82, 83, 84, 85, 86, 87, 88, 89, 90, 97, 98, 99, 100, 101, 102, 103, 104, 105, 106, 107, 108, 109, 110, 111, 112, 113, 114, 115, 116, 117, 118, 119, 120, 121, 122, 48, 49, 50, 51, 52, 53, 54, 55, 56, 57, 43, 47]⟩] w (DecPost s w) := specDecode_any s w hs

/-- No letter more than bytes. -/
theorem dec_len : ∀ (l R : List UInt8), dec l = some R → R.length ≤ l.length
  | [], R, h => by simp [dec] at h; subst h; simp
  | [_], _, h => by cases h
  | [_, _], _, h => by cases h
  | [_, _, _], _, h => by cases h
  | a :: b :: c :: d :: r, R, h => by
    rcases hk : kq a b c d r with _ | k
    · rw [dec_none _ _ _ _ _ hk] at h; cases h
    · rw [dec_some hk] at h
      rcases hr : dec r with _ | R'
      · rw [hr] at h; cases h
      · rw [hr] at h
        simp only [Option.map_some, Option.some.injEq] at h
        have h1 := dec_len r R' hr
        have h2 := kq_le hk
        rw [← h, List.length_append, grp_len _ _ h2]
        simp only [List.length_cons]; omega

set_option maxHeartbeats 1000000 in
theorem law8_small (s : ByteArray) (w : World) (h : s.size ≤ 2147483647) : Calls Tryz.prog 8 #[.string s] w fun e w' => e = .returned (.bool true) ∧ Below w.heap.size w w' := by
  have HC : Hid (∀ i (h : i < [s].length), (w.alloc (.cells #[.string s] 9)).cell? ⟨w.heap.size, i, none⟩ = some (.string [s][i])) := Lib.hid (by
    intro i hi
    match i, hi with
    | 0, _ => simp)
  go_enter Tryz.func8, Tryz.ntmps8
  go_wp2_with fail
  refine (ready_any [s] w.heap.size _ (by simp) (by simp) HC.out).mono ?_
  rintro e w1 ⟨r, rfl, hB, hr⟩
  have HB1 := Lib.hid (below_alloc hB)
  clear hB
  cases r with
  | false =>
    clear hr
    go_wp2
    go_ret
    exact ⟨rfl, HB1.out⟩
  | true =>
    have hs : s.size ≤ 1000 := hr rfl s (by simp)
    clear hr
    go_wp2_with fail
    refine (specDecode_lit s w1 hs).mono ?_
    rintro e w2 ⟨hB2, R, code, rfl, rfl | ⟨⟨hn1, hn2⟩, ⟨rfl, hR⟩ | ⟨rfl, hR⟩⟩⟩
    · -- left open
      have HB2 := Lib.hid (below_next HB1.out hB2)
      clear hB2
      go_wp2_with fail
      refine (alive_any _).mono ?_
      rintro e w' ⟨rfl, hB⟩
      have HB3 := Lib.hid (below_next HB2.out hB)
      clear hB
      go_wp2
      go_ret
      exact ⟨rfl, HB3.out⟩
    · -- none
      have HB2 := Lib.hid (below_next HB1.out hB2)
      have HN := Lib.hid (noNl_of hn1 hn2)
      have HD := Lib.hid (decode64_no s hs HN.out hR w2)
      have HV := Lib.hid (valid64_any s hs HN.out)
      rw [hR] at HV
      clear hB2 hn1 hn2 hR
      go_wp2_with fail
      refine HD.out.mono ?_
      rintro e w3 ⟨rfl, hB3⟩
      have HB3 := Lib.hid (below_next HB2.out hB3)
      clear hB3
      go_wp2_with fail
      refine (HV.out w3).mono ?_
      rintro e w4 ⟨rfl, hB4⟩
      have HB4 := Lib.hid (below_next HB3.out hB4)
      clear hB4
      go_wp2
      go_ret
      exact ⟨rfl, HB4.out⟩
    · -- the bytes
      have HB2 := Lib.hid (below_next HB1.out hB2)
      have HN := Lib.hid (noNl_of hn1 hn2)
      have HD := Lib.hid (decode64_yes s hs HN.out R hR w2)
      have HV := Lib.hid (valid64_any s hs HN.out)
      have hl : R.length ≤ 1000 := by have := dec_len _ _ hR; rw [← Lib.size_eq] at this; omega
      rw [hR] at HV
      clear hB2 hn1 hn2 hR
      obtain ⟨T, hT⟩ : ∃ T : ByteArray, T = ⟨R.toArray⟩ := ⟨_, rfl⟩
      have hTs : T.size ≤ 2147483647 := by rw [hT, Lib.size_eq]; simpa using (by omega : R.length ≤ 2147483647)
      rw [← hT] at HD ⊢
      clear hT hl
      go_wp2_with fail
      refine HD.out.mono ?_
      rintro e w3 ⟨rfl, hB3⟩
      have HB3 := Lib.hid (below_next HB2.out hB3)
      clear hB3
      go_wp2_with fail
      refine (HV.out w3).mono ?_
      rintro e w4 ⟨rfl, hB4⟩
      have HB4 := Lib.hid (below_next HB3.out hB4)
      clear hB4
      go_wp2_with fail
      refine (valid_any _ T _ (by simp) hTs).mono ?_
      rintro e w5 ⟨b, rfl, rfl⟩
      have HB5 := Lib.hid (HB4.out.alloc HB4.out.size (.cells #[.string T] 9))
      cases b with
      | false =>
        go_wp2_with fail
        refine (alive_any _).mono ?_
        rintro e w' ⟨rfl, hB⟩
        have HB6 := Lib.hid (below_next HB5.out hB)
        clear hB
        go_wp2
        go_ret
        exact ⟨rfl, HB6.out⟩
      | true =>
        go_wp2_with fail
        refine (is_same _ _).mono ?_
        rintro e w' ⟨rfl, rfl⟩
        go_wp2
        go_ret
        exact ⟨rfl, HB5.out⟩

theorem law8_any (s : ByteArray) (w : World) : Calls Tryz.prog 8 #[.string s] w fun e w' => e = .returned (.bool true) ∧ Below w.heap.size w w' := by
  by_cases h1 : s.size ≤ 2147483647
  · exact law8_small s w h1
  · exact law8_big s w (by omega)

end Go.Proofs.YtinmmchjfifcgaaGreatDoor
