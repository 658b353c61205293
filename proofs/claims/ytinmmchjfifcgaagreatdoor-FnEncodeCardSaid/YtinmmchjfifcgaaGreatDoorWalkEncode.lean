/- laws.FnEncode returns true, whatever the string; nothing that was there before the call turns. -/
import Derived.Test.YtinmmchjfifcgaaGreatDoorSpecEnc
namespace Go.Proofs.YtinmmchjfifcgaaGreatDoor
open Go.RowKit
set_option maxRecDepth 100000

theorem law6_big (s : ByteArray) (w : World) (h : 2147483647 < s.size) : Calls Tryz.prog 6 #[.string s] w fun e w' => e = .returned (.bool true) ∧ Below w.heap.size w w' := by
  go_enter Tryz.func6, Tryz.ntmps6
  go_wp2
  go_ret
  exact ⟨rfl, Below.refl _ _⟩

/-- What the four encoders return, and the reference beside them. -/
structure Four (s : ByteArray) (R1 R2 R3 R4 : List UInt8) : Prop where
  e1 : ∀ w, Calls Tryz.prog 20 #[.string s] w fun e w' => e = .returned (.tuple #[.string ⟨R1.toArray⟩, .bool true]) ∧ Below w.heap.size w w'
  e2 : ∀ w, Calls Tryz.prog 19 #[.string s] w fun e w' => e = .returned (.tuple #[.string ⟨R2.toArray⟩, .bool true]) ∧ Below w.heap.size w w'
  e3 : ∀ w, Calls Tryz.prog 17 #[.string s] w fun e w' => e = .returned (.tuple #[.string ⟨R3.toArray⟩, .bool true]) ∧ Below w.heap.size w w'
  e4 : ∀ w, Calls Tryz.prog 21 #[.string s] w fun e w' => e = .returned (.tuple #[.string ⟨R4.toArray⟩, .bool true]) ∧ Below w.heap.size w w'
  s1 : ∀ w, Calls Tryz.prog 22 #[.string s, .string ⟨#[65, 66, 67, 68, 69, 70, 71, 72, 73, 74, 75, 76, 77, 78, 79, 80, 81, 82, 83, 84, 85, 86, 87, 88, 89, 90, 97, 98, 99, 100, 101, 102, 103, 104, 105, 106, 107, 108, 109, 110, 111, 112, 113, 114, 115, 116, 117, 118, 119, 120, 121, 122, 48, 49, 50, 51, 52, 53, 54, 55, 56, 57, 43, 47]⟩, .bool true] w fun e w' => e = .returned (.string ⟨R1.toArray⟩) ∧ w = w'
  s2 : ∀ w, Calls Tryz.prog 22 #[.string s, .string ⟨#[65, 66, 67, 68, 69, 70, 71, 72, 73, 74, 75, 76, 77, 78, 79, 80, 81, 82, 83, 84, 85, 86, 87, 88, 89, 90, 97, 98, 99, 100, 101, 102, 103, 104, 105, 106, 107, 108, 109, 110, 111, 112, 113, 114, 115, 116, 117, 118, 119, 120, 121, 122, 48, 49, 50, 51, 52, 53, 54, 55, 56, 57, 45, 95]⟩, .bool true] w fun e w' => e = .returned (.string ⟨R2.toArray⟩) ∧ w = w'
  s3 : ∀ w, Calls Tryz.prog 22 #[.string s, .string ⟨#[65, 66, 67, 68, 69, 70, 71, 72, 73, 74, 75, 76, 77, 78, 79, 80, 81, 82, 83, 84, 85, 86, 87, 88, 89, 90, 97, 98, 99, 100, 101, 102, 103, 104, 105, 106, 107, 108, 109, 110, 111, 112, 113, 114, 115, 116, 117, 118, 119, 120, 121, 122, 48, 49, 50, 51, 52, 53, 54, 55, 56, 57, 45, 95]⟩, .bool false] w fun e w' => e = .returned (.string ⟨R3.toArray⟩) ∧ w = w'
  s4 : ∀ w, Calls Tryz.prog 23 #[.string s] w fun e w' => e = .returned (.string ⟨R4.toArray⟩) ∧ Below w.heap.size w w'

theorem four_any (s : ByteArray) (hs : s.size ≤ 1000) : Four s (encB alphaS.data.toList true s.data.toList) (encB alphaU.data.toList true s.data.toList) (encB alphaU.data.toList false s.data.toList) (Lib.Hx.encode s.data.toList) :=
  ⟨encodeStd_any s hs, encodeURL_any s hs, encodeRaw_any s hs, encodeHex_any s hs, fun w => specEncode_any alphaS s true w hs rfl, fun w => specEncode_any alphaU s true w hs rfl, fun w => specEncode_any alphaU s false w hs rfl, fun w => specHex_any s w hs⟩

set_option maxHeartbeats 1000000 in
theorem law6_small (s : ByteArray) (w : World) (h : s.size ≤ 2147483647) : Calls Tryz.prog 6 #[.string s] w fun e w' => e = .returned (.bool true) ∧ Below w.heap.size w w' := by
  have HC : Hid (∀ i (h : i < [s].length), (w.alloc (.cells #[.string s] 9)).cell? ⟨w.heap.size, i, none⟩ = some (.string [s][i])) := Lib.hid (by
    intro i hi
    match i, hi with
    | 0, _ => simp)
  go_enter Tryz.func6, Tryz.ntmps6
  go_wp2_with fail
  refine (ready_any [s] w.heap.size _ (by simp) (by simp) HC.out).mono ?_
  rintro e w1 ⟨r, rfl, hB, hr⟩
  have HB1 := Lib.hid (below_alloc hB)
  clear hB
  cases r with
  | false =>
    clear hr
    go_wp2
    go_ret
    exact ⟨rfl, HB1.out⟩
  | true =>
    have hs : s.size ≤ 1000 := hr rfl s (by simp)
    clear hr
    have hF := four_any s hs
    obtain ⟨R1, hR1⟩ : ∃ R, R = encB alphaS.data.toList true s.data.toList := ⟨_, rfl⟩
    obtain ⟨R2, hR2⟩ : ∃ R, R = encB alphaU.data.toList true s.data.toList := ⟨_, rfl⟩
    obtain ⟨R3, hR3⟩ : ∃ R, R = encB alphaU.data.toList false s.data.toList := ⟨_, rfl⟩
    obtain ⟨R4, hR4⟩ : ∃ R, R = Lib.Hx.encode s.data.toList := ⟨_, rfl⟩
    rw [← hR1, ← hR2, ← hR3, ← hR4] at hF
    have F := Lib.hid hF
    clear hF hR1 hR2 hR3 hR4
    go_wp2_with fail
    refine (F.out.e1 w1).mono ?_
    rintro e w2 ⟨rfl, hB2⟩
    have HB2 := Lib.hid (below_next HB1.out hB2)
    clear hB2
    go_wp2_with fail
    refine (F.out.e2 w2).mono ?_
    rintro e w3 ⟨rfl, hB3⟩
    have HB3 := Lib.hid (below_next HB2.out hB3)
    clear hB3
    go_wp2_with fail
    refine (F.out.e3 w3).mono ?_
    rintro e w4 ⟨rfl, hB4⟩
    have HB4 := Lib.hid (below_next HB3.out hB4)
    clear hB4
    go_wp2_with fail
    refine (F.out.e4 w4).mono ?_
    rintro e w5 ⟨rfl, hB5⟩
    have HB5 := Lib.hid (below_next HB4.out hB5)
    clear hB5
    go_wp2_with fail
    refine (F.out.s1 w5).mono ?_
    rintro e w' ⟨rfl, rfl⟩
    go_wp2_with fail
    refine (is_same _ _).mono ?_
    rintro e w' ⟨rfl, rfl⟩
    go_wp2_with fail
    refine (F.out.s2 w5).mono ?_
    rintro e w' ⟨rfl, rfl⟩
    go_wp2_with fail
    refine (is_same _ _).mono ?_
    rintro e w' ⟨rfl, rfl⟩
    go_wp2_with fail
    refine (F.out.s3 w5).mono ?_
    rintro e w' ⟨rfl, rfl⟩
    go_wp2_with fail
    refine (is_same _ _).mono ?_
    rintro e w' ⟨rfl, rfl⟩
    go_wp2_with fail
    refine (F.out.s4 w5).mono ?_
    rintro e w6 ⟨rfl, hB6⟩
    have HB6 := Lib.hid (below_next HB5.out hB6)
    clear hB6
    go_wp2_with fail
    refine (is_same _ _).mono ?_
    rintro e w' ⟨rfl, rfl⟩
    go_wp2_with (go_at_call 10; refine (alive_any _).mono ?_; rintro e w' ⟨rfl, hB⟩)
    go_ret
    exact ⟨rfl, below_next HB6.out hB⟩

theorem law6_any (s : ByteArray) (w : World) : Calls Tryz.prog 6 #[.string s] w fun e w' => e = .returned (.bool true) ∧ Below w.heap.size w w' := by
  by_cases h1 : s.size ≤ 2147483647
  · exact law6_small s w h1
  · exact law6_big s w (by omega)

end Go.Proofs.YtinmmchjfifcgaaGreatDoor
