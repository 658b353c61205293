/- DecodedLen of the padded encodings. -/
import Derived.Test.YtinmmchjfifcgaaGreatDoorCallMore
namespace Go.Proofs.YtinmmchjfifcgaaGreatDoor
open Go.RowKit
set_option maxRecDepth 100000

theorem decodedLen_any (n : Nat) (w : World) (hn : n ≤ 1000000) : Calls Tryz.prog 113 #[.int .i64 (n : Int), .int .i32 61] w fun e w' => e = .returned (.int .i64 ((n / 4 * 3 : Nat) : Int)) ∧ w = w' := by
  go_enter Tryz.func113, Tryz.ntmps113
  go_wp2
  go_ret
  exact ⟨by simp, rfl⟩
theorem decLen_any (eb n : Nat) (w : World) (h : w.cell? ⟨eb, 320, none⟩ = some (.int .i32 61)) (hn : n ≤ 1000000) : Calls Tryz.prog 94 #[.pointer (some ⟨eb, 0, none⟩), .int .i64 (n : Int)] w fun e w' => e = .returned (.int .i64 ((n / 4 * 3 : Nat) : Int)) ∧ w = w' := by
  have H := Lib.hid (decodedLen_any n w hn)
  go_enter Tryz.func94, Tryz.ntmps94
  go_wp2_with fail
  refine H.out.mono ?_
  rintro e w' ⟨rfl, rfl⟩
  go_wp2
  go_ret
  exact ⟨rfl, rfl⟩

end Go.Proofs.YtinmmchjfifcgaaGreatDoor
