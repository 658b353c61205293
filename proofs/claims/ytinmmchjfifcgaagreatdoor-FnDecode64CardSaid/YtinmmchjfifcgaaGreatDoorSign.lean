/- spec.sign, spec.Valid, laws.ready: what they hand back, whatever the strings of at most 2147483647 bytes: some answer; ready's yes says that each string has at most 1000 bytes. -/
import Derived.Test.YtinmmchjfifcgaaGreatDoorCore
namespace Go.Proofs.YtinmmchjfifcgaaGreatDoor
open Go.RowKit
set_option maxRecDepth 100000

def SignPost (w : World) (e : Ending) (w' : World) : Prop := ∃ (n : Int) (ok : Bool), e = .returned (.tuple #[.int .i64 n, .bool ok]) ∧ w = w' ∧ (ok = true → 1 ≤ n ∧ n ≤ 4)
theorem SignPost.mk (w : World) (n : Int) (ok : Bool) (h : ok = true → 1 ≤ n ∧ n ≤ 4) : SignPost w (.returned (.tuple #[.int .i64 n, .bool ok])) w := ⟨n, ok, rfl, rfl, h⟩

def AnyInt (v : Value) : Prop := ∃ c : Int, v = .int .i64 c
theorem AnyInt.mk (c : Int) : AnyInt (.int .i64 c) := ⟨c, rfl⟩

set_option maxHeartbeats 1000000 in
theorem sign_4 (s : ByteArray) (w : World) (h0 : 4 ≤ s.size) (hs : s.size ≤ 2147483647) (h1 : 240 ≤ (s[0].toNat : Int)) (h2 : (s[0].toNat : Int) < 248) : Calls Tryz.prog 48 #[.string s] w (SignPost w) := by
  go_enter Tryz.func48, Tryz.ntmps48
  go_wp2
  go_loop [4, 7] (fun c i => AnyInt c ∧ ∃ k : Nat, i = .int .i64 k ∧ 1 ≤ k ∧ k ≤ 4) (fun _ i => 5 - (intOf i).toNat)
  case atStart => exact ⟨AnyInt.mk _, 1, rfl, by omega, by omega⟩
  case round =>
    obtain ⟨⟨c, rfl⟩, k, rfl, hk1, hk4⟩ := hrel
    by_cases hlt : k < 4
    · go_wp2
      all_goals first
        | (go_ret2; exact SignPost.mk _ _ _ (by simp))
        | skip
      go_round
      case rel => exact ⟨AnyInt.mk _, k + 1, by go_num, by omega, by omega⟩
      case measure => simp [intOf]; omega
    · go_wp2
      all_goals (go_ret2; exact SignPost.mk _ _ _ (by simp))

theorem sign_4s (s : ByteArray) (w : World) (h0 : 0 < s.size) (h0' : s.size < 4) (h1 : 240 ≤ (s[0].toNat : Int)) (h2 : (s[0].toNat : Int) < 248) : Calls Tryz.prog 48 #[.string s] w (SignPost w) := by
  go_enter Tryz.func48, Tryz.ntmps48
  go_wp2
  go_ret2
  exact SignPost.mk _ _ _ (by simp)

set_option maxHeartbeats 1000000 in
theorem sign_3 (s : ByteArray) (w : World) (h0 : 3 ≤ s.size) (hs : s.size ≤ 2147483647) (h1 : 224 ≤ (s[0].toNat : Int)) (h2 : (s[0].toNat : Int) < 240) : Calls Tryz.prog 48 #[.string s] w (SignPost w) := by
  go_enter Tryz.func48, Tryz.ntmps48
  go_wp2
  go_loop [4, 7] (fun c i => AnyInt c ∧ ∃ k : Nat, i = .int .i64 k ∧ 1 ≤ k ∧ k ≤ 3) (fun _ i => 5 - (intOf i).toNat)
  case atStart => exact ⟨AnyInt.mk _, 1, rfl, by omega, by omega⟩
  case round =>
    obtain ⟨⟨c, rfl⟩, k, rfl, hk1, hk4⟩ := hrel
    by_cases hlt : k < 3
    · go_wp2
      all_goals first
        | (go_ret2; exact SignPost.mk _ _ _ (by simp))
        | skip
      go_round
      case rel => exact ⟨AnyInt.mk _, k + 1, by go_num, by omega, by omega⟩
      case measure => simp [intOf]; omega
    · go_wp2
      all_goals (go_ret2; exact SignPost.mk _ _ _ (by simp))

theorem sign_3s (s : ByteArray) (w : World) (h0 : 0 < s.size) (h0' : s.size < 3) (h1 : 224 ≤ (s[0].toNat : Int)) (h2 : (s[0].toNat : Int) < 240) : Calls Tryz.prog 48 #[.string s] w (SignPost w) := by
  go_enter Tryz.func48, Tryz.ntmps48
  go_wp2
  go_ret2
  exact SignPost.mk _ _ _ (by simp)

set_option maxHeartbeats 1000000 in
theorem sign_2 (s : ByteArray) (w : World) (h0 : 2 ≤ s.size) (hs : s.size ≤ 2147483647) (h1 : 192 ≤ (s[0].toNat : Int)) (h2 : (s[0].toNat : Int) < 224) : Calls Tryz.prog 48 #[.string s] w (SignPost w) := by
  go_enter Tryz.func48, Tryz.ntmps48
  go_wp2
  go_loop [4, 7] (fun c i => AnyInt c ∧ ∃ k : Nat, i = .int .i64 k ∧ 1 ≤ k ∧ k ≤ 2) (fun _ i => 5 - (intOf i).toNat)
  case atStart => exact ⟨AnyInt.mk _, 1, rfl, by omega, by omega⟩
  case round =>
    obtain ⟨⟨c, rfl⟩, k, rfl, hk1, hk4⟩ := hrel
    by_cases hlt : k < 2
    · go_wp2
      all_goals first
        | (go_ret2; exact SignPost.mk _ _ _ (by simp))
        | skip
      go_round
      case rel => exact ⟨AnyInt.mk _, k + 1, by go_num, by omega, by omega⟩
      case measure => simp [intOf]; omega
    · go_wp2
      all_goals (go_ret2; exact SignPost.mk _ _ _ (by simp))

theorem sign_2s (s : ByteArray) (w : World) (h0 : 0 < s.size) (h0' : s.size < 2) (h1 : 192 ≤ (s[0].toNat : Int)) (h2 : (s[0].toNat : Int) < 224) : Calls Tryz.prog 48 #[.string s] w (SignPost w) := by
  go_enter Tryz.func48, Tryz.ntmps48
  go_wp2
  go_ret2
  exact SignPost.mk _ _ _ (by simp)

theorem sign_1 (s : ByteArray) (w : World) (h0 : 0 < s.size) (h2 : (s[0].toNat : Int) < 128) : Calls Tryz.prog 48 #[.string s] w (SignPost w) := by
  go_enter Tryz.func48, Tryz.ntmps48
  go_wp2
  go_ret2
  exact SignPost.mk _ _ _ (by simp)

theorem sign_0 (s : ByteArray) (w : World) (h0 : 0 < s.size) (h1 : 128 ≤ (s[0].toNat : Int)) (h2 : (s[0].toNat : Int) < 192) : Calls Tryz.prog 48 #[.string s] w (SignPost w) := by
  go_enter Tryz.func48, Tryz.ntmps48
  go_wp2
  go_ret2
  exact SignPost.mk _ _ _ (by simp)

theorem sign_5 (s : ByteArray) (w : World) (h0 : 0 < s.size) (h1 : 248 ≤ (s[0].toNat : Int)) (h2 : (s[0].toNat : Int) < 256) : Calls Tryz.prog 48 #[.string s] w (SignPost w) := by
  go_enter Tryz.func48, Tryz.ntmps48
  go_wp2
  go_ret2
  exact SignPost.mk _ _ _ (by simp)

theorem sign_any (s : ByteArray) (w : World) (h0 : 0 < s.size) (hs : s.size ≤ 2147483647) : Calls Tryz.prog 48 #[.string s] w (SignPost w) := by
  have hb : (s[0].toNat : Int) < 256 := by have := s[0].toNat_lt; omega
  rcases (show (s[0].toNat : Int) < 128 ∨ (128 ≤ (s[0].toNat : Int) ∧ (s[0].toNat : Int) < 192) ∨ (192 ≤ (s[0].toNat : Int) ∧ (s[0].toNat : Int) < 224) ∨ (224 ≤ (s[0].toNat : Int) ∧ (s[0].toNat : Int) < 240) ∨ (240 ≤ (s[0].toNat : Int) ∧ (s[0].toNat : Int) < 248) ∨ 248 ≤ (s[0].toNat : Int) from by omega) with h | ⟨h1, h2⟩ | ⟨h1, h2⟩ | ⟨h1, h2⟩ | ⟨h1, h2⟩ | h
  · exact sign_1 s w h0 h
  · exact sign_0 s w h0 h1 h2
  · by_cases hn : s.size < 2
    · exact sign_2s s w h0 hn h1 h2
    · exact sign_2 s w (by omega) hs h1 h2
  · by_cases hn : s.size < 3
    · exact sign_3s s w h0 hn h1 h2
    · exact sign_3 s w (by omega) hs h1 h2
  · by_cases hn : s.size < 4
    · exact sign_4s s w h0 hn h1 h2
    · exact sign_4 s w (by omega) hs h1 h2
  · exact sign_5 s w h0 h hb

end Go.Proofs.YtinmmchjfifcgaaGreatDoor
