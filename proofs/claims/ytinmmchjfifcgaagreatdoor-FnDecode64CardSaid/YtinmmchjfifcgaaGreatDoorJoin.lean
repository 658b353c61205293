/- spec.Join returns what the plain function says: where the whole is of at most 140737488355328 bytes, the text between of at most 2147483647. -/
import Derived.Test.YtinmmchjfifcgaaGreatDoorSplit
namespace Go.Proofs.YtinmmchjfifcgaaGreatDoor
open Go.RowKit
set_option maxRecDepth 100000

theorem size_mk (l : List UInt8) : (⟨l.toArray⟩ : ByteArray).size = l.length := by rw [Lib.size_eq]

theorem strV_app (a b : List UInt8) : (⟨a.toArray⟩ : ByteArray) ++ ⟨b.toArray⟩ = ⟨(a ++ b).toArray⟩ := by
  apply ByteArray.ext; simp

set_option maxHeartbeats 1000000 in
theorem join_any (t : List UInt8) (L : List (List UInt8)) (g cap : Nat) (w : World) (hL : L.length ≤ 2147483648) (hJ : (joinL t L).length ≤ 140737488355328) (ht : t.length ≤ 2147483647)
    (hc : ∀ i (h : i < L.length), w.cell? ⟨g, i, none⟩ = some (strV L[i])) :
    Calls Tryz.prog 13 #[.slice (some ⟨g, 0, none⟩) L.length cap, .string ⟨t.toArray⟩] w fun e w' => e = .returned (strV (joinL t L)) ∧ w = w' := by
  have HC := Lib.hid hc
  have HJ := Lib.hid hJ
  clear hc hJ
  go_enter Tryz.func13, Tryz.ntmps13
  go_wp2
  go_loop [5, 6, 7, 10] (fun out x6 x7 i => ∃ k : Nat, i = .int .i64 k ∧ k ≤ L.length ∧ out = .string ⟨(joinTo t L k).toArray⟩) (fun _ _ _ i => L.length - (intOf i).toNat)
  case atStart => exact ⟨0, rfl, by omega, rfl⟩
  case round =>
    obtain ⟨k, rfl, hk, rfl⟩ := hrel
    by_cases hlt : k < L.length
    · have hcell : w.cell? ⟨g, k, none⟩ = some (.string ⟨(L[k]).toArray⟩) := HC.out k hlt
      obtain ⟨S, hS⟩ : ∃ S : List UInt8, S = L[k] := ⟨_, rfl⟩
      rw [← hS] at hcell
      have hb1 := joinTo_le t L (L.length - (k + 1)) (k + 1) (by omega)
      have hb1 := Nat.le_trans hb1 HJ.out
      by_cases h0 : k = 0
      · subst h0
        rw [joinTo_one t L hlt] at hb1
        have e1 := joinTo_one t L hlt
        rw [← hS] at e1 hb1
        have E1 := Lib.hid e1
        clear e1 hS
        rw [joinTo_zero]
        go_wp2
        go_round
        case rel => exact ⟨1, by go_num, by omega, by rw [E1.out]; exact congrArg Value.string (strV_app [] S)⟩
        case measure => simp [intOf]; omega
      · have e1 := joinTo_succ t L k (by omega) hlt
        rw [← hS] at e1
        rw [e1] at hb1
        rw [List.length_append, List.length_append] at hb1
        obtain ⟨A, hA⟩ : ∃ A : List UInt8, A = joinTo t L k := ⟨_, rfl⟩
        rw [← hA] at e1 hb1 ⊢
        have E1 := Lib.hid e1
        clear e1 hS hA
        have hAs : (⟨A.toArray⟩ : ByteArray).size ≤ 140737488355328 := by rw [size_mk]; omega
        have hts : (⟨t.toArray⟩ : ByteArray).size ≤ 2147483647 := by rw [size_mk]; omega
        have hSs : (⟨S.toArray⟩ : ByteArray).size ≤ 140737488355328 := by rw [size_mk]; omega
        go_wp2
        go_round
        case rel => exact ⟨k + 1, by go_num, by omega, by rw [E1.out, strV_app, strV_app]⟩
        case measure => simp [intOf]; omega
    · obtain rfl : k = L.length := by omega
      go_wp2
      go_ret
      exact ⟨by rw [joinTo_all]; rfl, rfl⟩

end Go.Proofs.YtinmmchjfifcgaaGreatDoor
