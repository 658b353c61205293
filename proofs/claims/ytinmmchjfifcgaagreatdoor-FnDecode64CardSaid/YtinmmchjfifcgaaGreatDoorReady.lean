/- spec.Valid and laws.ready: whatever the strings (each at most 2147483647 bytes for Valid): they return; a yes of ready says that each string has at most 1000 bytes. -/
import Derived.Test.YtinmmchjfifcgaaGreatDoorSign
namespace Go.Proofs.YtinmmchjfifcgaaGreatDoor
open Go.RowKit
set_option maxRecDepth 100000

def SomeBool (w : World) (e : Ending) (w' : World) : Prop := ∃ b : Bool, e = .returned (.bool b) ∧ w = w'
theorem SomeBool.mk (w : World) (b : Bool) : SomeBool w (.returned (.bool b)) w := ⟨b, rfl, rfl⟩

set_option maxHeartbeats 1000000 in
theorem valid_any (b : Nat) (s : ByteArray) (w : World) (h : w.cell? ⟨b, 0, none⟩ = some (.string s)) (hs : s.size ≤ 2147483647) :
    Calls Tryz.prog 31 #[.slice (some ⟨b, 0, none⟩) 1 1] w (SomeBool w) := by
  go_enter Tryz.func31, Tryz.ntmps31
  go_wp2
  go_loop [4, 5, 6, 7, 10] (fun x4 x5 x6 x7 i => ∃ k : Nat, i = .int .i64 k ∧ k ≤ 1) (fun _ _ _ _ i => 1 - (intOf i).toNat)
  case atStart => exact ⟨0, rfl, by omega⟩
  case round =>
    obtain ⟨k, rfl, hk⟩ := hrel
    by_cases hlt : k < 1
    · obtain rfl : k = 0 := by omega
      go_wp2
      go_loop [5, 6, 7] (fun x5 x6 x7 => ∃ j : Nat, x5 = .int .i64 j ∧ j ≤ s.size + 4) (fun x5 _ _ => s.size + 4 - (intOf x5).toNat)
      case atStart => exact ⟨0, rfl, by omega⟩
      case round =>
        obtain ⟨j, rfl, hj⟩ := hrel
        by_cases hlt2 : j < s.size
        · go_wp2_with fail
          refine (sign_any _ _ ?_ ?_).mono ?_
          · simp; omega
          · simp; omega
          rintro e w' ⟨n, ok, rfl, rfl, hn⟩
          cases ok with
          | false =>
            clear hn
            go_wp2
            go_ret
            exact SomeBool.mk _ _
          | true =>
            obtain ⟨m, rfl⟩ : ∃ m : Nat, n = m := ⟨n.toNat, by have := hn rfl; omega⟩
            have hm1 : 1 ≤ m := by have := hn rfl; omega
            have hm4 : m ≤ 4 := by have := hn rfl; omega
            clear hn
            go_wp2
            go_round
            case rel => exact ⟨j + m, by go_num, by omega⟩
            case measure => simp [intOf]; omega
        · go_wp2
          go_round
          case rel => exact ⟨1, by go_num, by omega⟩
          case measure => simp [intOf]
    · go_wp2
      go_ret
      exact SomeBool.mk _ _

def ReadyPost (L : List ByteArray) (w : World) (e : Ending) (w' : World) : Prop := ∃ r : Bool, e = .returned (.bool r) ∧ Below w.heap.size w w' ∧ (r = true → ∀ s ∈ L, s.size ≤ 1000)
def SmallTo (L : List ByteArray) (k : Nat) : Prop := ∀ j (h : j < L.length), j < k → L[j].size ≤ 1000
theorem SmallTo.zero (L : List ByteArray) : SmallTo L 0 := fun j _ h => absurd h (by omega)
theorem SmallTo.succ {L : List ByteArray} {k : Nat} (h : SmallTo L k) (hk : k < L.length) (hs : L[k].size ≤ 1000) : SmallTo L (k + 1) := by
  intro j hj hlt
  by_cases e : j = k
  · subst e; exact hs
  · exact h j hj (by omega)
theorem SmallTo.all {L : List ByteArray} (h : SmallTo L L.length) : ∀ s ∈ L, s.size ≤ 1000 := by
  intro s hs
  obtain ⟨j, hj, rfl⟩ := List.getElem_of_mem hs
  exact h j hj hj
theorem ReadyPost.no {L : List ByteArray} {w w' : World} (h : Below w.heap.size w w') : ReadyPost L w (.returned (.bool false)) w' := ⟨false, rfl, h, by simp⟩
theorem ReadyPost.yes {L : List ByteArray} {w w' : World} (h : Below w.heap.size w w') (hs : ∀ s ∈ L, s.size ≤ 1000) : ReadyPost L w (.returned (.bool true)) w' := ⟨true, rfl, h, fun _ => hs⟩

set_option maxHeartbeats 1000000 in
theorem ready_any (L : List ByteArray) (b : Nat) (w : World) (hb : b < w.heap.size) (hL : L.length ≤ 100) (hc : ∀ i (h : i < L.length), w.cell? ⟨b, i, none⟩ = some (.string L[i])) :
    Calls Tryz.prog 9 #[.slice (some ⟨b, 0, none⟩) L.length L.length] w (ReadyPost L w) := by
  have HC := Lib.hid hc
  clear hc
  go_enter Tryz.func9, Tryz.ntmps9
  go_wp2
  go_loopw [4, 7] (fun x4 i wr => ∃ k : Nat, i = .int .i64 k ∧ k ≤ L.length ∧ Below w.heap.size w wr ∧ SmallTo L k) (fun _ i _ => L.length - (intOf i).toNat)
  case atStart => exact ⟨0, rfl, by omega, Below.refl _ _, SmallTo.zero _⟩
  case round =>
    obtain ⟨k, rfl, hk, hB, hS⟩ := hrel
    have HB := Lib.hid hB
    have HS := Lib.hid hS
    by_cases hlt : k < L.length
    · have hcell : wr.cell? ⟨b, k, none⟩ = some (.string L[k]) := by rw [hB.cell (p := ⟨b, k, none⟩) hb]; exact HC.out k hlt
      clear hB hS
      by_cases hbig : 1000 < L[k].size
      · go_wp2
        go_ret
        exact ReadyPost.no HB.out
      · have hs : L[k].size ≤ 1000 := by omega
        go_wp2_with fail
        refine (valid_any _ L[k] _ (by go_simp) (by omega)).mono ?_
        rintro e w' ⟨v, rfl, rfl⟩
        cases v with
        | false =>
          go_wp2
          go_ret
          exact ReadyPost.no (HB.out.alloc HB.out.size _)
        | true =>
          go_wp2
          go_roundw
          case rel => exact ⟨k + 1, by go_num, by omega, HB.out.alloc HB.out.size _, HS.out.succ hlt hs⟩
          case measure => simp [intOf]; omega
    · obtain rfl : k = L.length := by omega
      clear hB hS
      go_wp2
      go_ret
      exact ReadyPost.yes HB.out HS.out.all

end Go.Proofs.YtinmmchjfifcgaaGreatDoor
