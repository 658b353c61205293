/- spec.Places: where it hands back no place, the text stands nowhere in the string (of at most 2147483647 bytes). -/
import Derived.Test.YtinmmchjfifcgaaGreatDoorSplit
namespace Go.Proofs.YtinmmchjfifcgaaGreatDoor
open Go.RowKit
set_option maxRecDepth 100000

theorem info3 : (Tryz.prog.info? 3).map (fun i => (i.zero, i.size, i.bytes)) = some (some (.int .i64 0), 1, 8) := by kernel_rfl

/-- The loop of Places: P are the places found before k. -/
structure PlacesAt (s t : List UInt8) (B : Nat) (w : World) (v : Value) (k : Nat) (wr : World) (P : List Int) : Prop where
  pl : P.length ≤ k
  own : wr.ownsRow B 3 1 v P.length (P.map (Value.int .i64))
  bel : Below B w wr
  no : P = [] → ∀ j, j < k → (s.drop j).take t.length ≠ t

theorem PlacesAt.start (s t : List UInt8) (B : Nat) (w : World) : PlacesAt s t B w (.slice none 0 0) 0 w [] :=
  ⟨Nat.le_refl _, World.ownsRow_nil _ _ _ _, Below.refl _ _, fun _ j hj => absurd hj (by omega)⟩
theorem PlacesAt.miss {s t : List UInt8} {B : Nat} {w wr : World} {v : Value} {k : Nat} {P : List Int} (h : PlacesAt s t B w v k wr P) (hm : (s.drop k).take t.length ≠ t) : PlacesAt s t B w v (k + 1) wr P :=
  ⟨by have := h.pl; omega, h.own, h.bel, fun hp j hj => by
    by_cases e : j = k
    · subst e; exact hm
    · exact h.no hp j (by omega)⟩
theorem PlacesAt.hit {s t : List UInt8} {B : Nat} {w wr w1 : World} {v v' : Value} {k : Nat} {P : List Int} (h : PlacesAt s t B w v k wr P) (x : Int)
    (hown : w1.ownsRow B 3 1 v' (P.length + 1) (P.map (Value.int .i64) ++ [.int .i64 x])) (hb : Below B w w1) : PlacesAt s t B w v' (k + 1) w1 (P ++ [x]) :=
  ⟨by rw [List.length_append, List.length_singleton]; have := h.pl; omega, by simpa using hown, hb, fun hp => by simp at hp⟩

def PlacesPost (s t : List UInt8) (w : World) (e : Ending) (w' : World) : Prop := ∃ (a : Option Addr) (n c : Nat), e = .returned (.slice a n c) ∧ Below w.heap.size w w' ∧ (n = 0 → Free t s)
theorem PlacesAt.last {s t : List UInt8} {w wr : World} {v : Value} {P : List Int} (h : PlacesAt s t w.heap.size w v s.length wr P) : PlacesPost s t w (.returned v) wr := by
  have hno : P.length = 0 → Free t s := fun hp => h.no (List.length_eq_zero_iff.1 hp)
  rcases h.own.2 with ⟨hv, hn⟩ | ⟨g, cap, cur, hv, _⟩
  · exact ⟨none, 0, 0, by rw [hv], h.bel, fun _ => hno hn⟩
  · exact ⟨_, P.length, cap, by rw [hv], h.bel, hno⟩

set_option maxHeartbeats 1000000 in
theorem places_any (s t : ByteArray) (w : World) (hs : s.size ≤ 2147483647) :
    Calls Tryz.prog 15 #[.string s, .string t] w (PlacesPost s.data.toList t.data.toList w) := by
  obtain ⟨i0, hi, hz0, hz1, hz2⟩ := info_parts info3
  go_enter Tryz.func15, Tryz.ntmps15
  go_wp2
  go_loopw [5, 6, 9] (fun v x6 i wr => ∃ (P : List Int) (y : Nat), i = .int .i64 y ∧ y ≤ s.size ∧ PlacesAt s.data.toList t.data.toList w.heap.size w v y wr P) (fun _ _ i _ => s.size - (intOf i).toNat)
  case atStart => exact ⟨[], 0, rfl, Nat.zero_le _, PlacesAt.start _ _ _ _⟩
  case round =>
    obtain ⟨P, y, rfl, hys, hI⟩ := hrel
    have HI := Lib.hid hI
    clear hI
    by_cases hlt : y < s.size
    · by_cases hit : (s.data.toList.drop y).take t.data.toList.length = t.data.toList
      · have HH := Lib.hid hit
        clear hit
        go_wp2_with fail
        refine (starts_yes _ _ _ (by rw [Lib.extract_to_end]; exact HH.out)).mono ?_
        rintro e w' ⟨rfl, rfl⟩
        have hown := HI.out.own
        go_wp2_with (at_builtin; refine wpList_append_own _ rfl _ _ 31 rfl w.heap.size 3 i0 (.int .i64 0) 1 8 Tryz.underlying31 hi hz0 hz1 hz2 rfl (by decide) _ P.length (P.map (Value.int .i64)) rfl (hown.alloc _) ⟨wr.heap.size, 0, none⟩ 1 1 [.int .i64 (y : Int)] rfl rfl ?c1 ?c2 ?c3 ?c4 ?c5 ?_)
        case c1 => exact cell_one_new _ _ _
        case c2 => intro u hu; simp at hu; subst hu; rfl
        case c3 => unfold maxLen; have := HI.out.pl; omega
        case c4 => have := HI.out.pl; omega
        case c5 => have := HI.out.bel.size; simp; omega
        intro v' w1 hown' hgrow' _
        have HO := Lib.hid hown'
        have hb1 : Below w.heap.size w w1 := (HI.out.bel.alloc HI.out.bel.size _).grown hgrow' (by have := HI.out.bel.size; simp; omega) (fun k hk => (hown.lt k hk).1)
        have HB := Lib.hid hb1
        clear hown hown' hgrow' hb1
        go_wp2
        go_roundw
        case rel => exact ⟨P ++ [(y : Int)], y + 1, by go_num, by omega, HI.out.hit _ HO.out HB.out⟩
        case measure => simp [intOf]; omega
      · have HH := Lib.hid hit
        clear hit
        go_wp2_with fail
        refine (starts_no _ _ _ (by rw [Lib.extract_to_end]; exact HH.out)).mono ?_
        rintro e w' ⟨rfl, rfl⟩
        go_wp2
        go_roundw
        case rel => exact ⟨P, y + 1, by go_num, by omega, HI.out.miss HH.out⟩
        case measure => simp [intOf]; omega
    · obtain rfl : y = s.size := by omega
      go_wp2
      go_ret
      have hI := HI.out
      rw [Lib.size_eq] at hI
      exact hI.last

end Go.Proofs.YtinmmchjfifcgaaGreatDoor
