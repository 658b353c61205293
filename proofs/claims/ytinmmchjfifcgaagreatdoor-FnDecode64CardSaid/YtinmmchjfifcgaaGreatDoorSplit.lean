/- spec.starts and spec.Split return what the plain functions say: for a separator that is not empty, texts of at most 2147483647 bytes. -/
import Derived.Test.YtinmmchjfifcgaaGreatDoorCore
import Derived.Test.YtinmmchjfifcgaaGreatDoorPlain
import Derived.Lib.Strings
import Derived.Lib.IndexBytes
namespace Go.Proofs.YtinmmchjfifcgaaGreatDoor
open Go.RowKit
set_option maxRecDepth 100000

/-- Where t stands at i. -/
def HitsAt (s t : ByteArray) (i : Nat) : Prop := (s.data.toList.drop i).take t.data.toList.length = t.data.toList

theorem starts_yes (s t : ByteArray) (w : World) (h : (s.data.toList).take t.data.toList.length = t.data.toList) :
    Calls Tryz.prog 36 #[.string s, .string t] w fun e w' => e = .returned (.bool true) ∧ w = w' := by
  have hl : t.size ≤ s.size := by
    have := congrArg List.length h
    rw [List.length_take, ← Lib.size_eq, ← Lib.size_eq] at this; omega
  have he : ((s.extract 0 t.size).toList == t.toList) = true := by
    rw [beq_iff_eq, Lib.extract_toList, Lib.toList_data, List.drop_zero, Nat.sub_zero, Lib.size_eq]; exact h
  have H := Lib.hid h
  clear h
  go_enter Tryz.func36, Tryz.ntmps36
  go_wp2
  go_ret
  exact ⟨rfl, rfl⟩

theorem starts_no (s t : ByteArray) (w : World) (h : (s.data.toList).take t.data.toList.length ≠ t.data.toList) :
    Calls Tryz.prog 36 #[.string s, .string t] w fun e w' => e = .returned (.bool false) ∧ w = w' := by
  by_cases hl : t.size ≤ s.size
  · have he : ((s.extract 0 t.size).toList == t.toList) = false := by
      rw [beq_eq_false_iff_ne, Lib.extract_toList, Lib.toList_data, List.drop_zero, Nat.sub_zero, Lib.size_eq]; exact h
    clear h
    go_enter Tryz.func36, Tryz.ntmps36
    go_wp2
    go_ret
    exact ⟨rfl, rfl⟩
  · clear h
    go_enter Tryz.func36, Tryz.ntmps36
    go_wp2
    go_ret
    exact ⟨rfl, rfl⟩

theorem info9 : (Tryz.prog.info? 9).map (fun i => (i.zero, i.size, i.bytes)) = some (some (.string ⟨#[]⟩), 1, 16) := by kernel_rfl

def strV (l : List UInt8) : Value := .string ⟨l.toArray⟩

/-- The splitting loop: P is cut off, from a to i stands the part at hand. -/
structure SplitAt (s t : List UInt8) (B : Nat) (w : World) (v : Value) (a i : Nat) (wr : World) (P : List (List UInt8)) : Prop where
  ai : a ≤ i
  is : i ≤ s.length
  pl : P.length ≤ i
  own : wr.ownsRow B 9 1 v P.length (P.map strV)
  bel : Below B w wr
  inv : P ++ spl t ((s.take i).drop a) 0 (s.drop i) = spl t [] 0 s

theorem SplitAt.start (s t : List UInt8) (B : Nat) (w : World) : SplitAt s t B w (.slice none 0 0) 0 0 w [] :=
  ⟨Nat.le_refl _, Nat.zero_le _, Nat.le_refl _, World.ownsRow_nil _ _ _ _, Below.refl _ _, by simp⟩

theorem take_drop_succ (s : List UInt8) (a i : Nat) (ha : a ≤ i) (hi : i < s.length) : (s.take (i + 1)).drop a = (s.take i).drop a ++ [s[i]] := by
  rw [List.take_succ_eq_append_getElem hi, List.drop_append_of_le_length (by rw [List.length_take]; omega)]

theorem SplitAt.miss {s t : List UInt8} {B : Nat} {w wr : World} {v : Value} {a i : Nat} {P : List (List UInt8)} (h : SplitAt s t B w v a i wr P) (hi : i < s.length) (hm : (s.drop i).take t.length ≠ t) : SplitAt s t B w v a (i + 1) wr P :=
  ⟨by have := h.ai; omega, by omega, by have := h.pl; omega, h.own, h.bel, by rw [take_drop_succ s a i h.ai hi, ← spl_miss t s i _ hi hm]; exact h.inv⟩

theorem SplitAt.hit {s t : List UInt8} {B : Nat} {w wr w1 : World} {v v' : Value} {a i : Nat} {P : List (List UInt8)} (h : SplitAt s t B w v a i wr P) (ht : 1 ≤ t.length) (hi : (s.drop i).take t.length = t)
    (hown : w1.ownsRow B 9 1 v' (P.length + 1) (P.map strV ++ [strV ((s.take i).drop a)])) (hb : Below B w w1) : SplitAt s t B w v' (i + t.length) (i + t.length) w1 (P ++ [(s.take i).drop a]) := by
  have hl : i + t.length ≤ s.length := by
    have := congrArg List.length hi
    rw [List.length_take, List.length_drop] at this; have := h.is; omega
  refine ⟨Nat.le_refl _, hl, by rw [List.length_append, List.length_singleton]; have := h.pl; omega, by simpa using hown, hb, ?_⟩
  have e : (s.take (i + t.length)).drop (i + t.length) = [] := List.drop_eq_nil_of_le (by rw [List.length_take]; omega)
  rw [e, List.append_assoc, List.singleton_append, ← spl_hit t s i _ ht hi]
  exact h.inv

def SplitPost (L : List (List UInt8)) (w : World) (e : Ending) (w' : World) : Prop := ∃ g cap, e = .returned (.slice (some ⟨g, 0, none⟩) L.length cap) ∧ Below w.heap.size w w' ∧ g < w'.heap.size ∧ ∀ i (h : i < L.length), w'.cell? ⟨g, i, none⟩ = some (strV L[i])

theorem SplitAt.last {s t : List UInt8} {w wr w1 : World} {v v' : Value} {a : Nat} {P : List (List UInt8)} (h : SplitAt s t w.heap.size w v a s.length wr P)
    (hown : w1.ownsRow w.heap.size 9 1 v' (P.length + 1) (P.map strV ++ [strV (s.drop a)])) (hb : Below w.heap.size w w1) : SplitPost (spl t [] 0 s) w (.returned v') w1 := by
  have he : spl t [] 0 s = P ++ [s.drop a] := by
    rw [← h.inv]; simp [spl]
  rcases hown.2 with ⟨_, hc⟩ | ⟨g, cap, cur, hv, hg, hh, hr⟩
  · omega
  · subst hv
    refine ⟨g, cap, by rw [he]; simp, hb, lt_of_block hh, fun i hi => ?_⟩
    have := hown.cellAt i (by rw [he] at hi; simpa using hi)
    rw [this]
    have hm : P.map strV ++ [strV (s.drop a)] = (spl t [] 0 s).map strV := by rw [he]; simp
    rw [hm, List.getElem?_map, List.getElem?_eq_getElem hi]; rfl

set_option maxHeartbeats 1000000 in
theorem split_any (s t : ByteArray) (w : World) (hs : s.size ≤ 2147483647) (ht : 1 ≤ t.size) (ht2 : t.size ≤ 2147483647) :
    Calls Tryz.prog 14 #[.string s, .string t] w (SplitPost (spl t.data.toList [] 0 s.data.toList) w) := by
  obtain ⟨i0, hi, hz0, hz1, hz2⟩ := info_parts info9
  go_enter Tryz.func14, Tryz.ntmps14
  go_wp2
  go_loopw [5, 6, 7] (fun v a i wr => ∃ (P : List (List UInt8)) (x y : Nat), a = .int .i64 x ∧ i = .int .i64 y ∧ SplitAt s.data.toList t.data.toList w.heap.size w v x y wr P) (fun _ _ i _ => s.size - (intOf i).toNat)
  case atStart => exact ⟨[], 0, 0, rfl, rfl, SplitAt.start _ _ _ _⟩
  case round =>
    obtain ⟨P, x, y, rfl, rfl, hI⟩ := hrel
    have hxy := hI.ai
    have hys : y ≤ s.size := by have := hI.is; rw [← Lib.size_eq] at this; exact this
    have HI := Lib.hid hI
    clear hI
    by_cases hlt : y < s.size
    · by_cases hit : (s.data.toList.drop y).take t.data.toList.length = t.data.toList
      · have hyt : y + t.size ≤ s.size := by
          have := congrArg List.length hit
          rw [List.length_take, List.length_drop, ← Lib.size_eq, ← Lib.size_eq] at this; omega
        have HH := Lib.hid hit
        clear hit
        go_wp2_with fail
        refine (starts_yes _ _ _ (by rw [Lib.extract_to_end]; exact HH.out)).mono ?_
        rintro e w' ⟨rfl, rfl⟩
        have hown := HI.out.own
        go_wp2_with (at_builtin; refine wpList_append_own _ rfl _ _ 28 rfl w.heap.size 9 i0 (.string ⟨#[]⟩) 1 16 Tryz.underlying28 hi hz0 hz1 hz2 rfl (by decide) _ P.length (P.map strV) rfl (hown.alloc _) ⟨wr.heap.size, 0, none⟩ 1 1 [.string (s.extract x y)] rfl rfl ?c1 ?c2 ?c3 ?c4 ?c5 ?_)
        case c1 => exact cell_one_new _ _ _
        case c2 => intro u hu; simp at hu; subst hu; rfl
        case c3 => unfold maxLen; have := HI.out.pl; omega
        case c4 => have := HI.out.pl; omega
        case c5 => have := HI.out.bel.size; simp; omega
        intro v' w1 hown' hgrow' _
        have HO := Lib.hid hown'
        have hb1 : Below w.heap.size w w1 := (HI.out.bel.alloc HI.out.bel.size _).grown hgrow' (by have := HI.out.bel.size; simp; omega) (fun k hk => (hown.lt k hk).1)
        have HB := Lib.hid hb1
        clear hown hown' hgrow' hb1
        go_wp2
        go_roundw
        case rel =>
          refine ⟨P ++ [(s.data.toList.take y).drop x], y + t.size, y + t.size, by go_num, by go_num, ?_⟩
          have := HI.out.hit (by rw [← Lib.size_eq]; exact ht) HH.out (v' := v') (w1 := w1) (by
            have e : Value.string (s.extract x y) = strV ((s.data.toList.take y).drop x) := by
              rw [strV, Lib.extract_eq, List.drop_take]
            rw [← e]; exact HO.out) HB.out
          rwa [← Lib.size_eq] at this
        case measure => simp [intOf]; omega
      · have HH := Lib.hid hit
        clear hit
        go_wp2_with fail
        refine (starts_no _ _ _ (by rw [Lib.extract_to_end]; exact HH.out)).mono ?_
        rintro e w' ⟨rfl, rfl⟩
        go_wp2
        go_roundw
        case rel => exact ⟨P, x, y + 1, rfl, by go_num, HI.out.miss (by rw [← Lib.size_eq]; exact hlt) HH.out⟩
        case measure => simp [intOf]; omega
    · obtain rfl : y = s.size := by omega
      have hown := HI.out.own
      go_wp2_with (at_builtin; refine wpList_append_own _ rfl _ _ 28 rfl w.heap.size 9 i0 (.string ⟨#[]⟩) 1 16 Tryz.underlying28 hi hz0 hz1 hz2 rfl (by decide) _ P.length (P.map strV) rfl (hown.alloc _) ⟨wr.heap.size, 0, none⟩ 1 1 [.string (s.extract x s.size)] rfl rfl ?d1 ?d2 ?d3 ?d4 ?d5 ?_)
      case d1 => exact cell_one_new _ _ _
      case d2 => intro u hu; simp at hu; subst hu; rfl
      case d3 => unfold maxLen; have := HI.out.pl; omega
      case d4 => have := HI.out.pl; omega
      case d5 => have := HI.out.bel.size; simp; omega
      intro v' w1 hown' hgrow' _
      have HO := Lib.hid hown'
      have hb1 : Below w.heap.size w w1 := (HI.out.bel.alloc HI.out.bel.size _).grown hgrow' (by have := HI.out.bel.size; simp; omega) (fun k hk => (hown.lt k hk).1)
      have HB := Lib.hid hb1
      clear hown hown' hgrow' hb1
      go_wp2
      go_ret
      have hI := HI.out
      have e : Value.string (s.extract x s.size) = strV (s.data.toList.drop x) := by
        rw [strV, ← Lib.extract_to_end]
      have hO := HO.out
      rw [e] at hO
      rw [Lib.size_eq] at hI
      exact hI.last hO HB.out

end Go.Proofs.YtinmmchjfifcgaaGreatDoor
