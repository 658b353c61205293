/- (*replacer).Replace returns what the plain replacing gives: for a text of at most 1000000000 bytes, an old text that is not empty, a result of at most 140737488355328 bytes. -/
import Derived.Test.YtinmmchjfifcgaaGreatDoorJoin
import Derived.Lib.AppendStr
import Derived.Lib.UnsafeStr
import Derived.Lib.BufferRead
import Derived.Deep.LoopGhost
namespace Go.Proofs.YtinmmchjfifcgaaGreatDoor
open Go.RowKit
set_option maxRecDepth 100000

theorem info5 : (Tryz.prog.info? 5).map (fun i => (i.zero, i.size, i.bytes)) = some (some (.int .u8 0), 1, 1) := by kernel_rfl

/-- string(b) of bytes that the call owns. -/
theorem convert_own {B : Nat} {v : Value} {l : List UInt8} {w : World} (h : w.ownsRow B 5 1 v l.length (Lib.byteCells l)) : Sem.run Tryz.prog (convert 56 9 v) w = .ok (.string ⟨l.toArray⟩) w := by
  rcases h.2 with ⟨hv, hn⟩ | ⟨g, cap, cur, hv, _, hh, _, _, _, hr⟩
  · obtain rfl : l = [] := List.length_eq_zero_iff.1 hn
    rw [hv]
    exact Lib.run_convert_nil_bytes w 56 9 5 0 Tryz.underlying56 Tryz.underlying5 Tryz.underlying9
  · rw [hv]
    exact run_convert_bytes_back w 56 9 5 _ cap l Tryz.underlying56 Tryz.underlying5 Tryz.underlying9 (Lib.bytes_of_row hh (by simpa using hr))

/-- The replacer's loop: bs is written, from l to i stands what is not yet written. -/
structure RepAt (s f t : List UInt8) (B : Nat) (w : World) (v : Value) (l i : Nat) (wr : World) (bs : List UInt8) : Prop where
  li : l ≤ i
  ls : l ≤ s.length
  is : i ≤ s.length + 1
  own : wr.ownsRow B 5 1 v bs.length (Lib.byteCells bs)
  bel : Below B w wr
  inv : bs ++ (s.take i).drop l ++ rep f t 0 (s.drop i) = rep f t 0 s

theorem RepAt.start (s f t : List UInt8) (B : Nat) (w : World) : RepAt s f t B w (.slice none 0 0) 0 0 w [] :=
  ⟨Nat.le_refl _, Nat.zero_le _, by omega, World.ownsRow_nil _ _ _ _, Below.refl _ _, by simp⟩

theorem RepAt.miss {s f t : List UInt8} {B : Nat} {w wr : World} {v : Value} {l i : Nat} {bs : List UInt8} (h : RepAt s f t B w v l i wr bs) (hi : i ≤ s.length) (hm : (s.drop i).take f.length ≠ f) : RepAt s f t B w v l (i + 1) wr bs := by
  refine ⟨by have := h.li; omega, h.ls, by omega, h.own, h.bel, ?_⟩
  by_cases hlt : i < s.length
  · rw [take_drop_succ s l i h.li hlt, ← h.inv, rep_miss f t s i hlt hm]; simp
  · obtain rfl : i = s.length := by omega
    rw [← h.inv]
    rw [List.take_of_length_le (show s.length ≤ s.length + 1 by omega), List.take_of_length_le (Nat.le_refl _), List.drop_eq_nil_of_le (Nat.le_refl _), List.drop_eq_nil_of_le (show s.length ≤ s.length + 1 by omega)]

theorem RepAt.le {s f t : List UInt8} {B : Nat} {w wr : World} {v : Value} {l i : Nat} {bs : List UInt8} (h : RepAt s f t B w v l i wr bs) : bs.length + ((s.take i).drop l).length + (rep f t 0 (s.drop i)).length = (rep f t 0 s).length := by
  rw [← h.inv, List.length_append, List.length_append]

theorem RepAt.hit {s f t : List UInt8} {B : Nat} {w wr w1 : World} {v v' : Value} {l i : Nat} {bs : List UInt8} (h : RepAt s f t B w v l i wr bs) (hf : 1 ≤ f.length) (hi : (s.drop i).take f.length = f)
    (hown : w1.ownsRow B 5 1 v' (bs ++ (s.take i).drop l ++ t).length (Lib.byteCells (bs ++ (s.take i).drop l ++ t))) (hb : Below B w w1) : RepAt s f t B w v' (i + f.length) (i + f.length) w1 (bs ++ (s.take i).drop l ++ t) := by
  have hl : i + f.length ≤ s.length := by
    have := congrArg List.length hi
    rw [List.length_take, List.length_drop] at this; omega
  refine ⟨Nat.le_refl _, hl, by omega, hown, hb, ?_⟩
  have e : (s.take (i + f.length)).drop (i + f.length) = [] := List.drop_eq_nil_of_le (by rw [List.length_take]; omega)
  rw [e, ← h.inv, rep_hit f t s i hf hi]; simp

theorem RepAt.hit_le {s f t : List UInt8} {B : Nat} {w wr : World} {v : Value} {l i : Nat} {bs : List UInt8} (h : RepAt s f t B w v l i wr bs) (hf : 1 ≤ f.length) (hi : (s.drop i).take f.length = f) : bs.length + (((s.take i).drop l).length + t.length) ≤ (rep f t 0 s).length := by
  have := h.le
  rw [rep_hit f t s i hf hi, List.length_append] at this; omega

set_option maxHeartbeats 1000000 in
theorem replacer_any (s f t : ByteArray) (p q : Nat) (w : World) (hp : p < w.heap.size) (hq : q < w.heap.size) (hp0 : w.cell? ⟨p, 0, none⟩ = some (.slice (some ⟨q, 0, none⟩) 2 2)) (hq0 : w.cell? ⟨q, 0, none⟩ = some (.string f)) (hq1 : w.cell? ⟨q, 1, none⟩ = some (.string t))
    (hs : s.size ≤ 1000000000) (hf : 1 ≤ f.size) (hf2 : f.size ≤ 2147483647) (ht : t.size ≤ 2147483647) (hR : (rep f.data.toList t.data.toList 0 s.data.toList).length ≤ 140737488355328) :
    Calls Tryz.prog 82 #[.pointer (some ⟨p, 0, none⟩), .string s] w fun e w' => e = .returned (strV (rep f.data.toList t.data.toList 0 s.data.toList)) ∧ Below w.heap.size w w' := by
  obtain ⟨i0, hi, hz0, hz1, hz2⟩ := info_parts info5
  have HR := Lib.hid hR
  have HP0 := Lib.hid hp0
  have HQ0 := Lib.hid hq0
  have HQ1 := Lib.hid hq1
  clear hR hp0 hq0 hq1
  go_enter Tryz.func82, Tryz.ntmps82
  go_wp2
  go_loopw [5, 6, 7, 8, 9, 10, 11] (fun v l em i ma k old wr => ∃ (bs : List UInt8) (x y : Nat), l = .int .i64 x ∧ em = .bool false ∧ i = .int .i64 y ∧ RepAt s.data.toList f.data.toList t.data.toList w.heap.size w v x y wr bs) (fun _ _ _ i _ _ _ _ => s.size + 1 - (intOf i).toNat)
  case atStart => exact ⟨[], 0, 0, rfl, rfl, rfl, RepAt.start _ _ _ _ _⟩
  case round =>
    obtain ⟨bs, x, y, rfl, rfl, rfl, hI⟩ := hrel
    have hxy := hI.li
    have hxs : x ≤ s.size := by have := hI.ls; rw [← Lib.size_eq] at this; exact this
    have hys : y ≤ s.size + 1 := by have := hI.is; rw [← Lib.size_eq] at this; exact this
    have hp1 : wr.cell? ⟨p, 0, none⟩ = some (.slice (some ⟨q, 0, none⟩) 2 2) := by rw [hI.bel.cell (p := ⟨p, 0, none⟩) hp]; exact HP0.out
    have hq1 : wr.cell? ⟨q, 0, none⟩ = some (.string f) := by rw [hI.bel.cell (p := ⟨q, 0, none⟩) hq]; exact HQ0.out
    have hq2 : wr.cell? ⟨q, 1, none⟩ = some (.string t) := by rw [hI.bel.cell (p := ⟨q, 1, none⟩) hq]; exact HQ1.out
    have HI := Lib.hid hI
    clear hI
    have hfe : ¬ f.toList = [] := by
      intro e
      have := congrArg List.length e
      rw [Lib.toList_data, ← Lib.size_eq, List.length_nil] at this; omega
    by_cases hlt : y ≤ s.size
    · by_cases hit : (s.data.toList.drop y).take f.data.toList.length = f.data.toList
      · have hyt : y + f.size ≤ s.size := by
          have := congrArg List.length hit
          rw [List.length_take, List.length_drop, ← Lib.size_eq, ← Lib.size_eq] at this; omega
        have he : ((s.extract y (y + f.size)).toList == f.toList) = true := by
          rw [beq_iff_eq, Lib.extract_toList, Lib.toList_data, Nat.add_sub_cancel_left, Lib.size_eq]; exact hit
        have HH := Lib.hid hit
        clear hit
        have hfe1 : f.toList.isEmpty = false := by rw [List.isEmpty_eq_false_iff]; exact hfe
        go_wp2
        go_loop [5, 6, 7, 8, 9, 10, 11] (fun v l em i ma k old => v = u5 ∧ l = .int .i64 x ∧ em = .bool false ∧ i = .int .i64 y ∧ ma = .bool false ∧ k = .int .i64 0) (fun _ _ _ _ _ _ _ => 0)
        case atStart => exact ⟨rfl, rfl, rfl, rfl, rfl, rfl⟩
        case round =>
          obtain ⟨rfl, rfl, rfl, rfl, rfl, rfl⟩ := hrel
          have hown := HI.out.own
          have hle := Nat.le_trans (HI.out.hit_le (by rw [← Lib.size_eq]; exact hf) HH.out) HR.out
          rw [List.length_drop, List.length_take, ← Lib.size_eq, ← Lib.size_eq, Nat.min_eq_left hlt] at hle
          go_wp2_with (at_builtin; (refine Lib.wpList_append_own_string _ rfl (.tmp 58) (.tmp 62) 56 9 rfl w.heap.size 5 i0 Tryz.underlying56 Tryz.underlying9 hi hz0 hz1 hz2 u5 bs.length (Lib.byteCells bs) rfl hown (s.extract x y) rfl ?c1 ?c2 ?c3 ?_))
          case c1 => unfold maxLen; omega
          case c2 => omega
          case c3 => exact HI.out.bel.size
          intro v1 w1 hown1 hgrow1 hn1
          clear hn1
          have hb1 : Below w.heap.size w w1 := HI.out.bel.grown hgrow1 HI.out.bel.size (fun k hk => (hown.lt k hk).1)
          have hp1 : w1.cell? ⟨p, 0, none⟩ = some (.slice (some ⟨q, 0, none⟩) 2 2) := by rw [hb1.cell (p := ⟨p, 0, none⟩) hp]; exact HP0.out
          have hq1 : w1.cell? ⟨q, 0, none⟩ = some (.string f) := by rw [hb1.cell (p := ⟨q, 0, none⟩) hq]; exact HQ0.out
          have hq2 : w1.cell? ⟨q, 1, none⟩ = some (.string t) := by rw [hb1.cell (p := ⟨q, 1, none⟩) hq]; exact HQ1.out
          have HB1 := Lib.hid hb1
          clear hb1 hown hgrow1
          go_wp2_with (at_builtin; (refine Lib.wpList_append_own_string _ rfl (.tmp 64) (.tmp 72) 56 9 rfl w.heap.size 5 i0 Tryz.underlying56 Tryz.underlying9 hi hz0 hz1 hz2 v1 (bs.length + (y - x)) (Lib.byteCells bs ++ Lib.strCells (s.extract x y)) rfl hown1 t rfl ?d1 ?d2 ?d3 ?_))
          case d1 => unfold maxLen; omega
          case d2 => omega
          case d3 => exact HB1.out.size
          intro v2 w2 hown2 hgrow2 hn2
          clear hn2
          have hb2 : Below w.heap.size w w2 := HB1.out.grown hgrow2 HB1.out.size (fun k hk => (hown1.lt k hk).1)
          have HB2 := Lib.hid hb2
          have HO := Lib.hid hown2
          clear hb2 hown1 hgrow2 hown2
          go_wp2
          go_roundw
          case rel =>
            refine ⟨bs ++ (s.data.toList.take y).drop x ++ t.data.toList, y + f.size, y + f.size, by go_num, rfl, by go_num, ?_⟩
            have hO := HO.out
            have h1 : Lib.byteCells bs ++ (Lib.strCells (s.extract x y) ++ Lib.strCells t) = Lib.byteCells (bs ++ (s.data.toList.take y).drop x ++ t.data.toList) := by
              rw [Lib.byteCells_append, Lib.byteCells_append, Lib.strCells_eq, Lib.strCells_eq, Lib.extract_data, List.drop_take, List.append_assoc]
            have h2 : bs.length + (y - x) + t.size = (bs ++ (s.data.toList.take y).drop x ++ t.data.toList).length := by
              rw [List.length_append, List.length_append, List.length_drop, List.length_take, ← Lib.size_eq, ← Lib.size_eq, Nat.min_eq_left hlt]
            rw [h1, h2] at hO
            have := HI.out.hit (by rw [← Lib.size_eq]; exact hf) HH.out hO HB2.out
            rwa [← Lib.size_eq] at this
          case measure => simp [intOf]; omega
      · have HH := Lib.hid hit
        have hfe1 : f.toList.isEmpty = false := by rw [List.isEmpty_eq_false_iff]; exact hfe
        by_cases hyt : y + f.size ≤ s.size
        · have he : ((s.extract y (y + f.size)).toList == f.toList) = false := by
            rw [beq_eq_false_iff_ne, Lib.extract_toList, Lib.toList_data, Nat.add_sub_cancel_left, Lib.size_eq]; exact hit
          clear hit
          go_wp2
          go_loop [5, 6, 7, 8, 9, 10, 11] (fun v l em i ma k old => v = u5 ∧ l = .int .i64 x ∧ em = .bool false ∧ i = .int .i64 y ∧ ma = .bool false ∧ (k = .int .i64 0 ∨ k = .int .i64 2)) (fun _ _ _ _ _ k _ => 2 - (intOf k).toNat)
          case atStart => exact ⟨rfl, rfl, rfl, rfl, rfl, .inl rfl⟩
          case round =>
            obtain ⟨rfl, rfl, rfl, rfl, rfl, rfl | rfl⟩ := hrel
            · go_wp2
              go_round
              case rel => exact ⟨rfl, rfl, rfl, rfl, rfl, .inr rfl⟩
              case measure => simp [intOf]
            · go_wp2
              go_roundw
              case rel => exact ⟨bs, x, y + 1, rfl, rfl, by go_num, HI.out.miss (by rw [← Lib.size_eq]; exact hlt) HH.out⟩
              case measure => simp [intOf]; omega
        · clear hit
          go_wp2
          go_loop [5, 6, 7, 8, 9, 10, 11] (fun v l em i ma k old => v = u5 ∧ l = .int .i64 x ∧ em = .bool false ∧ i = .int .i64 y ∧ ma = .bool false ∧ (k = .int .i64 0 ∨ k = .int .i64 2)) (fun _ _ _ _ _ k _ => 2 - (intOf k).toNat)
          case atStart => exact ⟨rfl, rfl, rfl, rfl, rfl, .inl rfl⟩
          case round =>
            obtain ⟨rfl, rfl, rfl, rfl, rfl, rfl | rfl⟩ := hrel
            · go_wp2
              go_round
              case rel => exact ⟨rfl, rfl, rfl, rfl, rfl, .inr rfl⟩
              case measure => simp [intOf]
            · go_wp2
              go_roundw
              case rel => exact ⟨bs, x, y + 1, rfl, rfl, by go_num, HI.out.miss (by rw [← Lib.size_eq]; exact hlt) HH.out⟩
              case measure => simp [intOf]; omega
    · obtain rfl : y = s.size + 1 := by omega
      have hown := HI.out.own
      have hle := HI.out.le
      rw [List.length_drop, List.take_of_length_le (by rw [← Lib.size_eq]; omega), ← Lib.size_eq] at hle
      have hle2 : bs.length + (s.size - x) ≤ 140737488355328 := Nat.le_trans (by omega) HR.out
      clear hle
      go_wp2_with (at_builtin; (refine Lib.wpList_append_own_string _ rfl (.tmp 85) (.tmp 88) 56 9 rfl w.heap.size 5 i0 Tryz.underlying56 Tryz.underlying9 hi hz0 hz1 hz2 u5 bs.length (Lib.byteCells bs) rfl hown (s.extract x s.size) rfl ?e1 ?e2 ?e3 ?_))
      case e1 => rw [ByteArray.size_extract]; unfold maxLen; omega
      case e2 => rw [ByteArray.size_extract]; omega
      case e3 => exact HI.out.bel.size
      intro v1 w1 hown1 hgrow1 hn1
      clear hn1
      have hb1 : Below w.heap.size w w1 := HI.out.bel.grown hgrow1 HI.out.bel.size (fun k hk => (hown.lt k hk).1)
      have h0 : Lib.byteCells bs ++ Lib.strCells (s.extract x s.size) = Lib.byteCells (rep f.data.toList t.data.toList 0 s.data.toList) := by
        have := HI.out.inv
        rw [List.take_of_length_le (by rw [← Lib.size_eq]; omega), List.drop_eq_nil_of_le (show s.data.toList.length ≤ s.size + 1 by rw [← Lib.size_eq]; omega), rep, List.append_nil] at this
        rw [← this, Lib.byteCells_append, Lib.strCells_eq, Lib.extract_to_end]
      rw [h0] at hown1
      have hlen := hown1.1
      rw [Lib.byteCells_length, Nat.mul_one] at hlen
      rw [← hlen] at hown1
      have hcv := convert_own hown1
      have HB1 := Lib.hid hb1
      clear hb1 hown hgrow1 h0 hown1 hlen
      obtain ⟨R, hR⟩ : ∃ R, R = rep f.data.toList t.data.toList 0 s.data.toList := ⟨_, rfl⟩
      rw [← hR] at hcv
      have HE := Lib.hid hR
      clear hR
      go_wp2
      go_ret
      exact ⟨by rw [← HE.out]; rfl, HB1.out⟩

end Go.Proofs.YtinmmchjfifcgaaGreatDoor
