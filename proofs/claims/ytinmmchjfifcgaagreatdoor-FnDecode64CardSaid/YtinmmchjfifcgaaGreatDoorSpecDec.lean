/- spec.Decode returns what the plain decoding gives: 2 where it leaves the answer open, 1 for none, 0 with the bytes; texts of at most 1000 bytes. -/
import Derived.Test.YtinmmchjfifcgaaGreatDoorDec64
import Derived.Lib.ConvBytes
namespace Go.Proofs.YtinmmchjfifcgaaGreatDoor
open Go.RowKit
set_option maxRecDepth 100000

/-- The number behind k letters of a group. -/
def nAt (a b c d : UInt8) : Nat → Nat
  | 0 => 0
  | 1 => 0 * 64 + dz a
  | 2 => (0 * 64 + dz a) * 64 + dz b
  | 3 => ((0 * 64 + dz a) * 64 + dz b) * 64 + dz c
  | _ => (((0 * 64 + dz a) * 64 + dz b) * 64 + dz c) * 64 + dz d
theorem nAt_four (a b c d : UInt8) : nAt a b c d 4 = num4 a b c d := by simp [nAt, num4]
theorem nAt_lt (a b c d : UInt8) (k : Nat) (h : k ≤ 3) : nAt a b c d k < 262144 := by
  have h1 := dz_lt a; have h2 := dz_lt b; have h3 := dz_lt c
  rcases (by omega : k = 0 ∨ k = 1 ∨ k = 2 ∨ k = 3) with rfl | rfl | rfl | rfl <;> simp only [nAt] <;> omega
/-- How many letters were no padding. -/
def cAt (c d : UInt8) : Nat → Nat
  | 0 => 0
  | 1 => 1
  | 2 => 2
  | 3 => if dmV c = 255 then 2 else 3
  | _ => if dmV d = 255 then (if dmV c = 255 then 2 else 3) else 4
theorem cAt_bad3 {c d : UInt8} (h : dmV c = 255) : cAt c d 3 = cAt c d 2 := by simp [cAt, h]
theorem cAt_bad4 {c d : UInt8} (h : dmV d = 255) : cAt c d 4 = cAt c d 3 := by simp [cAt, h]
theorem cAt_good1 {c d : UInt8} : cAt c d 1 = 1 := rfl
theorem cAt_good2 {c d : UInt8} : cAt c d 2 = 2 := rfl
theorem cAt_good3 {c d : UInt8} (h : ¬ dmV c = 255) : cAt c d 3 = 3 := by simp [cAt, h]
theorem cAt_good4 {c d : UInt8} (h : ¬ dmV d = 255) : cAt c d 4 = 4 := by simp [cAt, h]
theorem dz_bad {c : UInt8} (h : dmV c = 255) : dz c = 0 := by simp [dz, h]

/-- The first k letters are well. -/
structure OkAt (a b c d : UInt8) (r : List UInt8) (k : Nat) : Prop where
  pa : 1 ≤ k → ¬ dmV a = 255
  pb : 2 ≤ k → ¬ dmV b = 255
  pc : 3 ≤ k → dmV c = 255 → c = 61 ∧ d = 61 ∧ r = []
  pd : 4 ≤ k → dmV d = 255 → d = 61 ∧ r = []
theorem OkAt.zero (a b c d : UInt8) (r : List UInt8) : OkAt a b c d r 0 := ⟨by omega, by omega, by omega, by omega⟩
theorem OkAt.one {a b c d : UInt8} {r : List UInt8} (_ : OkAt a b c d r 0) (h : ¬ dmV a = 255) : OkAt a b c d r 1 := ⟨fun _ => h, by omega, by omega, by omega⟩
theorem OkAt.two {a b c d : UInt8} {r : List UInt8} (o : OkAt a b c d r 1) (h : ¬ dmV b = 255) : OkAt a b c d r 2 := ⟨fun _ => o.pa (by omega), fun _ => h, by omega, by omega⟩
theorem OkAt.three {a b c d : UInt8} {r : List UInt8} (o : OkAt a b c d r 2) (h : dmV c = 255 → c = 61 ∧ d = 61 ∧ r = []) : OkAt a b c d r 3 := ⟨fun _ => o.pa (by omega), fun _ => o.pb (by omega), fun _ => h, by omega⟩
theorem OkAt.four {a b c d : UInt8} {r : List UInt8} (o : OkAt a b c d r 3) (h : dmV d = 255 → d = 61 ∧ r = []) : OkAt a b c d r 4 := ⟨fun _ => o.pa (by omega), fun _ => o.pb (by omega), fun _ => o.pc (by omega), fun _ => h⟩
theorem OkAt.c {a b c d : UInt8} {r : List UInt8} (o : OkAt a b c d r 3) : dmV c = 255 → c = 61 ∧ d = 61 ∧ r = [] := o.pc (by omega)
theorem OkAt.kq {a b c d : UInt8} {r : List UInt8} (o : OkAt a b c d r 4) : kq a b c d r = some (cAt c d 4 - 1) := by
  have h1 := o.pa (by omega); have h2 := o.pb (by omega); have h3 := o.pc (by omega); have h4 := o.pd (by omega)
  unfold Go.Proofs.YtinmmchjfifcgaaGreatDoor.kq
  rw [if_neg (by simp [h1, h2])]
  by_cases hc : dmV c = 255
  · obtain ⟨e1, e2, e3⟩ := h3 hc
    subst e1 e2 e3
    simp [cAt, dmV_61]
  · rw [if_neg hc]
    by_cases hd : dmV d = 255
    · obtain ⟨e2, e3⟩ := h4 hd
      subst e2 e3
      simp [cAt, dmV_61, hc]
    · simp [cAt, hd]
theorem kq_bad (a b c d : UInt8) (r : List UInt8) (h : dmV a = 255 ∨ dmV b = 255) : kq a b c d r = none := by unfold kq; rw [if_pos h]
theorem kq_bad3 (a b c d : UInt8) (r : List UInt8) (h : dmV c = 255) (h2 : ¬ (c = 61 ∧ d = 61 ∧ r = [])) : kq a b c d r = none := by unfold kq; rw [if_pos h, if_neg h2]; simp
theorem kq_bad4 (a b c d : UInt8) (r : List UInt8) (h : dmV d = 255) (h3 : dmV c = 255 → c = 61 ∧ d = 61 ∧ r = []) (h2 : ¬ (d = 61 ∧ r = [])) : kq a b c d r = none := by
  unfold kq
  by_cases hc : dmV c = 255
  · exact absurd (h3 hc).2 h2
  · rw [if_neg hc, if_pos h, if_neg h2]; simp
theorem dec_none (a b c d : UInt8) (r : List UInt8) (h : kq a b c d r = none) : dec (a :: b :: c :: d :: r) = none := by rw [dec, h]
theorem dec_some {a b c d : UInt8} {r : List UInt8} {k : Nat} (h : kq a b c d r = some k) : dec (a :: b :: c :: d :: r) = (dec r).map ((grpB (num4 a b c d)).take k ++ ·) := by rw [dec, h]

/-- The first bytes of a new row, as a string. -/
theorem conv_to (w : World) (l L : List UInt8) (h : L.take l.length = l) : Sem.run Tryz.prog (convert 56 9 (.slice (some ⟨w.heap.size, 0, none⟩) l.length L.length)) (w.alloc (.cells (Lib.byteCells L).toArray 5)) = .ok (.string ⟨l.toArray⟩) (w.alloc (.cells (Lib.byteCells L).toArray 5)) :=
  run_convert_bytes_back (P := Tryz.prog) _ 56 9 5 ⟨w.heap.size, 0, none⟩ L.length l Tryz.underlying56 Tryz.underlying5 Tryz.underlying9 (Lib.bytes_of_row (heap_alloc_new _ _) (by
    show (Lib.byteCells L).take l.length = Lib.byteCells l
    rw [show Lib.byteCells L = L.map (fun b => Value.int .u8 (b.toNat : Int)) from rfl, ← List.map_take, h]; rfl))
theorem wrap64_six (n : Nat) (h : n < 262144) : wrap64 ((n : Int) * 64) = (n : Int) * 64 := by unfold wrap64; omega
theorem i64_or6 (a c : Nat) (ha : a < 262144) (hc : c < 64) : bits .or .i64 ((a : Int) * 64) (c : Int) = ((a * 64 + c : Nat) : Int) := by
  rw [bits_join .i64 24 (by decide) wraps_i64 6 _ _ (by omega) (by omega) (by omega) (by omega) (by omega) (by omega)]; omega

/-- A text of four letters at least, taken apart. -/
structure Four4 (X : ByteArray) (h : 4 ≤ X.size) (r : List UInt8) : Prop where
  eq : X.data.toList = X[0] :: X[1] :: X[2] :: X[3] :: r
  len : X.size = 4 + r.length
theorem list4 : ∀ (l : List UInt8) (h : 4 ≤ l.length), l = l[0] :: l[1] :: l[2] :: l[3] :: l.drop 4
  | _ :: _ :: _ :: _ :: _, _ => rfl
theorem four4 (X : ByteArray) (h : 4 ≤ X.size) : Four4 X h (X.data.toList.drop 4) := by
  have hl : 4 ≤ X.data.toList.length := by rw [← Lib.size_eq]; exact h
  refine ⟨?_, by rw [List.length_drop, ← Lib.size_eq]; omega⟩
  rw [get_list X 0 (by omega), get_list X 1 (by omega), get_list X 2 (by omega), get_list X 3 (by omega)]
  exact list4 _ hl
theorem Four4.nil {X : ByteArray} {h : 4 ≤ X.size} {r : List UInt8} (f : Four4 X h r) (e : X.size = 4) : r = [] := List.length_eq_zero_iff.1 (by have := f.len; omega)
theorem Four4.four {X : ByteArray} {h : 4 ≤ X.size} {r : List UInt8} (f : Four4 X h r) (e : r = []) : X.size = 4 := by rw [f.len, e]; rfl

def DecPost (s : ByteArray) (w : World) (e : Ending) (w' : World) : Prop := Below w.heap.size w w' ∧ ∃ (R : List UInt8) (code : Nat), e = .returned (.tuple #[.string ⟨R.toArray⟩, .int .i64 (code : Int)]) ∧
  (code = 2 ∨ ((hasB s 10 = false ∧ hasB s 13 = false) ∧ ((code = 1 ∧ dec s.data.toList = none) ∨ (code = 0 ∧ dec s.data.toList = some R))))
theorem DecPost.open_ {s : ByteArray} {w w' : World} (h : Below w.heap.size w w') : DecPost s w (.returned (.tuple #[.string ⟨#[]⟩, .int .i64 2])) w' := ⟨h, [], 2, rfl, .inl rfl⟩
theorem DecPost.none {s : ByteArray} {w w' : World} (h : Below w.heap.size w w') (hn : hasB s 10 = false ∧ hasB s 13 = false) (hd : dec s.data.toList = .none) : DecPost s w (.returned (.tuple #[.string ⟨#[]⟩, .int .i64 1])) w' := ⟨h, [], 1, rfl, .inr ⟨hn, .inl ⟨rfl, hd⟩⟩⟩

theorem dec_mod : ∀ l : List UInt8, l.length % 4 ≠ 0 → dec l = none
  | [], h => absurd rfl h
  | [_], _ => rfl
  | [_, _], _ => rfl
  | [_, _, _], _ => rfl
  | a :: b :: c :: d :: r, h => by
    have := dec_mod r (by simp at h; omega)
    rw [dec]
    cases kq a b c d r <;> simp [this]

theorem specDecode_open10 (s A : ByteArray) (w : World) (hs : s.size ≤ 1000) (h : hasB s 10 = true) : Calls Tryz.prog 28 #[.string s, .string A] w (DecPost s w) := by
  have h10 : Calls Tryz.prog 43 #[.string s, .int .u8 10] w fun e w' => e = .returned (.bool true) ∧ w = w' := by rw [← h]; exact has_any s 10 w (by omega)
  have H10 := Lib.hid h10
  clear h h10
  go_enter Tryz.func28, Tryz.ntmps28
  go_wp2_with (go_at_call 43; refine H10.out.mono ?_; rintro e w' ⟨rfl, rfl⟩)
  go_ret2
  exact DecPost.open_ (Below.refl _ _)
theorem specDecode_open13 (s A : ByteArray) (w : World) (hs : s.size ≤ 1000) (h0 : hasB s 10 = false) (h : hasB s 13 = true) : Calls Tryz.prog 28 #[.string s, .string A] w (DecPost s w) := by
  have h10 : Calls Tryz.prog 43 #[.string s, .int .u8 10] w fun e w' => e = .returned (.bool false) ∧ w = w' := by rw [← h0]; exact has_any s 10 w (by omega)
  have h13 : Calls Tryz.prog 43 #[.string s, .int .u8 13] w fun e w' => e = .returned (.bool true) ∧ w = w' := by rw [← h]; exact has_any s 13 w (by omega)
  have H10 := Lib.hid h10
  have H13 := Lib.hid h13
  clear h h0 h10 h13
  go_enter Tryz.func28, Tryz.ntmps28
  go_wp2_with fail
  refine H10.out.mono ?_
  rintro e w' ⟨rfl, rfl⟩
  go_wp2_with fail
  refine H13.out.mono ?_
  rintro e w' ⟨rfl, rfl⟩
  go_wp2
  go_ret2
  exact DecPost.open_ (Below.refl _ _)

theorem specDecode_mod (s A : ByteArray) (w : World) (hs : s.size ≤ 1000) (hn : hasB s 10 = false ∧ hasB s 13 = false) (hm : ¬ s.size % 4 = 0) : Calls Tryz.prog 28 #[.string s, .string A] w (DecPost s w) := by
  have h10 : Calls Tryz.prog 43 #[.string s, .int .u8 10] w fun e w' => e = .returned (.bool false) ∧ w = w' := by rw [← hn.1]; exact has_any s 10 w (by omega)
  have h13 : Calls Tryz.prog 43 #[.string s, .int .u8 13] w fun e w' => e = .returned (.bool false) ∧ w = w' := by rw [← hn.2]; exact has_any s 13 w (by omega)
  have H10 := Lib.hid h10
  have H13 := Lib.hid h13
  have HN := Lib.hid hn
  have hd : dec s.data.toList = none := dec_mod _ (by rw [← Lib.size_eq]; exact hm)
  have HD := Lib.hid hd
  have hm1 : ((s.size : Int) % 4 != 0) = true := by rw [bne_iff_ne]; omega
  clear h10 h13 hn hd
  go_enter Tryz.func28, Tryz.ntmps28
  go_wp2_with fail
  refine H10.out.mono ?_
  rintro e w' ⟨rfl, rfl⟩
  go_wp2_with fail
  refine H13.out.mono ?_
  rintro e w' ⟨rfl, rfl⟩
  go_wp2
  go_ret2
  exact DecPost.none (Below.refl _ _) HN.out HD.out

set_option maxHeartbeats 4000000 in
theorem specDecode_main (s A : ByteArray) (hA : A = alphaS) (w : World) (hs : s.size ≤ 1000) (hn : hasB s 10 = false ∧ hasB s 13 = false) (hm : s.size % 4 = 0) : Calls Tryz.prog 28 #[.string s, .string A] w (DecPost s w) := by
  have h10 : Calls Tryz.prog 43 #[.string s, .int .u8 10] w fun e w' => e = .returned (.bool false) ∧ w = w' := by rw [← hn.1]; exact has_any s 10 w (by omega)
  have h13 : Calls Tryz.prog 43 #[.string s, .int .u8 13] w fun e w' => e = .returned (.bool false) ∧ w = w' := by rw [← hn.2]; exact has_any s 13 w (by omega)
  have hP : ∀ (c : UInt8) (w : World), Calls Tryz.prog 44 #[.string A, .int .u8 (c.toNat : Int)] w (PlacePost c w) := by rw [hA]; exact place_any
  have H10 := Lib.hid h10
  have H13 := Lib.hid h13
  have HP := Lib.hid hP
  have HNL := Lib.hid hn
  have hm1 : ((s.size : Int) % 4 != 0) = false := by simp; omega
  have HM := Lib.hid hm
  clear h10 h13 hn hP hA hm
  go_enter Tryz.func28, Tryz.ntmps28
  go_wp2_with fail
  refine H10.out.mono ?_
  rintro e w' ⟨rfl, rfl⟩
  go_wp2_with fail
  refine H13.out.mono ?_
  rintro e w' ⟨rfl, rfl⟩
  go_wp2
  go_loopw [0, 6, 7, 8, 9, 10, 11, 12] (fun x o _ _ _ _ _ _ wr => ∃ (X : ByteArray) (O : List UInt8), x = .string X ∧ o = .string ⟨O.toArray⟩ ∧ O.length + X.size ≤ s.size ∧ X.size % 4 = 0 ∧ (dec X.data.toList).map (O ++ ·) = dec s.data.toList ∧ Below w.heap.size w wr) (fun x _ _ _ _ _ _ _ _ => lenOf x)
  case atStart => exact ⟨s, [], rfl, rfl, by simp, HM.out, by cases dec s.data.toList <;> simp, Below.refl _ _⟩
  case round =>
    obtain ⟨X, O, rfl, rfl, hX, hX4, hD, hB⟩ := hrel
    have HB := Lib.hid hB
    have HD := Lib.hid hD
    clear hB hD
    by_cases hz : 0 < X.size
    · have hge : 4 ≤ X.size := by omega
      have h0 := four4 X hge
      obtain ⟨r, hr⟩ : ∃ r, r = X.data.toList.drop 4 := ⟨_, rfl⟩
      rw [← hr] at h0
      have HR := Lib.hid hr
      clear hr
      have h0 := Lib.hid h0
      go_wp2
      go_loop [7, 8, 9, 10, 11, 26] (fun v n _ _ _ i => ∃ k : Nat, i = .int .i64 k ∧ k ≤ 4 ∧ v = .int .i64 (nAt X[0] X[1] X[2] X[3] k : Nat) ∧ n = .int .i64 (cAt X[2] X[3] k : Nat) ∧ OkAt X[0] X[1] X[2] X[3] r k) (fun _ _ _ _ _ i => 4 - (intOf i).toNat)
      case atStart => exact ⟨0, rfl, Nat.zero_le _, rfl, rfl, OkAt.zero _ _ _ _ _⟩
      case round =>
        obtain ⟨k, rfl, hk, rfl, rfl, hO⟩ := hrel
        have HO := Lib.hid hO
        clear hO
        rcases (by omega : k = 0 ∨ k = 1 ∨ k = 2 ∨ k = 3 ∨ k = 4) with rfl | rfl | rfl | rfl | rfl
        · -- letter 0
          by_cases hv : dmV X[0] = 255
          · have hv1 : (dmV X[0] != 255) = false := by rw [hv]; rfl
            have HV := Lib.hid hv
            clear hv
            by_cases hc0 : X[0] = 61
            · have hb0 : ((X[0].toNat : Int) == 61) = true := by rw [hc0]; rfl
              have HC0 := Lib.hid hc0
              clear hc0
              by_cases hc1 : X.size = 4
              · have hb1 : ((X.size : Int) == 4) = true := by rw [beq_iff_eq]; omega
                have HC1 := Lib.hid hc1
                clear hc1
                go_wp2_with (go_at_call 44; refine (HP.out _ _).mono ?_; rintro e w' ⟨rfl, rfl⟩)
                go_ret2
                exact DecPost.none HB.out HNL.out (by have h := HD.out; rw [h0.out.eq, dec_none _ _ _ _ _ (kq_bad _ _ _ _ _ (by exact .inl (Hid.out HV)))] at h; exact h.symm)
              · have hb1 : ((X.size : Int) == 4) = false := by rw [beq_eq_false_iff_ne]; omega
                have HC1 := Lib.hid hc1
                clear hc1
                go_wp2_with (go_at_call 44; refine (HP.out _ _).mono ?_; rintro e w' ⟨rfl, rfl⟩)
                go_ret2
                exact DecPost.none HB.out HNL.out (by have h := HD.out; rw [h0.out.eq, dec_none _ _ _ _ _ (kq_bad _ _ _ _ _ (by exact .inl (Hid.out HV)))] at h; exact h.symm)
            · have hb0 : ((X[0].toNat : Int) == 61) = false := by rw [beq_eq_false_iff_ne]; intro e; apply hc0; exact UInt8.toNat_inj.1 (by show _ = 61; omega)
              have HC0 := Lib.hid hc0
              clear hc0
              go_wp2_with (go_at_call 44; refine (HP.out _ _).mono ?_; rintro e w' ⟨rfl, rfl⟩)
              go_ret2
              exact DecPost.none HB.out HNL.out (by have h := HD.out; rw [h0.out.eq, dec_none _ _ _ _ _ (kq_bad _ _ _ _ _ (by exact .inl (Hid.out HV)))] at h; exact h.symm)
          · have hv1 : (dmV X[0] != 255) = true := by simpa using hv
            have hb0 : ((X[0].toNat : Int) == 61) = false := by rw [beq_eq_false_iff_ne]; intro e; apply hv; rw [show X[0] = 61 from UInt8.toNat_inj.1 (by show _ = 61; omega)]; exact dmV_61
            have hor := i64_or6 (nAt X[0] X[1] X[2] X[3] 0) (dz X[0]) (nAt_lt _ _ _ _ 0 (by omega)) (dz_lt _)
            have HV := Lib.hid hv
            clear hv
            go_wp2_with (go_at_call 44; refine (HP.out _ _).mono ?_; rintro e w' ⟨rfl, rfl⟩)
            go_round
            case rel => exact ⟨1, by go_num, by omega, by rw [wrap64_six _ (nAt_lt _ _ _ _ 0 (by omega)), hor]; rfl, by rw [cAt_good1 ]; rfl, HO.out.one HV.out⟩
            case measure => simp [intOf]
        · -- letter 1
          by_cases hv : dmV X[1] = 255
          · have hv1 : (dmV X[1] != 255) = false := by rw [hv]; rfl
            have HV := Lib.hid hv
            clear hv
            by_cases hc0 : X[1] = 61
            · have hb0 : ((X[1].toNat : Int) == 61) = true := by rw [hc0]; rfl
              have HC0 := Lib.hid hc0
              clear hc0
              by_cases hc1 : X.size = 4
              · have hb1 : ((X.size : Int) == 4) = true := by rw [beq_iff_eq]; omega
                have HC1 := Lib.hid hc1
                clear hc1
                go_wp2_with (go_at_call 44; refine (HP.out _ _).mono ?_; rintro e w' ⟨rfl, rfl⟩)
                go_ret2
                exact DecPost.none HB.out HNL.out (by have h := HD.out; rw [h0.out.eq, dec_none _ _ _ _ _ (kq_bad _ _ _ _ _ (by exact .inr (Hid.out HV)))] at h; exact h.symm)
              · have hb1 : ((X.size : Int) == 4) = false := by rw [beq_eq_false_iff_ne]; omega
                have HC1 := Lib.hid hc1
                clear hc1
                go_wp2_with (go_at_call 44; refine (HP.out _ _).mono ?_; rintro e w' ⟨rfl, rfl⟩)
                go_ret2
                exact DecPost.none HB.out HNL.out (by have h := HD.out; rw [h0.out.eq, dec_none _ _ _ _ _ (kq_bad _ _ _ _ _ (by exact .inr (Hid.out HV)))] at h; exact h.symm)
            · have hb0 : ((X[1].toNat : Int) == 61) = false := by rw [beq_eq_false_iff_ne]; intro e; apply hc0; exact UInt8.toNat_inj.1 (by show _ = 61; omega)
              have HC0 := Lib.hid hc0
              clear hc0
              go_wp2_with (go_at_call 44; refine (HP.out _ _).mono ?_; rintro e w' ⟨rfl, rfl⟩)
              go_ret2
              exact DecPost.none HB.out HNL.out (by have h := HD.out; rw [h0.out.eq, dec_none _ _ _ _ _ (kq_bad _ _ _ _ _ (by exact .inr (Hid.out HV)))] at h; exact h.symm)
          · have hv1 : (dmV X[1] != 255) = true := by simpa using hv
            have hb0 : ((X[1].toNat : Int) == 61) = false := by rw [beq_eq_false_iff_ne]; intro e; apply hv; rw [show X[1] = 61 from UInt8.toNat_inj.1 (by show _ = 61; omega)]; exact dmV_61
            have hor := i64_or6 (nAt X[0] X[1] X[2] X[3] 1) (dz X[1]) (nAt_lt _ _ _ _ 1 (by omega)) (dz_lt _)
            have HV := Lib.hid hv
            clear hv
            go_wp2_with (go_at_call 44; refine (HP.out _ _).mono ?_; rintro e w' ⟨rfl, rfl⟩)
            go_round
            case rel => exact ⟨2, by go_num, by omega, by rw [wrap64_six _ (nAt_lt _ _ _ _ 1 (by omega)), hor]; rfl, by rw [cAt_good2 ]; rfl, HO.out.two HV.out⟩
            case measure => simp [intOf]
        · -- letter 2
          by_cases hv : dmV X[2] = 255
          · have hv1 : (dmV X[2] != 255) = false := by rw [hv]; rfl
            have HV := Lib.hid hv
            clear hv
            by_cases hc0 : X[2] = 61
            · have hb0 : ((X[2].toNat : Int) == 61) = true := by rw [hc0]; rfl
              have HC0 := Lib.hid hc0
              clear hc0
              by_cases hc1 : X.size = 4
              · have hb1 : ((X.size : Int) == 4) = true := by rw [beq_iff_eq]; omega
                have HC1 := Lib.hid hc1
                clear hc1
                by_cases hc2 : X[3] = 61
                · have hb2 : ((X[3].toNat : Int) == 61) = true := by rw [hc2]; rfl
                  have HC2 := Lib.hid hc2
                  clear hc2
                  go_wp2_with (go_at_call 44; refine (HP.out _ _).mono ?_; rintro e w' ⟨rfl, rfl⟩)
                  go_round
                  case rel => exact ⟨3, by go_num, by omega, by rw [show nAt X[0] X[1] X[2] X[3] 3 = nAt X[0] X[1] X[2] X[3] 2 * 64 from by have := dz_bad HV.out; simp only [nAt]; omega, wrap64_six _ (nAt_lt _ _ _ _ 2 (by omega))]; push_cast; rfl, by rw [cAt_bad3 HV.out], HO.out.three fun _ => ⟨HC0.out, HC2.out, h0.out.nil HC1.out⟩⟩
                  case measure => simp [intOf]
                · have hb2 : ((X[3].toNat : Int) == 61) = false := by rw [beq_eq_false_iff_ne]; intro e; apply hc2; exact UInt8.toNat_inj.1 (by show _ = 61; omega)
                  have HC2 := Lib.hid hc2
                  clear hc2
                  go_wp2_with (go_at_call 44; refine (HP.out _ _).mono ?_; rintro e w' ⟨rfl, rfl⟩)
                  go_ret2
                  exact DecPost.none HB.out HNL.out (by have h := HD.out; rw [h0.out.eq, dec_none _ _ _ _ _ (kq_bad3 _ _ _ _ _ HV.out (fun h => HC2.out h.2.1))] at h; exact h.symm)
              · have hb1 : ((X.size : Int) == 4) = false := by rw [beq_eq_false_iff_ne]; omega
                have HC1 := Lib.hid hc1
                clear hc1
                go_wp2_with (go_at_call 44; refine (HP.out _ _).mono ?_; rintro e w' ⟨rfl, rfl⟩)
                go_ret2
                exact DecPost.none HB.out HNL.out (by have h := HD.out; rw [h0.out.eq, dec_none _ _ _ _ _ (kq_bad3 _ _ _ _ _ HV.out (fun h => HC1.out (h0.out.four h.2.2)))] at h; exact h.symm)
            · have hb0 : ((X[2].toNat : Int) == 61) = false := by rw [beq_eq_false_iff_ne]; intro e; apply hc0; exact UInt8.toNat_inj.1 (by show _ = 61; omega)
              have HC0 := Lib.hid hc0
              clear hc0
              go_wp2_with (go_at_call 44; refine (HP.out _ _).mono ?_; rintro e w' ⟨rfl, rfl⟩)
              go_ret2
              exact DecPost.none HB.out HNL.out (by have h := HD.out; rw [h0.out.eq, dec_none _ _ _ _ _ (kq_bad3 _ _ _ _ _ HV.out (fun h => HC0.out h.1))] at h; exact h.symm)
          · have hv1 : (dmV X[2] != 255) = true := by simpa using hv
            have hb0 : ((X[2].toNat : Int) == 61) = false := by rw [beq_eq_false_iff_ne]; intro e; apply hv; rw [show X[2] = 61 from UInt8.toNat_inj.1 (by show _ = 61; omega)]; exact dmV_61
            have hor := i64_or6 (nAt X[0] X[1] X[2] X[3] 2) (dz X[2]) (nAt_lt _ _ _ _ 2 (by omega)) (dz_lt _)
            have HV := Lib.hid hv
            clear hv
            go_wp2_with (go_at_call 44; refine (HP.out _ _).mono ?_; rintro e w' ⟨rfl, rfl⟩)
            go_round
            case rel => exact ⟨3, by go_num, by omega, by rw [wrap64_six _ (nAt_lt _ _ _ _ 2 (by omega)), hor]; rfl, by rw [cAt_good3 HV.out]; rfl, HO.out.three (fun h => absurd h HV.out)⟩
            case measure => simp [intOf]
        · -- letter 3
          by_cases hv : dmV X[3] = 255
          · have hv1 : (dmV X[3] != 255) = false := by rw [hv]; rfl
            have HV := Lib.hid hv
            clear hv
            by_cases hc0 : X[3] = 61
            · have hb0 : ((X[3].toNat : Int) == 61) = true := by rw [hc0]; rfl
              have HC0 := Lib.hid hc0
              clear hc0
              by_cases hc1 : X.size = 4
              · have hb1 : ((X.size : Int) == 4) = true := by rw [beq_iff_eq]; omega
                have HC1 := Lib.hid hc1
                clear hc1
                go_wp2_with (go_at_call 44; refine (HP.out _ _).mono ?_; rintro e w' ⟨rfl, rfl⟩)
                go_round
                case rel => exact ⟨4, by go_num, by omega, by rw [show nAt X[0] X[1] X[2] X[3] 4 = nAt X[0] X[1] X[2] X[3] 3 * 64 from by have := dz_bad HV.out; simp only [nAt]; omega, wrap64_six _ (nAt_lt _ _ _ _ 3 (by omega))]; push_cast; rfl, by rw [cAt_bad4 HV.out], HO.out.four fun _ => ⟨HC0.out, h0.out.nil HC1.out⟩⟩
                case measure => simp [intOf]
              · have hb1 : ((X.size : Int) == 4) = false := by rw [beq_eq_false_iff_ne]; omega
                have HC1 := Lib.hid hc1
                clear hc1
                go_wp2_with (go_at_call 44; refine (HP.out _ _).mono ?_; rintro e w' ⟨rfl, rfl⟩)
                go_ret2
                exact DecPost.none HB.out HNL.out (by have h := HD.out; rw [h0.out.eq, dec_none _ _ _ _ _ (kq_bad4 _ _ _ _ _ HV.out HO.out.c (fun h => HC1.out (h0.out.four h.2)))] at h; exact h.symm)
            · have hb0 : ((X[3].toNat : Int) == 61) = false := by rw [beq_eq_false_iff_ne]; intro e; apply hc0; exact UInt8.toNat_inj.1 (by show _ = 61; omega)
              have HC0 := Lib.hid hc0
              clear hc0
              go_wp2_with (go_at_call 44; refine (HP.out _ _).mono ?_; rintro e w' ⟨rfl, rfl⟩)
              go_ret2
              exact DecPost.none HB.out HNL.out (by have h := HD.out; rw [h0.out.eq, dec_none _ _ _ _ _ (kq_bad4 _ _ _ _ _ HV.out HO.out.c (fun h => HC0.out h.1))] at h; exact h.symm)
          · have hv1 : (dmV X[3] != 255) = true := by simpa using hv
            have hb0 : ((X[3].toNat : Int) == 61) = false := by rw [beq_eq_false_iff_ne]; intro e; apply hv; rw [show X[3] = 61 from UInt8.toNat_inj.1 (by show _ = 61; omega)]; exact dmV_61
            have hor := i64_or6 (nAt X[0] X[1] X[2] X[3] 3) (dz X[3]) (nAt_lt _ _ _ _ 3 (by omega)) (dz_lt _)
            have HV := Lib.hid hv
            clear hv
            go_wp2_with (go_at_call 44; refine (HP.out _ _).mono ?_; rintro e w' ⟨rfl, rfl⟩)
            go_round
            case rel => exact ⟨4, by go_num, by omega, by rw [wrap64_six _ (nAt_lt _ _ _ _ 3 (by omega)), hor]; rfl, by rw [cAt_good4 HV.out]; rfl, HO.out.four (fun h => absurd h HV.out)⟩
            case measure => simp [intOf]
        · obtain ⟨v, hv⟩ : ∃ v, v = nAt X[0] X[1] X[2] X[3] 4 := ⟨_, rfl⟩
          have hk := HO.out.kq
          obtain ⟨n, hnn⟩ : ∃ n, n = cAt X[2] X[3] 4 := ⟨_, rfl⟩
          rw [← hv, ← hnn]
          rw [← hnn] at hk
          have hd := HD.out
          rw [h0.out.eq, dec_some hk, ← nAt_four, ← hv] at hd
          have hn4 : n = 2 ∨ n = 3 ∨ n = 4 := by
            rw [hnn]; simp only [cAt]; split
            · split <;> omega
            · omega
          have hv2 : v < 16777216 := by
            have h1 := nAt_lt X[0] X[1] X[2] X[3] 3 (by omega); have h2 := dz_lt X[3]
            rw [hv]; simp only [nAt] at h1 ⊢; omega
          obtain ⟨y0, e0⟩ : ∃ y, y = UInt8.ofNat (v / 65536) := ⟨_, rfl⟩
          obtain ⟨y1, e1⟩ : ∃ y, y = UInt8.ofNat (v / 256) := ⟨_, rfl⟩
          obtain ⟨y2, e2⟩ : ∃ y, y = UInt8.ofNat v := ⟨_, rfl⟩
          have f0 : IntKind.u8.wrap ((v : Int) / 65536) = (y0.toNat : Int) := by rw [IntKind.wrap_u8, e0, UInt8.toNat_ofNat']; omega
          have f1 : IntKind.u8.wrap ((v : Int) / 256) = (y1.toNat : Int) := by rw [IntKind.wrap_u8, e1, UInt8.toNat_ofNat']; omega
          have f2 : IntKind.u8.wrap (v : Int) = (y2.toNat : Int) := by rw [IntKind.wrap_u8, e2, UInt8.toNat_ofNat']; omega
          unfold grpB at hd
          rw [← e0, ← e1, ← e2] at hd
          have hOl : ¬ 9223372036854775807 < O.length + 3 := by omega
          have HD2 := Lib.hid hd
          clear hv hnn hk hd e0 e1 e2
          rcases hn4 with rfl | rfl | rfl
          · by_cases hz1 : y1 = 0
            · have q1 : ((y1.toNat : Int) != 0) = false := by rw [hz1]; rfl
              clear hz1
              have hcv : Sem.run Tryz.prog (convert 56 9 (.slice (some ⟨wr.heap.size, 0, none⟩) 1 3)) (wr.alloc (.cells #[.int .u8 (y0.toNat : Int), .int .u8 (y1.toNat : Int), .int .u8 (y2.toNat : Int)] 5)) = .ok (.string ⟨#[y0]⟩) (wr.alloc (.cells #[.int .u8 (y0.toNat : Int), .int .u8 (y1.toNat : Int), .int .u8 (y2.toNat : Int)] 5)) := conv_to wr [y0] [y0, y1, y2] rfl
              have happ : (⟨O.toArray⟩ : ByteArray) ++ ⟨#[y0]⟩ = ⟨(O ++ [y0]).toArray⟩ := strV_app O [y0]
              have hOk : ¬ 9223372036854775807 < O.length + 1 := by omega
              have HAPP := Lib.hid happ
              clear happ
              go_wp2
              go_roundw
              case rel => exact ⟨_, O ++ [y0], rfl, congrArg Value.string HAPP.out, by rw [ByteArray.size_extract, List.length_append]; simp only [List.length_cons, List.length_nil]; omega, by rw [ByteArray.size_extract]; omega, by rw [Lib.extract_to_end, ← HR.out, ← HD2.out, Option.map_map]; congr 1; funext z; simp, HB.out.alloc HB.out.size _⟩
              case measure => simp [lenOf]; omega
            · have q1 : ((y1.toNat : Int) != 0) = true := by rw [bne_iff_ne]; intro e; apply hz1; exact UInt8.toNat_inj.1 (by show _ = 0; omega)
              clear hz1
              go_wp2
              go_ret2
              exact DecPost.open_ (HB.out.alloc HB.out.size _)
          · by_cases hz1 : y2 = 0
            · have q1 : ((y2.toNat : Int) != 0) = false := by rw [hz1]; rfl
              clear hz1
              have hcv : Sem.run Tryz.prog (convert 56 9 (.slice (some ⟨wr.heap.size, 0, none⟩) 2 3)) (wr.alloc (.cells #[.int .u8 (y0.toNat : Int), .int .u8 (y1.toNat : Int), .int .u8 (y2.toNat : Int)] 5)) = .ok (.string ⟨#[y0, y1]⟩) (wr.alloc (.cells #[.int .u8 (y0.toNat : Int), .int .u8 (y1.toNat : Int), .int .u8 (y2.toNat : Int)] 5)) := conv_to wr [y0, y1] [y0, y1, y2] rfl
              have happ : (⟨O.toArray⟩ : ByteArray) ++ ⟨#[y0, y1]⟩ = ⟨(O ++ [y0, y1]).toArray⟩ := strV_app O [y0, y1]
              have hOk : ¬ 9223372036854775807 < O.length + 2 := by omega
              have HAPP := Lib.hid happ
              clear happ
              go_wp2
              go_roundw
              case rel => exact ⟨_, O ++ [y0, y1], rfl, congrArg Value.string HAPP.out, by rw [ByteArray.size_extract, List.length_append]; simp only [List.length_cons, List.length_nil]; omega, by rw [ByteArray.size_extract]; omega, by rw [Lib.extract_to_end, ← HR.out, ← HD2.out, Option.map_map]; congr 1; funext z; simp, HB.out.alloc HB.out.size _⟩
              case measure => simp [lenOf]; omega
            · have q1 : ((y2.toNat : Int) != 0) = true := by rw [bne_iff_ne]; intro e; apply hz1; exact UInt8.toNat_inj.1 (by show _ = 0; omega)
              clear hz1
              go_wp2
              go_ret2
              exact DecPost.open_ (HB.out.alloc HB.out.size _)
          · -- three bytes
            have hcv : Sem.run Tryz.prog (convert 56 9 (.slice (some ⟨wr.heap.size, 0, none⟩) 3 3)) (wr.alloc (.cells #[.int .u8 (y0.toNat : Int), .int .u8 (y1.toNat : Int), .int .u8 (y2.toNat : Int)] 5)) = .ok (.string ⟨#[y0, y1, y2]⟩) (wr.alloc (.cells #[.int .u8 (y0.toNat : Int), .int .u8 (y1.toNat : Int), .int .u8 (y2.toNat : Int)] 5)) := conv_to wr [y0, y1, y2] [y0, y1, y2] rfl
            have happ : (⟨O.toArray⟩ : ByteArray) ++ ⟨#[y0, y1, y2]⟩ = ⟨(O ++ [y0, y1, y2]).toArray⟩ := strV_app O [y0, y1, y2]
            have hOk : ¬ 9223372036854775807 < O.length + 3 := by omega
            have HAPP := Lib.hid happ
            clear happ
            go_wp2
            go_roundw
            case rel => exact ⟨_, O ++ [y0, y1, y2], rfl, congrArg Value.string HAPP.out, by rw [ByteArray.size_extract, List.length_append]; simp only [List.length_cons, List.length_nil]; omega, by rw [ByteArray.size_extract]; omega, by rw [Lib.extract_to_end, ← HR.out, ← HD2.out, Option.map_map]; congr 1; funext z; simp, HB.out.alloc HB.out.size _⟩
            case measure => simp [lenOf]; omega
    · have e : X.data.toList = [] := List.length_eq_zero_iff.1 (by rw [← Lib.size_eq]; omega)
      have hd := HD.out
      rw [e] at hd
      have HD2 := Lib.hid hd
      clear hd e
      go_wp2
      go_ret2
      exact ⟨HB.out, O, 0, rfl, .inr ⟨HNL.out, .inr ⟨rfl, by rw [← HD2.out]; simp [dec]⟩⟩⟩

theorem specDecode_any (s : ByteArray) (w : World) (hs : s.size ≤ 1000) : Calls Tryz.prog 28 #[.string s, .string alphaS] w (DecPost s w) := by
  by_cases h1 : hasB s 10 = true
  · exact specDecode_open10 s _ w hs h1
  · have h1 : hasB s 10 = false := by simpa using h1
    by_cases h2 : hasB s 13 = true
    · exact specDecode_open13 s _ w hs h1 h2
    · have h2 : hasB s 13 = false := by simpa using h2
      by_cases h3 : s.size % 4 = 0
      · exact specDecode_main s _ rfl w hs ⟨h1, h2⟩ h3
      · exact specDecode_mod s _ w hs ⟨h1, h2⟩ h3

end Go.Proofs.YtinmmchjfifcgaaGreatDoor

