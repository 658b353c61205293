/- spec.Encode is base64 by groups of three bytes, texts of at most 1000 bytes, an alphabet of 64 letters. -/
import Derived.Test.YtinmmchjfifcgaaGreatDoorHexEnc
namespace Go.Proofs.YtinmmchjfifcgaaGreatDoor
open Go.RowKit
set_option maxRecDepth 100000

/-- The number of the first k bytes, those beyond the end nought. -/
def numTo (l : List UInt8) : Nat → Nat
  | 0 => 0
  | k + 1 => numTo l k * 256 + (l.getD k 0).toNat
/-- The first k signs of a group whose number is v, n bytes of it given. -/
def grp (A : List UInt8) (pad : Bool) (n v : Nat) : Nat → List UInt8
  | 0 => []
  | k + 1 => grp A pad n v k ++ (if k ≤ n then [sgn A (v / 64 ^ (3 - k))] else if pad then [61] else [])

theorem grp_encB (A : List UInt8) (pad : Bool) (l : List UInt8) (h : l ≠ []) : encB A pad l = grp A pad (min 3 l.length) (numTo l 3) 4 ++ encB A pad (l.drop (min 3 l.length)) := by
  match l, h with
  | [a], _ => cases pad <;> simp [encB, grp, numTo, Nat.mul_assoc] <;> omega
  | [a, b], _ => cases pad <;> simp [encB, grp, numTo, Nat.mul_assoc, Nat.add_mul]
  | a :: b :: c :: r, _ => 
    have e : min 3 (a :: b :: c :: r).length = 3 := by simp
    rw [e]
    simp [encB, grp, numTo, Nat.mul_assoc, Nat.add_mul]

theorem wraps_i64 (n : Int) (h₀ : 0 ≤ n) (h₁ : n < 2 ^ 24) : IntKind.i64.wrap n = n := by rw [IntKind.wrap_i64]; omega
theorem i64_and63 (n : Nat) (h : n < 16777216) : bits .and .i64 (n : Int) 63 = ((n % 64 : Nat) : Int) := by
  have := bits_mask .i64 24 (by decide) wraps_i64 6 (by decide) (n : Int) (by omega) (by omega)
  simpa using this
theorem i64_or (a c : Nat) (ha : a < 65536) (hc : c < 256) : bits .or .i64 ((a : Int) * 256) (c : Int) = ((a * 256 + c : Nat) : Int) := by
  rw [bits_join .i64 24 (by decide) wraps_i64 8 _ _ (by omega) (by omega) (by omega) (by omega) (by omega) (by omega)]; omega

theorem wrap64_small (n : Int) (h0 : 0 ≤ n) (h1 : n < 256) : wrap64 n = n := by unfold wrap64; omega
theorem numTo_lt (l : List UInt8) : ∀ k, numTo l k < 256 ^ k
  | 0 => by simp [numTo]
  | k + 1 => by
    have := numTo_lt l k
    have h2 := (l.getD k 0).toNat_lt
    rw [numTo, Nat.pow_succ]; omega

theorem grp_length (A : List UInt8) (pad : Bool) (n v : Nat) : ∀ k, (grp A pad n v k).length ≤ k
  | 0 => by simp [grp]
  | k + 1 => by
    have := grp_length A pad n v k
    rw [grp, List.length_append]
    split
    · simp; omega
    · cases pad <;> simp <;> omega

theorem ext_one (A : ByteArray) (m : Nat) (h : m < A.size) : A.extract m (m + 1) = ⟨#[A.data.toList.getD m 0]⟩ := by
  apply ByteArray.ext; apply Array.ext'
  have h' : m < A.data.toList.length := by rw [← Lib.size_eq]; exact h
  rw [Lib.extract_data, List.getD, List.getElem?_eq_getElem h', List.drop_eq_getElem_cons h', Nat.add_sub_cancel_left]
  simp

/-- What one sign's round wants to know. -/
structure SgnAt (A : ByteArray) (v q m : Nat) : Prop where
  and_ : bits .and .i64 (q : Int) 63 = (m : Int)
  lt : m < 64
  ext : A.extract m (m + 1) = ⟨#[sgn A.data.toList q]⟩
theorem sgnAt (A : ByteArray) (hA : A.size = 64) (v q : Nat) (hq : q < 16777216) : SgnAt A v q (q % 64) :=
  ⟨i64_and63 q hq, by omega, by rw [ext_one A _ (by omega)]; rfl⟩

set_option maxHeartbeats 2000000 in
theorem specEncode_any (A s : ByteArray) (pad : Bool) (w : World) (hs : s.size ≤ 1000) (hA : A.size = 64) :
    Calls Tryz.prog 22 #[.string s, .string A, .bool pad] w fun e w' => e = .returned (.string ⟨(encB A.data.toList pad s.data.toList).toArray⟩) ∧ w = w' := by
  go_enter Tryz.func22, Tryz.ntmps22
  go_wp2
  go_loop [0, 7, 8, 9, 10, 11, 12, 19, 34] (fun x o _ _ _ _ _ _ _ => ∃ (X : ByteArray) (O : List UInt8), x = .string X ∧ o = .string ⟨O.toArray⟩ ∧ X.size ≤ s.size ∧ O ++ encB A.data.toList pad X.data.toList = encB A.data.toList pad s.data.toList) (fun x _ _ _ _ _ _ _ _ => lenOf x)
  case atStart => exact ⟨s, [], rfl, rfl, Nat.le_refl _, rfl⟩
  case round =>
    obtain ⟨X, O, rfl, rfl, hX, hO⟩ := hrel
    by_cases h0 : 0 < X.size
    · obtain ⟨n, hn⟩ : ∃ n : Nat, n = min 3 X.size := ⟨_, rfl⟩
      have hn1 : min (X.size : Int) 3 = (n : Int) := by omega
      have hn2 : n ≤ 3 := by omega
      have hn3 : n ≤ X.size := by omega
      have HN := Lib.hid hn
      have HO := Lib.hid hO
      clear hn hO
      go_wp2
      go_loop [8, 10, 19] (fun b _ i => ∃ k : Nat, i = .int .i64 k ∧ k ≤ 3 ∧ b = .int .i64 (numTo X.data.toList k : Nat)) (fun _ _ i => 3 - (intOf i).toNat)
      case atStart => exact ⟨0, rfl, Nat.zero_le _, rfl⟩
      case round =>
        obtain ⟨k, rfl, hk, rfl⟩ := hrel
        by_cases hlt : k < 3
        · obtain ⟨b, hb⟩ : ∃ b, b = numTo X.data.toList k := ⟨_, rfl⟩
          have hb2 : b < 65536 := by
            have h1 := numTo_lt X.data.toList k
            have h2 : (256 : Nat) ^ k ≤ 256 ^ 2 := Nat.pow_le_pow_right (by omega) (by omega)
            omega
          have HB := Lib.hid (show numTo X.data.toList (k + 1) = numTo X.data.toList k * 256 + (X.data.toList.getD k 0).toNat from rfl)
          rw [← hb] at HB ⊢
          clear hb
          by_cases hkn : k < n
          · have hkX : k < X.size := by omega
            have hc := X[k].toNat_lt
            have hor := i64_or b X[k].toNat hb2 hc
            rw [← wrap64_small (X[k].toNat : Int) (by omega) (by omega)] at hor
            clear hc
            go_wp2
            go_round
            case rel => exact ⟨k + 1, by go_num, by omega, by rw [HB.out, List.getD, List.getElem?_eq_getElem (by rw [← Lib.size_eq]; exact hkX), get_list X k hkX]; rfl⟩
            case measure => simp [intOf]; omega
          · have e : X.data.toList.getD k 0 = 0 := by
              rw [List.getD, List.getElem?_eq_none (by have := HN.out; rw [← Lib.size_eq]; omega)]; rfl
            rw [e] at HB
            clear e
            go_wp2
            go_round
            case rel => exact ⟨k + 1, by go_num, by omega, by rw [HB.out]; push_cast; simp⟩
            case measure => simp [intOf]; omega
        · obtain rfl : k = 3 := by omega
          obtain ⟨v, hv⟩ : ∃ v, v = numTo X.data.toList 3 := ⟨_, rfl⟩
          have hv2 : v < 16777216 := by rw [hv]; exact numTo_lt _ 3
          rw [← hv]
          have HV := Lib.hid hv
          have hOl : O.length ≤ 2004 := by
            have h1 := congrArg List.length HO.out
            have h2 := encB_le A.data.toList pad s.data.toList
            rw [List.length_append, ← Lib.size_eq] at *
            omega
          clear hv
          go_wp2
          go_loop [7, 11, 12, 34] (fun o _ _ i => ∃ k : Nat, i = .int .i64 k ∧ k ≤ 4 ∧ o = .string ⟨(O ++ grp A.data.toList pad n v k).toArray⟩) (fun _ _ _ i => 4 - (intOf i).toNat)
          case atStart => exact ⟨0, rfl, Nat.zero_le _, by simp [grp]⟩
          case round =>
            obtain ⟨k, rfl, hk, rfl⟩ := hrel
            rcases (by omega : k = 0 ∨ k = 1 ∨ k = 2 ∨ k = 3 ∨ k = 4) with rfl | rfl | rfl | rfl | rfl
            · -- round 0
              have S := sgnAt A hA v (v / 262144) (by omega)
              obtain ⟨m, hm⟩ : ∃ m, m = (v / 262144) % 64 := ⟨_, rfl⟩
              rw [← hm] at S
              have a1 : bits .and .i64 ((v : Int) / 262144) 63 = (m : Int) := S.and_
              have a2 := S.lt
              have a3 := S.ext
              have q1 : (m : Int) + 1 ≤ 64 := by omega
              have q2 : (0 : Int) ≤ (m : Int) + 1 := by omega
              have q3 : (m : Int) ≤ (m : Int) + 1 := by omega
              clear S hm
              by_cases hkn : 0 ≤ n
              · have HG := Lib.hid (show grp A.data.toList pad n v 1 = grp A.data.toList pad n v 0 ++ [sgn A.data.toList (v / 262144)] by simp [grp, hkn])
                obtain ⟨c, hc⟩ : ∃ c, c = sgn A.data.toList (v / 262144) := ⟨_, rfl⟩
                rw [← hc] at a3 HG
                obtain ⟨R, hR⟩ : ∃ R, R = O ++ grp A.data.toList pad n v 0 := ⟨_, rfl⟩
                have hRs : ¬ 9223372036854775807 < R.length + 1 := by rw [hR, List.length_append]; have := grp_length A.data.toList pad n v 0; omega
                rw [← hR]
                have HR := Lib.hid hR
                clear hc hR
                go_wp2
                go_round
                case rel => exact ⟨1, by go_num, by omega, by rw [HG.out, ← List.append_assoc, ← HR.out]; exact congrArg Value.string (strV_app R [c])⟩
                case measure => simp [intOf]
              · exact absurd (by have := HN.out; omega) hkn
            · -- round 1
              have S := sgnAt A hA v (v / 4096) (by omega)
              obtain ⟨m, hm⟩ : ∃ m, m = (v / 4096) % 64 := ⟨_, rfl⟩
              rw [← hm] at S
              have a1 : bits .and .i64 ((v : Int) / 4096) 63 = (m : Int) := S.and_
              have a2 := S.lt
              have a3 := S.ext
              have q1 : (m : Int) + 1 ≤ 64 := by omega
              have q2 : (0 : Int) ≤ (m : Int) + 1 := by omega
              have q3 : (m : Int) ≤ (m : Int) + 1 := by omega
              clear S hm
              by_cases hkn : 1 ≤ n
              · have HG := Lib.hid (show grp A.data.toList pad n v 2 = grp A.data.toList pad n v 1 ++ [sgn A.data.toList (v / 4096)] by simp [grp, hkn])
                obtain ⟨c, hc⟩ : ∃ c, c = sgn A.data.toList (v / 4096) := ⟨_, rfl⟩
                rw [← hc] at a3 HG
                obtain ⟨R, hR⟩ : ∃ R, R = O ++ grp A.data.toList pad n v 1 := ⟨_, rfl⟩
                have hRs : ¬ 9223372036854775807 < R.length + 1 := by rw [hR, List.length_append]; have := grp_length A.data.toList pad n v 1; omega
                rw [← hR]
                have HR := Lib.hid hR
                clear hc hR
                go_wp2
                go_round
                case rel => exact ⟨2, by go_num, by omega, by rw [HG.out, ← List.append_assoc, ← HR.out]; exact congrArg Value.string (strV_app R [c])⟩
                case measure => simp [intOf]
              · exact absurd (by have := HN.out; omega) hkn
            · -- round 2
              have S := sgnAt A hA v (v / 64) (by omega)
              obtain ⟨m, hm⟩ : ∃ m, m = (v / 64) % 64 := ⟨_, rfl⟩
              rw [← hm] at S
              have a1 : bits .and .i64 ((v : Int) / 64) 63 = (m : Int) := S.and_
              have a2 := S.lt
              have a3 := S.ext
              have q1 : (m : Int) + 1 ≤ 64 := by omega
              have q2 : (0 : Int) ≤ (m : Int) + 1 := by omega
              have q3 : (m : Int) ≤ (m : Int) + 1 := by omega
              clear S hm
              by_cases hkn : 2 ≤ n
              · have HG := Lib.hid (show grp A.data.toList pad n v 3 = grp A.data.toList pad n v 2 ++ [sgn A.data.toList (v / 64)] by simp [grp, hkn])
                obtain ⟨c, hc⟩ : ∃ c, c = sgn A.data.toList (v / 64) := ⟨_, rfl⟩
                rw [← hc] at a3 HG
                obtain ⟨R, hR⟩ : ∃ R, R = O ++ grp A.data.toList pad n v 2 := ⟨_, rfl⟩
                have hRs : ¬ 9223372036854775807 < R.length + 1 := by rw [hR, List.length_append]; have := grp_length A.data.toList pad n v 2; omega
                rw [← hR]
                have HR := Lib.hid hR
                clear hc hR
                go_wp2
                go_round
                case rel => exact ⟨3, by go_num, by omega, by rw [HG.out, ← List.append_assoc, ← HR.out]; exact congrArg Value.string (strV_app R [c])⟩
                case measure => simp [intOf]
              · clear a3
                cases pad with
                | false =>
                  have HG := Lib.hid (show grp A.data.toList false n v 3 = grp A.data.toList false n v 2 by simp [grp, hkn])
                  go_wp2
                  go_round
                  case rel => exact ⟨3, by go_num, by omega, by rw [HG.out]⟩
                  case measure => simp [intOf]
                | true =>
                  have HG := Lib.hid (show grp A.data.toList true n v 3 = grp A.data.toList true n v 2 ++ [61] by simp [grp, hkn])
                  obtain ⟨R, hR⟩ : ∃ R, R = O ++ grp A.data.toList true n v 2 := ⟨_, rfl⟩
                  have hRs : ¬ 9223372036854775807 < R.length + 1 := by rw [hR, List.length_append]; have := grp_length A.data.toList true n v 2; omega
                  rw [← hR]
                  have HR := Lib.hid hR
                  clear hR
                  go_wp2
                  go_round
                  case rel => exact ⟨3, by go_num, by omega, by rw [HG.out, ← List.append_assoc, ← HR.out]; exact congrArg Value.string (strV_app R [61])⟩
                  case measure => simp [intOf]
            · -- round 3
              have S := sgnAt A hA v (v) (by omega)
              obtain ⟨m, hm⟩ : ∃ m, m = (v) % 64 := ⟨_, rfl⟩
              rw [← hm] at S
              have a1 : bits .and .i64 ((v : Int)) 63 = (m : Int) := S.and_
              have a2 := S.lt
              have a3 := S.ext
              have q1 : (m : Int) + 1 ≤ 64 := by omega
              have q2 : (0 : Int) ≤ (m : Int) + 1 := by omega
              have q3 : (m : Int) ≤ (m : Int) + 1 := by omega
              clear S hm
              by_cases hkn : 3 ≤ n
              · have HG := Lib.hid (show grp A.data.toList pad n v 4 = grp A.data.toList pad n v 3 ++ [sgn A.data.toList (v)] by simp [grp, hkn])
                obtain ⟨c, hc⟩ : ∃ c, c = sgn A.data.toList (v) := ⟨_, rfl⟩
                rw [← hc] at a3 HG
                obtain ⟨R, hR⟩ : ∃ R, R = O ++ grp A.data.toList pad n v 3 := ⟨_, rfl⟩
                have hRs : ¬ 9223372036854775807 < R.length + 1 := by rw [hR, List.length_append]; have := grp_length A.data.toList pad n v 3; omega
                rw [← hR]
                have HR := Lib.hid hR
                clear hc hR
                go_wp2
                go_round
                case rel => exact ⟨4, by go_num, by omega, by rw [HG.out, ← List.append_assoc, ← HR.out]; exact congrArg Value.string (strV_app R [c])⟩
                case measure => simp [intOf]
              · clear a3
                cases pad with
                | false =>
                  have HG := Lib.hid (show grp A.data.toList false n v 4 = grp A.data.toList false n v 3 by simp [grp, hkn])
                  go_wp2
                  go_round
                  case rel => exact ⟨4, by go_num, by omega, by rw [HG.out]⟩
                  case measure => simp [intOf]
                | true =>
                  have HG := Lib.hid (show grp A.data.toList true n v 4 = grp A.data.toList true n v 3 ++ [61] by simp [grp, hkn])
                  obtain ⟨R, hR⟩ : ∃ R, R = O ++ grp A.data.toList true n v 3 := ⟨_, rfl⟩
                  have hRs : ¬ 9223372036854775807 < R.length + 1 := by rw [hR, List.length_append]; have := grp_length A.data.toList true n v 3; omega
                  rw [← hR]
                  have HR := Lib.hid hR
                  clear hR
                  go_wp2
                  go_round
                  case rel => exact ⟨4, by go_num, by omega, by rw [HG.out, ← List.append_assoc, ← HR.out]; exact congrArg Value.string (strV_app R [61])⟩
                  case measure => simp [intOf]
            · have HG := Lib.hid (grp_encB A.data.toList pad X.data.toList (by intro e; rw [Lib.size_eq, e] at h0; simp at h0))
              rw [← Lib.size_eq, ← HN.out, ← HV.out] at HG
              go_wp2
              go_round
              case rel => exact ⟨_, _, rfl, rfl, by rw [ByteArray.size_extract]; omega, by rw [Lib.extract_to_end, List.append_assoc, ← HG.out]; exact HO.out⟩
              case measure => have := HN.out; simp [lenOf]; omega
    · have e : X.data.toList = [] := List.length_eq_zero_iff.1 (by rw [← Lib.size_eq]; omega)
      rw [e] at hO
      have HO := Lib.hid hO
      clear hO e
      go_wp2
      go_ret
      exact ⟨by rw [← HO.out]; simp [encB], rfl⟩

end Go.Proofs.YtinmmchjfifcgaaGreatDoor
