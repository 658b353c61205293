/- Plain lists: base64 by groups of three bytes, padded or not; padding is what stands at the end alone. No program. -/
namespace Go.Proofs.YtinmmchjfifcgaaGreatDoor

/-- The sign of six bits. -/
def sgn (A : List UInt8) (n : Nat) : UInt8 := A.getD (n % 64) 0
/-- base64 by groups of three bytes. -/
def encB (A : List UInt8) (pad : Bool) : List UInt8 → List UInt8
  | [] => []
  | [a] => sgn A (a.toNat * 65536 / 262144) :: sgn A (a.toNat * 65536 / 4096) :: (if pad then [61, 61] else [])
  | [a, b] => sgn A ((a.toNat * 65536 + b.toNat * 256) / 262144) :: sgn A ((a.toNat * 65536 + b.toNat * 256) / 4096) :: sgn A ((a.toNat * 65536 + b.toNat * 256) / 64) :: (if pad then [61] else [])
  | a :: b :: c :: r => sgn A ((a.toNat * 65536 + b.toNat * 256 + c.toNat) / 262144) :: sgn A ((a.toNat * 65536 + b.toNat * 256 + c.toNat) / 4096) :: sgn A ((a.toNat * 65536 + b.toNat * 256 + c.toNat) / 64) :: sgn A (a.toNat * 65536 + b.toNat * 256 + c.toNat) :: encB A pad r

theorem encB_length_pad (A : List UInt8) : ∀ S : List UInt8, (encB A true S).length = (S.length + 2) / 3 * 4
  | [] => by simp [encB]
  | [a] => by simp [encB]
  | [a, b] => by simp [encB]
  | a :: b :: c :: r => by
    simp only [encB, List.length_cons, encB_length_pad A r]; omega
theorem encB_length_raw (A : List UInt8) : ∀ S : List UInt8, (encB A false S).length = S.length / 3 * 4 + (S.length % 3 * 8 + 5) / 6
  | [] => by simp [encB]
  | [a] => by simp [encB]
  | [a, b] => by simp [encB]
  | a :: b :: c :: r => by
    simp only [encB, List.length_cons, encB_length_raw A r]; omega

theorem encB_le (A : List UInt8) (pad : Bool) (S : List UInt8) : (encB A pad S).length ≤ 2 * S.length + 4 := by
  cases pad
  · rw [encB_length_raw]; omega
  · rw [encB_length_pad]; omega

/-- Padding stands at the end alone. -/
theorem encB_pads (A : List UInt8) : ∀ S : List UInt8, ∃ k, encB A true S = encB A false S ++ List.replicate k 61
  | [] => ⟨0, rfl⟩
  | [a] => ⟨2, rfl⟩
  | [a, b] => ⟨1, rfl⟩
  | a :: b :: c :: r => by
    obtain ⟨k, hk⟩ := encB_pads A r
    exact ⟨k, by simp [encB, hk]⟩

theorem encB_no (A : List UInt8) (h : ∀ n, sgn A n ≠ 61) : ∀ S : List UInt8, ∀ c ∈ encB A false S, c ≠ 61
  | [] => by simp [encB]
  | [a] => by
    intro c hc
    simp only [encB, Bool.false_eq_true, if_false, List.mem_cons, List.not_mem_nil, or_false] at hc
    rcases hc with rfl | rfl <;> exact h _
  | [a, b] => by
    intro c hc
    simp only [encB, Bool.false_eq_true, if_false, List.mem_cons, List.not_mem_nil, or_false] at hc
    rcases hc with rfl | rfl | rfl <;> exact h _
  | a :: b :: c :: r => by
    intro x hx
    simp only [encB, List.mem_cons] at hx
    rcases hx with rfl | rfl | rfl | rfl | hx
    · exact h _
    · exact h _
    · exact h _
    · exact h _
    · exact encB_no A h r x hx

theorem encB_step (A : List UInt8) (pad : Bool) (S : List UInt8) (k : Nat) (h : k + 3 ≤ S.length) :
    encB A pad (S.drop k) = [sgn A ((S[k].toNat * 65536 + S[k + 1].toNat * 256 + S[k + 2].toNat) / 262144), sgn A ((S[k].toNat * 65536 + S[k + 1].toNat * 256 + S[k + 2].toNat) / 4096), sgn A ((S[k].toNat * 65536 + S[k + 1].toNat * 256 + S[k + 2].toNat) / 64), sgn A (S[k].toNat * 65536 + S[k + 1].toNat * 256 + S[k + 2].toNat)] ++ encB A pad (S.drop (k + 3)) := by
  rw [List.drop_eq_getElem_cons (show k < S.length by omega), List.drop_eq_getElem_cons (show k + 1 < S.length by omega), List.drop_eq_getElem_cons (show k + 1 + 1 < S.length by omega)]
  rfl
theorem encB_two (A : List UInt8) (pad : Bool) (S : List UInt8) (k : Nat) (h : k + 2 = S.length) :
    encB A pad (S.drop k) = [sgn A ((S[k].toNat * 65536 + S[k + 1].toNat * 256) / 262144), sgn A ((S[k].toNat * 65536 + S[k + 1].toNat * 256) / 4096), sgn A ((S[k].toNat * 65536 + S[k + 1].toNat * 256) / 64)] ++ (if pad then [61] else []) := by
  rw [List.drop_eq_getElem_cons (show k < S.length by omega), List.drop_eq_getElem_cons (show k + 1 < S.length by omega), List.drop_eq_nil_of_le (show S.length ≤ k + 1 + 1 by omega)]
  rfl
theorem encB_one (A : List UInt8) (pad : Bool) (S : List UInt8) (k : Nat) (h : k + 1 = S.length) :
    encB A pad (S.drop k) = [sgn A ((S[k].toNat * 65536) / 262144), sgn A ((S[k].toNat * 65536) / 4096)] ++ (if pad then [61, 61] else []) := by
  rw [List.drop_eq_getElem_cons (show k < S.length by omega), List.drop_eq_nil_of_le (show S.length ≤ k + 1 by omega)]
  rfl

end Go.Proofs.YtinmmchjfifcgaaGreatDoor
