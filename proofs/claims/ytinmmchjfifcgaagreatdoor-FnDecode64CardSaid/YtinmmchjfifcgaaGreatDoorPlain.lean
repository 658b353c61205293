/- Plain lists: replacing from left to right ('rep'), splitting ('spl'), joining ('joinL'); what is split and joined by another one is what replacing gives; what is replaced by a mark that did not stand there comes back. No program. -/
namespace Go.Proofs.YtinmmchjfifcgaaGreatDoor

/-- Replacing f by t from left to right, the first k letters passed over. -/
def rep (f t : List UInt8) : Nat → List UInt8 → List UInt8
  | _, [] => []
  | 0, c :: s => if f.isPrefixOf (c :: s) then t ++ rep f t (f.length - 1) s else c :: rep f t 0 s
  | k + 1, _ :: s => rep f t k s

/-- Splitting at f, acc being the part at hand, the next k letters passed over. -/
def spl (f : List UInt8) : List UInt8 → Nat → List UInt8 → List (List UInt8)
  | acc, _, [] => [acc]
  | acc, 0, c :: s => if f.isPrefixOf (c :: s) then acc :: spl f [] (f.length - 1) s else spl f (acc ++ [c]) 0 s
  | acc, k + 1, _ :: s => spl f acc k s

def joinL (t : List UInt8) : List (List UInt8) → List UInt8
  | [] => []
  | [a] => a
  | a :: b :: r => a ++ (t ++ joinL t (b :: r))

theorem spl_ne (f : List UInt8) : ∀ (s acc : List UInt8) (k : Nat), ∃ a r, spl f acc k s = a :: r
  | [], acc, k => ⟨acc, [], by cases k <;> simp [spl]⟩
  | c :: s, acc, 0 => by
    unfold spl
    split
    · exact ⟨acc, _, rfl⟩
    · exact spl_ne f s _ _
  | _ :: s, acc, k + 1 => by unfold spl; exact spl_ne f s _ _

theorem joinL_cons (t a : List UInt8) {l : List (List UInt8)} (h : ∃ b r, l = b :: r) : joinL t (a :: l) = a ++ (t ++ joinL t l) := by
  obtain ⟨b, r, rfl⟩ := h
  rfl

theorem joinL_spl (f t : List UInt8) : ∀ (s acc : List UInt8) (k : Nat), joinL t (spl f acc k s) = acc ++ rep f t k s
  | [], acc, k => by cases k <;> simp [spl, rep, joinL]
  | c :: s, acc, 0 => by
    unfold spl rep
    split
    · rw [joinL_cons t acc (spl_ne f s _ _), joinL_spl f t s]; simp
    · rw [joinL_spl f t s]; simp
  | _ :: s, acc, k + 1 => by unfold spl rep; exact joinL_spl f t s acc k

theorem rep_skip (f t : List UInt8) : ∀ (k : Nat) (s : List UInt8), rep f t k s = rep f t 0 (s.drop k)
  | 0, s => by simp
  | k + 1, [] => by simp [rep]
  | k + 1, c :: s => by rw [List.drop_succ_cons, ← rep_skip f t k s]; rfl

theorem spl_skip (f acc : List UInt8) : ∀ (k : Nat) (s : List UInt8), spl f acc k s = spl f acc 0 (s.drop k)
  | 0, s => by simp
  | k + 1, [] => by simp [spl]
  | k + 1, c :: s => by rw [List.drop_succ_cons, ← spl_skip f acc k s]; rfl

theorem prefix_iff (f s : List UInt8) : f.isPrefixOf s = true ↔ s.take f.length = f := by
  rw [List.isPrefixOf_iff_prefix]
  constructor
  · intro h; exact (List.prefix_iff_eq_take.1 h).symm
  · intro h; rw [← h]; exact List.take_prefix _ _

section
variable (f t s : List UInt8) (i : Nat)

theorem rep_hit (hf : 1 ≤ f.length) (h : (s.drop i).take f.length = f) : rep f t 0 (s.drop i) = t ++ rep f t 0 (s.drop (i + f.length)) := by
  cases e : s.drop i with
  | nil => rw [e] at h; simp at h; rw [h] at hf; simp at hf
  | cons c r =>
    rw [e] at h
    have hp : f.isPrefixOf (c :: r) = true := (prefix_iff _ _).2 h
    have hd : s.drop (i + f.length) = r.drop (f.length - 1) := by
      rw [← List.drop_drop, e]
      obtain ⟨n, hn⟩ : ∃ n, f.length = n + 1 := ⟨f.length - 1, by omega⟩
      rw [hn]; simp
    rw [rep, if_pos hp, rep_skip, hd]

theorem rep_miss (hi : i < s.length) (h : (s.drop i).take f.length ≠ f) : rep f t 0 (s.drop i) = s[i] :: rep f t 0 (s.drop (i + 1)) := by
  rw [List.drop_eq_getElem_cons hi] at h ⊢
  have hp : ¬ f.isPrefixOf (s[i] :: s.drop (i + 1)) = true := fun h' => h ((prefix_iff _ _).1 h')
  rw [rep, if_neg hp]

theorem spl_hit (acc : List UInt8) (hf : 1 ≤ f.length) (h : (s.drop i).take f.length = f) : spl f acc 0 (s.drop i) = acc :: spl f [] 0 (s.drop (i + f.length)) := by
  cases e : s.drop i with
  | nil => rw [e] at h; simp at h; rw [h] at hf; simp at hf
  | cons c r =>
    rw [e] at h
    have hp : f.isPrefixOf (c :: r) = true := (prefix_iff _ _).2 h
    have hd : s.drop (i + f.length) = r.drop (f.length - 1) := by
      rw [← List.drop_drop, e]
      obtain ⟨n, hn⟩ : ∃ n, f.length = n + 1 := ⟨f.length - 1, by omega⟩
      rw [hn]; simp
    rw [spl, if_pos hp, spl_skip, hd]

theorem spl_miss (acc : List UInt8) (hi : i < s.length) (h : (s.drop i).take f.length ≠ f) : spl f acc 0 (s.drop i) = spl f (acc ++ [s[i]]) 0 (s.drop (i + 1)) := by
  rw [List.drop_eq_getElem_cons hi] at h ⊢
  have hp : ¬ f.isPrefixOf (s[i] :: s.drop (i + 1)) = true := fun h' => h ((prefix_iff _ _).1 h')
  rw [spl, if_neg hp]

end

theorem rep_length (f t : List UInt8) : ∀ (s : List UInt8) (k : Nat), (rep f t k s).length ≤ s.length * (t.length + 1)
  | [], k => by cases k <;> simp [rep]
  | c :: s, 0 => by
    unfold rep
    have h1 := rep_length f t s 0
    have h2 := rep_length f t s (f.length - 1)
    have e : (c :: s).length * (t.length + 1) = s.length * (t.length + 1) + (t.length + 1) := by rw [List.length_cons, Nat.add_mul, Nat.one_mul]
    rw [e]
    split
    · rw [List.length_append]; omega
    · rw [List.length_cons]; omega
  | c :: s, k + 1 => by
    unfold rep
    have h1 := rep_length f t s k
    have e : (c :: s).length * (t.length + 1) = s.length * (t.length + 1) + (t.length + 1) := by rw [List.length_cons, Nat.add_mul, Nat.one_mul]
    rw [e]; omega

/-- The mark does not stand in s. -/
def Free (m s : List UInt8) : Prop := ∀ i, i < s.length → (s.drop i).take m.length ≠ m

theorem Free.tail {m : List UInt8} {c : UInt8} {s : List UInt8} (h : Free m (c :: s)) : Free m s := fun i hi => by
  have := h (i + 1) (by simp; omega)
  simpa using this

theorem rep_back (f : List UInt8) (a b : UInt8) (hab : a ≠ b) (hf : f ≠ []) : ∀ (s : List UInt8) (k : Nat), Free [a, b] s → rep [a, b] f 0 (rep f [a, b] k s) = s.drop k
  | [], k, _ => by cases k <;> simp [rep]
  | c :: s, 0, hfree => by
    rw [rep]
    split
    · rename_i hp
      have hl : 1 ≤ f.length := by cases f with | nil => exact absurd rfl hf | cons => simp
      have ih := rep_back f a b hab hf s (f.length - 1) hfree.tail
      have hp' := (prefix_iff _ _).1 hp
      show rep [a, b] f 0 (a :: b :: rep f [a, b] (f.length - 1) s) = _
      rw [rep, if_pos (by simp [List.isPrefixOf])]
      show f ++ rep [a, b] f 0 (rep f [a, b] (f.length - 1) s) = _
      rw [ih, List.drop_zero]
      have e : s.drop (f.length - 1) = (c :: s).drop f.length := by
        obtain ⟨n, hn⟩ : ∃ n, f.length = n + 1 := ⟨f.length - 1, by omega⟩
        rw [hn]; simp
      rw [e]
      conv => lhs; rw [← hp']
      rw [List.length_take]
      have : min f.length (c :: s).length = f.length := by
        have := congrArg List.length hp'; rw [List.length_take] at this; exact this
      rw [this]; exact List.take_append_drop _ _
    · have ih := rep_back f a b hab hf s 0 hfree.tail
      rw [rep, if_neg, ih]; rfl
      intro hp2
      have hp2' : ([a, b] : List UInt8).isPrefixOf (c :: rep f [a, b] 0 s) = true := hp2
      cases s with
      | nil => simp [rep, List.isPrefixOf] at hp2'
      | cons d r =>
        rw [rep] at hp2'
        split at hp2'
        · simp [List.isPrefixOf] at hp2'; exact hab hp2'.2.symm
        · simp [List.isPrefixOf] at hp2'
          have := hfree 0 (by simp)
          apply this
          simp [hp2'.1, hp2'.2]
  | c :: s, k + 1, hfree => by
    rw [rep]; simpa using rep_back f a b hab hf s k hfree.tail

theorem joinL_snoc (t a : List UInt8) : ∀ (l : List (List UInt8)), l ≠ [] → joinL t (l ++ [a]) = joinL t l ++ (t ++ a)
  | [], h => absurd rfl h
  | [b], _ => rfl
  | b :: c :: r, _ => by
    have ih := joinL_snoc t a (c :: r) (by simp)
    show b ++ (t ++ joinL t (c :: r ++ [a])) = (b ++ (t ++ joinL t (c :: r))) ++ (t ++ a)
    rw [ih]; simp

/-- What is joined of the first k. -/
def joinTo (t : List UInt8) (l : List (List UInt8)) (k : Nat) : List UInt8 := joinL t (l.take k)

theorem joinTo_zero (t : List UInt8) (l : List (List UInt8)) : joinTo t l 0 = [] := rfl
theorem joinTo_one (t : List UInt8) (l : List (List UInt8)) (h : 0 < l.length) : joinTo t l 1 = l[0] := by
  unfold joinTo
  cases l with
  | nil => simp at h
  | cons a r => rfl
theorem joinTo_succ (t : List UInt8) (l : List (List UInt8)) (k : Nat) (h0 : 1 ≤ k) (h : k < l.length) : joinTo t l (k + 1) = joinTo t l k ++ t ++ l[k] := by
  unfold joinTo
  rw [List.take_succ_eq_append_getElem h, joinL_snoc, List.append_assoc]
  intro e
  have h2 := congrArg List.length e
  rw [List.length_take, List.length_nil] at h2
  omega
theorem joinTo_all (t : List UInt8) (l : List (List UInt8)) : joinTo t l l.length = joinL t l := by
  unfold joinTo; rw [List.take_length]

theorem joinTo_le (t : List UInt8) (l : List (List UInt8)) (d : Nat) : ∀ k, k + d = l.length → (joinTo t l k).length ≤ (joinL t l).length := by
  induction d with
  | zero => intro k hk; rw [← joinTo_all, ← hk]; exact Nat.le_refl _
  | succ d ih =>
    intro k hk
    refine Nat.le_trans ?_ (ih (k + 1) (by omega))
    by_cases h0 : k = 0
    · subst h0; rw [joinTo_zero]; simp
    · rw [joinTo_succ t l k (by omega) (by omega)]; simp

end Go.Proofs.YtinmmchjfifcgaaGreatDoor
