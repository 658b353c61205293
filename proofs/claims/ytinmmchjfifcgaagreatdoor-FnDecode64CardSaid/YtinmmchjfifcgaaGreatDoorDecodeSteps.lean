/- The state of Encoding.Decode and its steps: one group by decodeQuantum, one group by BEPutUint32, two by BEPutUint64, and the short rest. -/
import Derived.Test.YtinmmchjfifcgaaGreatDoorDecodeParts
namespace Go.Proofs.YtinmmchjfifcgaaGreatDoor
open Go.RowKit
set_option maxRecDepth 100000

/-- The decoder's state: k letters are read, O is written. -/
structure DSt (S X : List UInt8) (db : Nat) (w : World) (O X' : List UInt8) (k : Nat) (wr : World) : Prop where
  kl : k ≤ S.length
  ol : O.length ≤ k / 4 * 3
  k4 : k % 4 = 0
  xl : X'.length = X.length
  tk : X'.take O.length = O
  inv : (dec (S.drop k)).map (O ++ ·) = dec S
  dst : Dst db X' wr
  oth : Oth w.heap.size db w wr

theorem kq_le {a b c d : UInt8} {r : List UInt8} {kk : Nat} (h : kq a b c d r = some kk) : kk ≤ 3 := by
  unfold kq at h
  split at h
  · cases h
  · split at h
    · split at h
      · cases h; omega
      · cases h
    · split at h
      · split at h
        · cases h; omega
        · cases h
      · cases h; omega
theorem grp_len (v k : Nat) (h : k ≤ 3) : ((grpB v).take k).length = k := by simp [grpB]; omega

/-- One group further. -/
theorem DSt.group {S X : List UInt8} {db : Nat} {w : World} {O X' : List UInt8} {k : Nat} {wr : World} (h : DSt S X db w O X' k wr) {a b c d : UInt8} {r : List UInt8} (hd : S.drop k = a :: b :: c :: d :: r) {kk : Nat} (hk : kq a b c d r = some kk)
    {X2 : List UInt8} {w' : World} (hl : X2.length = X'.length) (ht : X2.take (O.length + kk) = X'.take O.length ++ (grpB (num4 a b c d)).take kk) (hD : Dst db X2 w') (hO : Oth wr.heap.size db wr w') :
    DSt S X db w (O ++ (grpB (num4 a b c d)).take kk) X2 (k + 4) w' where
  kl := by
    have := congrArg List.length hd
    rw [List.length_drop] at this
    simp only [List.length_cons] at this; omega
  ol := by
    rw [List.length_append, grp_len _ _ (kq_le hk)]
    have := h.ol; have := kq_le hk; omega
  k4 := by have := h.k4; omega
  xl := hl.trans h.xl
  tk := by rw [List.length_append, grp_len _ _ (kq_le hk), ht, h.tk]
  inv := by
    have e : S.drop (k + 4) = r := by rw [← List.drop_drop, hd]; rfl
    rw [← h.inv, hd, dec_some hk, e]
    cases dec r <;> simp
  dst := hD
  oth := h.oth.trans hO h.oth.size

/-- What one call of decodeQuantum leaves in the state. -/
def StepPost (S X : List UInt8) (db : Nat) (w : World) (k n : Nat) (e : Ending) (w' : World) : Prop :=
  (∃ (O2 X2 : List UInt8) (kk : Nat), e = .returned (.tuple #[.int .i64 ((k + 4 : Nat) : Int), .int .i64 (kk : Int), .nilIface]) ∧ O2.length = n + kk ∧ DSt S X db w O2 X2 (k + 4) w') ∨
  (∃ (s' : Int) (j : Nat) (v : Value) (X2 : List UInt8), n + j ≤ X.length ∧ e = .returned (.tuple #[.int .i64 s', .int .i64 (j : Int), .iface 180 v]) ∧ dec S = none ∧ Dst db X2 w' ∧ X2.length = X.length ∧ Oth w.heap.size db w w')

theorem DSt.stop {S X : List UInt8} {db : Nat} {w : World} {O X' : List UInt8} {k : Nat} {wr : World} (h : DSt S X db w O X' k wr) (hn : dec (S.drop k) = none) : dec S = none := by rw [← h.inv, hn]; rfl

theorem four_of {S : List UInt8} {k : Nat} (h : k + 4 ≤ S.length) : ∃ a b c d r, S.drop k = a :: b :: c :: d :: r := by
  have hl : (S.drop k).length = S.length - k := List.length_drop
  rcases hS : S.drop k with _ | ⟨a, _ | ⟨b, _ | ⟨c, _ | ⟨d, r⟩⟩⟩⟩
  · rw [hS] at hl; simp at hl; omega
  · rw [hS] at hl; simp at hl; omega
  · rw [hS] at hl; simp at hl; omega
  · rw [hS] at hl; simp at hl; omega
  · exact ⟨a, b, c, d, r, rfl⟩

/-- What holds of the source and of the encoding throughout. -/
structure DIn (eb sb db : Nat) (S X : List UInt8) (w : World) : Prop where
  enc : EncIs alphaS.data.toList 61 eb w
  elt : eb < w.heap.size
  ene : eb ≠ db
  slt : sb < w.heap.size
  sne : sb ≠ db
  dlt : db < w.heap.size
  src : ∀ j (h : j < S.length), w.cell? ⟨sb, j, none⟩ = some (.int .u8 (S[j].toNat : Int))
  nl : ∀ j (h : j < S.length), ((S[j].toNat : Int) == 10) = false ∧ ((S[j].toNat : Int) == 13) = false
  len : S.length ≤ 1000
  xl : X.length = S.length / 4 * 3
theorem DIn.src_at {eb sb db : Nat} {S X : List UInt8} {w wr : World} (h : DIn eb sb db S X w) (hO : Oth w.heap.size db w wr) : ∀ j (h : j < S.length), wr.cell? ⟨sb, j, none⟩ = some (.int .u8 (S[j].toNat : Int)) :=
  fun j hj => (hO.cell (p := ⟨sb, j, none⟩) h.slt h.sne).trans (h.src j hj)
theorem DIn.enc_at {eb sb db : Nat} {S X : List UInt8} {w wr : World} (h : DIn eb sb db S X w) (hO : Oth w.heap.size db w wr) : EncIs alphaS.data.toList 61 eb wr := h.enc.oth hO h.elt h.ene

theorem quantum_step {eb sb db cS : Nat} {S X : List UInt8} {w wr : World} {O X' : List UInt8} {k : Nat} (hI : DIn eb sb db S X w) (h : DSt S X db w O X' k wr) (hk : k + 4 ≤ S.length) (m mc : Nat) (hm : m = X.length - O.length) :
    Calls Tryz.prog 116 #[.pointer (some ⟨eb, 0, none⟩), .slice (some ⟨db, O.length, none⟩) m mc, .slice (some ⟨sb, 0, none⟩) S.length cS, .int .i64 (k : Int)] wr (StepPost S X db w k O.length) := by
  obtain ⟨a, b, c, d, r, hd⟩ := four_of hk
  have hx := hI.xl
  have ho := h.ol
  have hk4 := h.k4
  refine (quantum_any eb sb db O.length m mc cS k S X' a b c d r wr (hI.enc_at h.oth) (Nat.lt_of_lt_of_le hI.elt h.oth.size) hI.ene hI.sne (Nat.lt_of_lt_of_le hI.slt h.oth.size) h.dst (by omega) (by rw [h.xl]; omega) (qin_of hd (hI.src_at h.oth) hI.nl) hI.len).mono ?_
  rintro e w' ⟨X2, hD, hl, hO, ⟨kk, hkq, rfl, ht⟩ | ⟨s', n, v, hkq, hn, rfl⟩⟩
  · exact .inl ⟨_, X2, kk, rfl, by rw [List.length_append, grp_len _ _ (kq_le hkq)], h.group hd hkq hl ht hD hO⟩
  · exact .inr ⟨s', n, v, X2, by omega, rfl, h.stop (by rw [hd]; exact dec_none _ _ _ _ _ hkq), hD, hl.trans h.xl, h.oth.trans hO h.oth.size⟩

theorem Dst.below {db : Nat} {X : List UInt8} {w w' : World} (h : Dst db X w) (hB : Below w.heap.size w w') : Dst db X w' := by
  have hl := h.lt
  have h := h.row
  refine ⟨?_⟩
  rw [hB.block db hl]; exact h
theorem Oth.belowR {B db : Nat} {a b c : World} (h : Oth B db a b) (k : Below b.heap.size b c) (hB : B ≤ b.heap.size) : Oth B db a c :=
  ⟨h.bel.trans ⟨k.os, k.tape, k.output, k.size, fun i hi => absurd hi (Nat.not_lt_zero _)⟩, fun i h1 h2 => (k.block i (by omega)).trans (h.oth i h1 h2)⟩

theorem short_step {eb sb db cS : Nat} {S X : List UInt8} {w wr : World} {O X' : List UInt8} {k : Nat} (hI : DIn eb sb db S X w) (h : DSt S X db w O X' k wr) (hk : k < S.length) (hk2 : ¬ k + 4 ≤ S.length) (dv : Value) :
    Calls Tryz.prog 116 #[.pointer (some ⟨eb, 0, none⟩), dv, .slice (some ⟨sb, 0, none⟩) S.length cS, .int .i64 (k : Int)] wr (StepPost S X db w k O.length) := by
  refine (quantumShort_any eb sb cS k (S.length - k) S dv wr (hI.enc_at h.oth) (Nat.lt_of_lt_of_le hI.elt h.oth.size) (Nat.lt_of_lt_of_le hI.slt h.oth.size) (by omega) (by omega) (by omega) (hI.src_at h.oth) hI.nl hI.len).mono ?_
  rintro e w' ⟨s', v, rfl, hB⟩
  have hx := hI.xl
  have ho := h.ol
  refine .inr ⟨s', 0, v, X', by omega, rfl, h.stop ?_, h.dst.below hB, h.xl, h.oth.belowR hB h.oth.size⟩
  have hl : (S.drop k).length = S.length - k := List.length_drop
  rcases hS : S.drop k with _ | ⟨a, _ | ⟨b, _ | ⟨c, _ | ⟨d, r⟩⟩⟩⟩
  · rw [hS] at hl; simp at hl; omega
  · rfl
  · rfl
  · rfl
  · rw [hS] at hl; simp at hl; omega

theorem DSt.drewN {S X : List UInt8} {db : Nat} {w : World} {O X' : List UInt8} {k : Nat} {wr : World} (h : DSt S X db w O X' k wr) (n : Nat) : DSt S X db w O X' k (wr.drewN n) :=
  ⟨h.kl, h.ol, h.k4, h.xl, h.tk, h.inv, h.dst.drewN n, h.oth.drewN n⟩

theorem eight_of {S : List UInt8} {k : Nat} (h : k + 8 ≤ S.length) : ∃ a b c d a' b' c' d' r, S.drop k = a :: b :: c :: d :: a' :: b' :: c' :: d' :: r := by
  obtain ⟨a, b, c, d, r, hd⟩ := four_of (S := S) (k := k) (by omega)
  obtain ⟨a', b', c', d', r', hd'⟩ := four_of (S := S) (k := k + 4) (by omega)
  refine ⟨a, b, c, d, a', b', c', d', r', ?_⟩
  rw [hd]
  have e : S.drop (k + 4) = r := by rw [← List.drop_drop, hd]; rfl
  rw [← e, hd']

theorem good4 {a b c d : UInt8} (h0 : ¬ dmV a = 255) (h1 : ¬ dmV b = 255) (h2 : ¬ dmV c = 255) (h3 : ¬ dmV d = 255) : GoodTo a b c d 4 := ⟨fun _ => h0, fun _ => h1, fun _ => h2, fun _ => h3⟩
theorem dm_small {c : UInt8} (h : ¬ dmV c = 255) : dmV c < 64 := by rcases dmV_lt c with e | e <;> omega
theorem dm_256 (c : UInt8) : dmV c < 256 := by rcases dmV_lt c with e | e <;> omega

/-- The read letter and its place, in the state. -/
theorem DSt.letter {eb sb db : Nat} {S X : List UInt8} {w wr : World} {O X' : List UInt8} {k : Nat} (hI : DIn eb sb db S X w) (h : DSt S X db w O X' k wr) {l : List UInt8} (hd : S.drop k = l) {j : Nat} {x : UInt8} (hx : l[j]? = some x) :
    wr.cell? ⟨sb, k + j, none⟩ = some (.int .u8 (x.toNat : Int)) ∧ wr.cell? ⟨eb, 64 + x.toNat, none⟩ = some (.int .u8 ((dmV x : Nat) : Int)) ∧ (x.toNat : Int) < 256 :=
  ⟨src_cell (hI.src_at h.oth) ((drop_at hd j).trans hx), (hI.enc_at h.oth).dm x, by have := x.toNat_lt; omega⟩

/-- The end: all letters are read. -/
theorem DSt.done {S X : List UInt8} {db : Nat} {w : World} {O X' : List UInt8} {k : Nat} {wr : World} (h : DSt S X db w O X' k wr) (hk : ¬ k < S.length) (hx : X.length = S.length / 4 * 3) : DecodePost S db X.length w (.returned (.tuple #[.int .i64 (O.length : Int), .nilIface])) wr := by
  have hkl := h.kl
  have ho := h.ol
  obtain rfl : k = S.length := by omega
  refine ⟨X', h.dst, h.xl, h.oth, .inl ⟨O, ?_, by omega, rfl, h.tk⟩⟩
  rw [← h.inv, List.drop_length]
  simp [dec]

theorem take_set_one (X : List UInt8) (o : Nat) (x : UInt8) (h : o < X.length) : (X.set o x).take (o + 1) = X.take o ++ [x] := by
  rw [List.take_succ_eq_append_getElem (by simpa using h), List.take_set_of_le (Nat.le_refl _)]
  simp

theorem put32_step {db : Nat} {S X : List UInt8} {w wr : World} {O X' : List UInt8} {k : Nat} (h : DSt S X db w O X' k wr) {a b c d : UInt8} {r : List UInt8} (hd : S.drop k = a :: b :: c :: d :: r) (hg : GoodTo a b c d 4) (m mc : Nat) (hm : m = X.length - O.length) (hm4 : 4 ≤ m) :
    Calls Tryz.prog 118 #[.slice (some ⟨db, O.length, none⟩) m mc, .int .u32 ((dmV a : Int) * 67108864 + (dmV b : Int) * 1048576 + (dmV c : Int) * 16384 + (dmV d : Int) * 256)] wr
      (fun e w' => e = .returned (.tuple #[]) ∧ ∃ O2 X2 : List UInt8, O2.length = O.length + 3 ∧ DSt S X db w O2 X2 (k + 4) w') := by
  have hx := h.xl
  have la := dz_lt a
  have lb := dz_lt b
  have lc := dz_lt c
  have ld := dz_lt d
  have ha := dz_good (hg.g0 (by omega))
  have hb := dz_good (hg.g1 (by omega))
  have hc := dz_good (hg.g2 (by omega))
  have hdd := dz_good (hg.g3 (by omega))
  obtain ⟨v, hv⟩ : ∃ v, v = num4 a b c d := ⟨_, rfl⟩
  have hV : ((dmV a : Int) * 67108864 + (dmV b : Int) * 1048576 + (dmV c : Int) * 16384 + (dmV d : Int) * 256) = (v : Int) * 256 := by rw [hv, ← ha, ← hb, ← hc, ← hdd]; unfold num4; omega
  have hvl : v < 16777216 := by rw [hv]; unfold num4; omega
  rw [hV]
  refine (put32_any db O.length m mc X' ((v : Int) * 256) (UInt8.ofNat (v / 65536)) (UInt8.ofNat (v / 256)) (UInt8.ofNat v) 0 wr h.dst hm4 (by omega) (by rw [IntKind.wrap_u8, UInt8.toNat_ofNat']; omega) (by rw [IntKind.wrap_u8, UInt8.toNat_ofNat']; omega) (by rw [IntKind.wrap_u8, UInt8.toNat_ofNat']; omega) (by rw [IntKind.wrap_u8]; show _ = (0 : Int); omega)).mono ?_
  rintro e w' ⟨rfl, hD, hO⟩
  refine ⟨rfl, _, _, ?_, h.group hd (kq_three hg) ?_ ?_ hD hO⟩
  · rw [List.length_append, grp_len _ _ (by omega)]
  · simp only [List.length_set]
  · rw [List.take_set_of_le (by omega), take_set_one _ (O.length + 2) _ (by simp only [List.length_set]; omega), take_set_one _ (O.length + 1) _ (by simp only [List.length_set]; omega), take_set_one _ O.length _ (by omega), ← hv]
    simp [grpB]

theorem put64_step {db : Nat} {S X : List UInt8} {w wr : World} {O X' : List UInt8} {k : Nat} (h : DSt S X db w O X' k wr) {a b c d a' b' c' d' : UInt8} {r : List UInt8} (hd : S.drop k = a :: b :: c :: d :: a' :: b' :: c' :: d' :: r) (hg : GoodTo a b c d 4) (hg' : GoodTo a' b' c' d' 4) (m mc : Nat) (hm : m = X.length - O.length) (hm8 : 8 ≤ m) :
    Calls Tryz.prog 115 #[.slice (some ⟨db, O.length, none⟩) m mc, .int .u64 ((dmV a : Int) * 288230376151711744 + (dmV b : Int) * 4503599627370496 + (dmV c : Int) * 70368744177664 + (dmV d : Int) * 1099511627776 + (dmV a' : Int) * 17179869184 + (dmV b' : Int) * 268435456 + (dmV c' : Int) * 4194304 + (dmV d' : Int) * 65536)] wr
      (fun e w' => e = .returned (.tuple #[]) ∧ ∃ O2 X2 : List UInt8, O2.length = O.length + 6 ∧ DSt S X db w O2 X2 (k + 8) w') := by
  have hx := h.xl
  have la := dz_lt a
  have lb := dz_lt b
  have lc := dz_lt c
  have ld := dz_lt d
  have la' := dz_lt a'
  have lb' := dz_lt b'
  have lc' := dz_lt c'
  have ld' := dz_lt d'
  have ha := dz_good (hg.g0 (by omega))
  have hb := dz_good (hg.g1 (by omega))
  have hc := dz_good (hg.g2 (by omega))
  have hdd := dz_good (hg.g3 (by omega))
  have ha' := dz_good (hg'.g0 (by omega))
  have hb' := dz_good (hg'.g1 (by omega))
  have hc' := dz_good (hg'.g2 (by omega))
  have hdd' := dz_good (hg'.g3 (by omega))
  obtain ⟨v, hv⟩ : ∃ v, v = num4 a b c d := ⟨_, rfl⟩
  obtain ⟨u, hu⟩ : ∃ u, u = num4 a' b' c' d' := ⟨_, rfl⟩
  have hV : ((dmV a : Int) * 288230376151711744 + (dmV b : Int) * 4503599627370496 + (dmV c : Int) * 70368744177664 + (dmV d : Int) * 1099511627776 + (dmV a' : Int) * 17179869184 + (dmV b' : Int) * 268435456 + (dmV c' : Int) * 4194304 + (dmV d' : Int) * 65536) = (v : Int) * 1099511627776 + (u : Int) * 65536 := by
    rw [hv, hu, ← ha, ← hb, ← hc, ← hdd, ← ha', ← hb', ← hc', ← hdd']; unfold num4; omega
  have hvl : v < 16777216 := by rw [hv]; unfold num4; omega
  have hul : u < 16777216 := by rw [hu]; unfold num4; omega
  rw [hV]
  refine (put64_any db O.length m mc X' ((v : Int) * 1099511627776 + (u : Int) * 65536) (UInt8.ofNat (v / 65536)) (UInt8.ofNat (v / 256)) (UInt8.ofNat v) (UInt8.ofNat (u / 65536)) (UInt8.ofNat (u / 256)) (UInt8.ofNat u) 0 0 wr h.dst hm8 (by omega)
    (by rw [IntKind.wrap_u8, UInt8.toNat_ofNat']; omega) (by rw [IntKind.wrap_u8, UInt8.toNat_ofNat']; omega) (by rw [IntKind.wrap_u8, UInt8.toNat_ofNat']; omega)
    (by rw [IntKind.wrap_u8, UInt8.toNat_ofNat']; omega) (by rw [IntKind.wrap_u8, UInt8.toNat_ofNat']; omega) (by rw [IntKind.wrap_u8, UInt8.toNat_ofNat']; omega)
    (by rw [IntKind.wrap_u8]; show _ = (0 : Int); omega) (by rw [IntKind.wrap_u8]; show _ = (0 : Int); omega)).mono ?_
  rintro e w' ⟨rfl, hD, hO⟩
  refine ⟨rfl, ?_⟩
  obtain ⟨Y, hY⟩ : ∃ Y, Y = (((X'.set O.length (UInt8.ofNat (v / 65536))).set (O.length + 1) (UInt8.ofNat (v / 256))).set (O.length + 2) (UInt8.ofNat v)) := ⟨_, rfl⟩
  have hYl : Y.length = X'.length := by rw [hY]; simp only [List.length_set]
  have hY3 : Y.take (O.length + 3) = X'.take O.length ++ (grpB (num4 a b c d)).take 3 := by
    rw [hY, take_set_one _ (O.length + 2) _ (by simp only [List.length_set]; omega), take_set_one _ (O.length + 1) _ (by simp only [List.length_set]; omega), take_set_one _ O.length _ (by omega), ← hv]
    simp [grpB]
  rw [← hY] at hD
  have h1 := h.group hd (kq_three hg) (X2 := ((((Y.set (O.length + 3) (UInt8.ofNat (u / 65536))).set (O.length + 4) (UInt8.ofNat (u / 256))).set (O.length + 5) (UInt8.ofNat u)).set (O.length + 6) 0).set (O.length + 7) 0) (by simp only [List.length_set]; exact hYl)
    (by rw [List.take_set_of_le (by omega), List.take_set_of_le (by omega), List.take_set_of_le (by omega), List.take_set_of_le (by omega), List.take_set_of_le (by omega), hY3]) hD hO
  have hl3 : (O ++ (grpB (num4 a b c d)).take 3).length = O.length + 3 := by rw [List.length_append, grp_len _ _ (by omega)]
  have hd2 : S.drop (k + 4) = a' :: b' :: c' :: d' :: r := by rw [← List.drop_drop, hd]; rfl
  have h2 := h1.group hd2 (kq_three hg') rfl (by
    rw [hl3, List.take_set_of_le (by omega), List.take_set_of_le (by omega), take_set_one _ (O.length + 5) _ (by simp only [List.length_set]; omega), take_set_one _ (O.length + 4) _ (by simp only [List.length_set]; omega), take_set_one _ (O.length + 3) _ (by omega),
      List.take_set_of_le (by omega), List.take_set_of_le (by omega), List.take_set_of_le (by omega), List.take_set_of_le (by omega), List.take_set_of_le (by omega), ← hu]
    simp [grpB]) hD (Oth.refl _ _ _)
  exact ⟨_, _, by rw [List.length_append, hl3, grp_len _ _ (by omega)], h2⟩

end Go.Proofs.YtinmmchjfifcgaaGreatDoor
