/- (*base64.Encoding).Encode writes what the plain function says: an Encoding that lies whole, from 1 to 1000000 bytes, a destination of just the encoded length, in a block of its own. -/
import Derived.Test.YtinmmchjfifcgaaGreatDoorAlphabet
import Derived.Test.YtinmmchjfifcgaaGreatDoorPlainB64
import Derived.Laws.BitsLemmas
import Derived.Laws.Bits64
import Derived.Deep.MidRow
namespace Go.Proofs.YtinmmchjfifcgaaGreatDoor
open Go.RowKit
set_option maxRecDepth 100000
theorem info104 : (Tryz.prog.info? 104).map (·.size) = some 64 := by kernel_rfl

theorem wraps_u64 (n : Int) (h₀ : 0 ≤ n) (h₁ : n < 2 ^ 24) : IntKind.u64.wrap n = n := by rw [IntKind.wrap_u64]; omega
theorem u64_and63 (n : Nat) (h : n < 16777216) : bits .and .u64 (n : Int) 63 = ((n % 64 : Nat) : Int) := by
  have := bits_mask .u64 24 (by decide) wraps_u64 6 (by decide) (n : Int) (by omega) (by omega)
  simpa using this
theorem u64_or2 (a b : Nat) (ha : a < 256) (hb : b < 256) : bits .or .u64 ((a : Int) * 65536) ((b : Int) * 256) = ((a * 65536 + b * 256 : Nat) : Int) := by
  rw [bits_join .u64 24 (by decide) wraps_u64 16 _ _ (by omega) (by omega) (by omega) (by omega) (by omega) (by omega)]; omega
theorem u64_or3 (a b c : Nat) (ha : a < 256) (hb : b < 256) (hc : c < 256) : bits .or .u64 (bits .or .u64 ((a : Int) * 65536) ((b : Int) * 256)) (c : Int) = ((a * 65536 + b * 256 + c : Nat) : Int) := by
  rw [u64_or2 a b ha hb, bits_join .u64 24 (by decide) wraps_u64 8 _ _ (by omega) (by omega) (by omega) (by omega) (by omega) (by omega)]; omega

/-- An Encoding lies whole in block eb. -/
def EncIs (A : List UInt8) (pv : Int) (eb : Nat) (w : World) : Prop := w.heap[eb]? = some (.cells (encL A 64 pv).toArray 107 (0, 0))
theorem EncIs.sign {A : List UInt8} {pv : Int} {eb : Nat} {w : World} (h : EncIs A pv eb w) (hA : A.length = 64) (n : Nat) : w.cell? ⟨eb, n % 64, none⟩ = some (.int .u8 ((sgn A n).toNat : Int)) := by
  have hn : n % 64 < A.length := by omega
  unfold EncIs at h
  unfold World.cell?
  simp only [h]
  simp [encL, Lib.byteCells, sgn, List.getD, List.getElem?_append, hA, List.getElem?_eq_getElem hn]
  omega
theorem EncIs.pad {A : List UInt8} {pv : Int} {eb : Nat} {w : World} (h : EncIs A pv eb w) (hA : A.length = 64) : w.cell? ⟨eb, 320, none⟩ = some (.int .i32 pv) := by
  unfold EncIs at h
  unfold World.cell?
  simp only [h]
  simp [encL, Lib.byteCells_length, hA, dmR_length]
theorem EncIs.range {A : List UInt8} {pv : Int} {eb : Nat} {w : World} (h : EncIs A pv eb w) : w.rangeAt eb 0 (Lib.byteCells A) := by
  intro j v hj
  unfold EncIs at h
  unfold World.cell?
  simp only [h]
  have hl : j < (Lib.byteCells A).length := (List.getElem?_eq_some_iff.1 hj).1
  simp [encL, List.getElem?_append, hl]
  rwa [List.getElem?_eq_getElem hl, Option.some.injEq] at hj
theorem EncIs.below {A : List UInt8} {pv : Int} {eb B : Nat} {w w' : World} (h : EncIs A pv eb w) (hB : Below B w w') (he : eb < B) : EncIs A pv eb w' := by
  unfold EncIs; rw [hB.block eb he]; exact h

/-- The encoder's state: O is written, k bytes are read. -/
structure EncSt (A : List UInt8) (pad : Bool) (S : List UInt8) (db n : Nat) (w : World) (k : Nat) (O : List UInt8) (wr : World) : Prop where
  kl : k ≤ S.length
  bel : Below db w wr
  out : wr.heap[db]? = some (.cells (Lib.byteCells O ++ List.replicate (n - O.length) (u8c 0)).toArray 5 (0, 0))
  inv : O ++ encB A pad (S.drop k) = encB A pad S

theorem EncSt.rest {A : List UInt8} {pad : Bool} {S : List UInt8} {db n : Nat} {w wr : World} {k : Nat} {O : List UInt8} (h : EncSt A pad S db n w k O wr) (hn : n = (encB A pad S).length) : n = O.length + (encB A pad (S.drop k)).length := by
  rw [hn, ← h.inv, List.length_append]
theorem EncSt.cell {A : List UInt8} {pad : Bool} {S : List UInt8} {db n : Nat} {w wr : World} {k : Nat} {O : List UInt8} (h : EncSt A pad S db n w k O wr) (j : Nat) (hj : O.length + j < n) : wr.cell? ⟨db, O.length + j, none⟩ = some (.int .u8 0) := by
  unfold World.cell?
  simp only [h.out]
  have : j < n - O.length := by omega
  simp [Lib.byteCells_length, this, u8c]
theorem EncSt.free {A : List UInt8} {pad : Bool} {S : List UInt8} {db n : Nat} {w wr : World} {k : Nat} {O : List UInt8} (h : EncSt A pad S db n w k O wr) (j : Nat) : wr.frozen? ⟨db, j, none⟩ = false := by
  unfold World.frozen?
  simp [h.out]

/-- Four stores, where the row has room for four. -/
theorem row_set4 (O : List UInt8) (n : Nat) (x : List UInt8) :
    Lib.byteCells (O ++ x) ++ List.replicate (n - (O ++ x).length) (u8c 0) = Lib.byteCells O ++ (Lib.byteCells x ++ List.replicate (n - O.length - x.length) (u8c 0)) := by
  rw [Lib.byteCells_append, List.length_append, List.append_assoc, Nat.sub_sub]

theorem replicate_cons4 (n : Nat) (h : 4 ≤ n) (v : Value) : List.replicate n v = v :: v :: v :: v :: List.replicate (n - 4) v := by
  obtain ⟨m, rfl⟩ : ∃ m, n = m + 4 := ⟨n - 4, by omega⟩
  simp [List.replicate_succ]

theorem EncSt.step {A : List UInt8} {pad : Bool} {S : List UInt8} {db n : Nat} {w wr : World} {k : Nat} {O : List UInt8} (h : EncSt A pad S db n w k O wr) (hk : k + 3 ≤ S.length) (hn : n = (encB A pad S).length) (m : Nat) :
    EncSt A pad S db n w (k + 3) (O ++ [sgn A ((S[k].toNat * 65536 + S[k + 1].toNat * 256 + S[k + 2].toNat) / 262144), sgn A ((S[k].toNat * 65536 + S[k + 1].toNat * 256 + S[k + 2].toNat) / 4096), sgn A ((S[k].toNat * 65536 + S[k + 1].toNat * 256 + S[k + 2].toNat) / 64), sgn A (S[k].toNat * 65536 + S[k + 1].toNat * 256 + S[k + 2].toNat)])
      (((((wr.drewN m).setCell ⟨db, O.length, none⟩ (.int .u8 ((sgn A ((S[k].toNat * 65536 + S[k + 1].toNat * 256 + S[k + 2].toNat) / 262144)).toNat : Int))).setCell ⟨db, O.length + 1, none⟩ (.int .u8 ((sgn A ((S[k].toNat * 65536 + S[k + 1].toNat * 256 + S[k + 2].toNat) / 4096)).toNat : Int))).setCell ⟨db, O.length + 2, none⟩ (.int .u8 ((sgn A ((S[k].toNat * 65536 + S[k + 1].toNat * 256 + S[k + 2].toNat) / 64)).toNat : Int))).setCell ⟨db, O.length + 3, none⟩ (.int .u8 ((sgn A (S[k].toNat * 65536 + S[k + 1].toNat * 256 + S[k + 2].toNat)).toNat : Int))) := by
  have hst := encB_step A pad S k hk
  have hr := h.rest hn
  rw [hst, List.length_append] at hr
  have h4 : 4 ≤ n - O.length := by simp at hr; omega
  have h0 : (wr.drewN m).heap[db]? = some (.cells (Lib.byteCells O ++ List.replicate (n - O.length) (u8c 0)).toArray 5 (0, 0)) := h.out
  have hb : Below db w (wr.drewN m) := h.bel.trans ⟨rfl, rfl, rfl, Nat.le_refl _, fun _ _ => rfl⟩
  refine ⟨hk, (((hb.setCell (Nat.le_refl _) _).setCell (Nat.le_refl _) _).setCell (Nat.le_refl _) _).setCell (Nat.le_refl _) _, ?_, ?_⟩
  · rw [Lib.heap_setCell_same (Lib.heap_setCell_same (Lib.heap_setCell_same (Lib.heap_setCell_same h0 _) _) _) _]
    congr 2
    apply Array.ext'
    rw [row_set4 O n _, replicate_cons4 _ h4]
    simp [Lib.byteCells]
  · rw [List.append_assoc, ← hst]; exact h.inv

theorem below_drewN2 {B : Nat} {a w : World} (h : Below B a w) (n : Nat) : Below B a (w.drewN n) := h.trans ⟨rfl, rfl, rfl, Nat.le_refl _, fun _ _ => rfl⟩
theorem slice_eq {p : Option Addr} {a b : Nat} (h : a = b) : Value.slice p a a = .slice p b b := by rw [h]
theorem slice_eq2 {p : Option Addr} {a b c d : Nat} (h : a = b) (h2 : c = d) : Value.slice p a c = .slice p b d := by rw [h, h2]

theorem row2 (O : List UInt8) (n : Nat) (x0 x1 : UInt8) (hn : n - O.length = 2) :
    ((((Lib.byteCells O ++ List.replicate (n - O.length) (u8c 0)).toArray.setIfInBounds O.length (.int .u8 (x0.toNat : Int))).setIfInBounds (O.length + 1) (.int .u8 (x1.toNat : Int)))) = (Lib.byteCells (O ++ [x0, x1])).toArray := by
  rw [hn]; apply Array.ext'; simp [Lib.byteCells, List.replicate_succ]
theorem row3 (O : List UInt8) (n : Nat) (x0 x1 x2 : UInt8) (hn : n - O.length = 3) :
    (((((Lib.byteCells O ++ List.replicate (n - O.length) (u8c 0)).toArray.setIfInBounds O.length (.int .u8 (x0.toNat : Int))).setIfInBounds (O.length + 1) (.int .u8 (x1.toNat : Int)))).setIfInBounds (O.length + 2) (.int .u8 (x2.toNat : Int))) = (Lib.byteCells (O ++ [x0, x1, x2])).toArray := by
  rw [hn]; apply Array.ext'; simp [Lib.byteCells, List.replicate_succ]
theorem row4 (O : List UInt8) (n : Nat) (x0 x1 x2 x3 : UInt8) (hn : n - O.length = 4) :
    ((((((Lib.byteCells O ++ List.replicate (n - O.length) (u8c 0)).toArray.setIfInBounds O.length (.int .u8 (x0.toNat : Int))).setIfInBounds (O.length + 1) (.int .u8 (x1.toNat : Int)))).setIfInBounds (O.length + 2) (.int .u8 (x2.toNat : Int))).setIfInBounds (O.length + 3) (.int .u8 (x3.toNat : Int))) = (Lib.byteCells (O ++ [x0, x1, x2, x3])).toArray := by
  rw [hn]; apply Array.ext'; simp [Lib.byteCells, List.replicate_succ]

/-- A slice's length, of a slot's value. -/
def lenS : Value → Nat | .slice _ l _ => l | _ => 0

set_option maxHeartbeats 4000000 in
theorem encode_any (A : List UInt8) (hA : A.length = 64) (pad : Bool) (pv : Int) (hpv : (pad = true ∧ pv = 61) ∨ (pad = false ∧ pv = -1)) (S : List UInt8) (eb db sb n c : Nat) (w : World) (heb : eb < db) (hsb : sb < db)
    (hE : EncIs A pv eb w) (hS : ∀ j (h : j < S.length), w.cell? ⟨sb, j, none⟩ = some (.int .u8 (S[j].toNat : Int))) (hD : w.heap[db]? = some (.cells (List.replicate n (u8c 0)).toArray 5 (0, 0)))
    (hn : n = (encB A pad S).length) (hL1 : 1 ≤ S.length) (hL : S.length ≤ 1000000) (hLc : S.length ≤ c) :
    Calls Tryz.prog 88 #[.pointer (some ⟨eb, 0, none⟩), .slice (some ⟨db, 0, none⟩) n n, .slice (some ⟨sb, 0, none⟩) S.length c] w fun e w' => e = .returned (.tuple #[]) ∧ Below db w w' ∧ w'.heap[db]? = some (.cells (Lib.byteCells (encB A pad S)).toArray 5 (0, 0)) := by
  have hnl : n ≤ 2000004 := by have := encB_le A pad S; omega
  have hne : ¬ db = eb := by omega
  have hne2 : ¬ eb = db := by omega
  have hne3 : ¬ sb = db := by omega
  have hne4 : ¬ db = sb := by omega
  have HE := Lib.hid hE
  have HS := Lib.hid hS
  have HN := Lib.hid hn
  have HP := Lib.hid hpv
  have HEl : Hid ((Tryz.prog.info? 104).map (·.size) = some (Lib.byteCells A).length) := Lib.hid (by rw [Lib.byteCells_length, hA]; exact info104)
  have HI0 : Hid (EncSt A pad S db n w 0 [] w) := Lib.hid ⟨Nat.zero_le _, Below.refl _ _, by simpa [Lib.byteCells] using hD, by simp⟩
  have HA := Lib.hid hA
  clear hE hS hn hpv hD hA
  go_enter Tryz.func88, Tryz.ntmps88
  go_wp2_with (with_reducible refine wpList_load_mid rfl 104 (.tmp 14) rfl eb 0 rfl (Lib.byteCells A) _ HE.out.range Tryz.underlying104 rfl HEl.out ?_)
  simp only [Act.put, List.setIfInBounds_toArray, List.set_cons_succ, List.set_cons_zero]
  go_loopw [1, 2, 6] (fun x1 x2 x6 wr => ∃ (k : Nat) (O : List UInt8) (d q : Addr), x1 = .slice (some d) (n - O.length) (n - O.length) ∧ x2 = .slice (some q) (S.length - k) (c - k) ∧
      (O.length < n → d = ⟨db, O.length, none⟩) ∧ (k < S.length → q = ⟨sb, k, none⟩) ∧ EncSt A pad S db n w k O wr) (fun _ x2 _ _ => lenS x2)
  case atStart => exact ⟨0, [], _, _, rfl, rfl, fun _ => rfl, fun _ => rfl, HI0.out⟩
  case round =>
    obtain ⟨k, O, d, q, rfl, rfl, hd, hq, hI⟩ := hrel
    have HD := Lib.hid hd
    have HQ := Lib.hid hq
    have HI := Lib.hid hI
    have hkl := hI.kl
    have HEr := Lib.hid (HE.out.below hI.bel heb)
    clear hd hq hI
    by_cases h3 : k + 3 ≤ S.length
    · obtain rfl := HQ.out (by omega)
      have hst := encB_step A pad S k h3
      have hr := HI.out.rest HN.out
      rw [hst, List.length_append] at hr
      have h4 : O.length + 4 ≤ n := by simp at hr; omega
      obtain rfl := HD.out (by omega)
      clear hst hr HD HQ
      have hs0 : wr.cell? ⟨sb, k, none⟩ = some (.int .u8 (S[k].toNat : Int)) := by rw [HI.out.bel.cell (p := ⟨sb, k, none⟩) hsb]; exact HS.out k (by omega)
      have hs1 : wr.cell? ⟨sb, k + 1, none⟩ = some (.int .u8 (S[k + 1].toNat : Int)) := by rw [HI.out.bel.cell (p := ⟨sb, k + 1, none⟩) hsb]; exact HS.out (k + 1) (by omega)
      have hs2 : wr.cell? ⟨sb, k + 2, none⟩ = some (.int .u8 (S[k + 2].toNat : Int)) := by rw [HI.out.bel.cell (p := ⟨sb, k + 2, none⟩) hsb]; exact HS.out (k + 2) (by omega)
      have hb0 := S[k].toNat_lt
      have hb1 := S[k + 1].toNat_lt
      have hb2 := S[k + 2].toNat_lt
      have HST := Lib.hid (fun m => HI.out.step h3 HN.out m)
      have hcell3 := HI.out.cell 3 (by omega)
      generalize S[k].toNat = b0 at *
      generalize S[k + 1].toNat = b1 at *
      generalize S[k + 2].toNat = b2 at *
      have ev := u64_or3 b0 b1 b2 hb0 hb1 hb2
      obtain ⟨v, hv⟩ : ∃ v, v = b0 * 65536 + b1 * 256 + b2 := ⟨_, rfl⟩
      have hvl : v < 16777216 := by omega
      rw [← hv] at ev HST
      clear hv
      have e0 : bits .and .u64 ((v : Int) / 262144) 63 = ((v / 262144 % 64 : Nat) : Int) := u64_and63 (v / 262144) (by omega)
      have e1 : bits .and .u64 ((v : Int) / 4096) 63 = ((v / 4096 % 64 : Nat) : Int) := u64_and63 (v / 4096) (by omega)
      have e2 : bits .and .u64 ((v : Int) / 64) 63 = ((v / 64 % 64 : Nat) : Int) := u64_and63 (v / 64) (by omega)
      have e3 : bits .and .u64 (v : Int) 63 = ((v % 64 : Nat) : Int) := u64_and63 v (by omega)
      have c0 := HEr.out.sign HA.out (v / 262144)
      have c1 := HEr.out.sign HA.out (v / 4096)
      have c2 := HEr.out.sign HA.out (v / 64)
      have c3 := HEr.out.sign HA.out v
      have l0 : v / 262144 % 64 < 64 := Nat.mod_lt _ (by decide)
      have l1 : v / 4096 % 64 < 64 := Nat.mod_lt _ (by decide)
      have l2 : v / 64 % 64 < 64 := Nat.mod_lt _ (by decide)
      have l3 : v % 64 < 64 := Nat.mod_lt _ (by decide)
      have f0 := HI.out.free O.length
      have f1 := HI.out.free (O.length + 1)
      have f2 := HI.out.free (O.length + 2)
      have f3 := HI.out.free (O.length + 3)
      have d0 := HI.out.cell 0 (by omega)
      have d1 := HI.out.cell 1 (by omega)
      have d2 := HI.out.cell 2 (by omega)
      rw [Nat.add_zero] at d0
      generalize v / 262144 % 64 = i0 at *
      generalize v / 4096 % 64 = i1 at *
      generalize v / 64 % 64 = i2 at *
      generalize v % 64 = i3 at *
      have hk2 : k + 3 ≤ c := by omega
      generalize hg0 : sgn A (v / 262144) = g0 at *
      generalize hg1 : sgn A (v / 4096) = g1 at *
      generalize hg2 : sgn A (v / 64) = g2 at *
      generalize hg3 : sgn A v = g3 at *
      clear hg0 hg1 hg2 hg3
      have hO4 : (O ++ [g0, g1, g2, g3]).length = O.length + 4 := by simp
      have HO4 := Lib.hid hO4
      clear hO4
      by_cases hc3 : c - k = 3
      · by_cases hn4 : n - O.length = 4
        · go_wp2
          go_quiet (fail)
          go_wp2
          go_roundw
          case rel => exact ⟨k + 3, O ++ [g0, g1, g2, g3], ⟨db, O.length, none⟩, ⟨sb, k, none⟩, slice_eq (by rw [HO4.out]; omega), slice_eq2 (by omega) (by omega), fun h => absurd h (by rw [HO4.out]; omega), fun h => absurd h (by omega), HST.out _⟩
          case measure => simp [lenS]; omega
        · go_wp2
          go_quiet (fail)
          go_wp2
          go_roundw
          case rel => exact ⟨k + 3, O ++ [g0, g1, g2, g3], ⟨db, O.length + 4, none⟩, ⟨sb, k, none⟩, slice_eq (by rw [HO4.out]; omega), slice_eq2 (by omega) (by omega), fun _ => by rw [HO4.out], fun h => absurd h (by omega), HST.out _⟩
          case measure => simp [lenS]; omega
      · by_cases hn4 : n - O.length = 4
        · go_wp2
          go_quiet (fail)
          go_wp2
          go_roundw
          case rel => exact ⟨k + 3, O ++ [g0, g1, g2, g3], ⟨db, O.length, none⟩, ⟨sb, k + 3, none⟩, slice_eq (by rw [HO4.out]; omega), slice_eq2 (by omega) (by omega), fun h => absurd h (by rw [HO4.out]; omega), fun _ => rfl, HST.out _⟩
          case measure => simp [lenS]; omega
        · go_wp2
          go_quiet (fail)
          go_wp2
          go_roundw
          case rel => exact ⟨k + 3, O ++ [g0, g1, g2, g3], ⟨db, O.length + 4, none⟩, ⟨sb, k + 3, none⟩, slice_eq (by rw [HO4.out]; omega), slice_eq2 (by omega) (by omega), fun _ => by rw [HO4.out], fun _ => rfl, HST.out _⟩
          case measure => simp [lenS]; omega
    · have hr := HI.out.rest HN.out
      by_cases hk0 : k = S.length
      · have hO : O = encB A pad S := by have := HI.out.inv; rwa [List.drop_eq_nil_of_le (by omega), encB, List.append_nil] at this
        have HO := Lib.hid hO
        clear hr hO
        rw [show S.length - k = 0 from by omega]
        clear hk0
        go_wp2
        refine bodyPost_ret (results_none rfl _ _ _) rfl ?_
        refine ⟨rfl, HI.out.bel, ?_⟩
        rw [HI.out.out, HN.out, HO.out]; simp
      · obtain rfl := HQ.out (by omega)
        have hb0 := S[k].toNat_lt
        have hs0 : wr.cell? ⟨sb, k, none⟩ = some (.int .u8 (S[k].toNat : Int)) := by rw [HI.out.bel.cell (p := ⟨sb, k, none⟩) hsb]; exact HS.out k (by omega)
        have hpd := HEr.out.pad HA.out
        have f0 := HI.out.free O.length
        have f1 := HI.out.free (O.length + 1)
        have f2 := HI.out.free (O.length + 2)
        have f3 := HI.out.free (O.length + 3)
        by_cases hk1 : k + 1 = S.length
        · have hst := encB_one A pad S k hk1
          have hL2 : S.length - k = 1 := by omega
          rw [hst, List.length_append] at hr
          have hinv := HI.out.inv
          rw [hst] at hinv
          generalize S[k].toNat = b0 at *
          have e0 : bits .and .u64 ((b0 : Int) * 65536 / 262144) 63 = ((b0 * 65536 / 262144 % 64 : Nat) : Int) := by
            have := u64_and63 (b0 * 65536 / 262144) (by omega); rwa [Int.natCast_ediv, Int.natCast_mul] at this
          have e1 : bits .and .u64 ((b0 : Int) * 65536 / 4096) 63 = ((b0 * 65536 / 4096 % 64 : Nat) : Int) := by
            have := u64_and63 (b0 * 65536 / 4096) (by omega); rwa [Int.natCast_ediv, Int.natCast_mul] at this
          have c0 := HEr.out.sign HA.out (b0 * 65536 / 262144)
          have c1 := HEr.out.sign HA.out (b0 * 65536 / 4096)
          have l0 : b0 * 65536 / 262144 % 64 < 64 := Nat.mod_lt _ (by decide)
          have l1 : b0 * 65536 / 4096 % 64 < 64 := Nat.mod_lt _ (by decide)
          generalize b0 * 65536 / 262144 % 64 = i0 at *
          generalize b0 * 65536 / 4096 % 64 = i1 at *
          generalize sgn A (b0 * 65536 / 262144) = g0 at *
          generalize sgn A (b0 * 65536 / 4096) = g1 at *
          have HINV := Lib.hid hinv
          rw [hL2]
          clear hinv hst hk0 hk1 h3
          rcases HP.out with ⟨rfl, rfl⟩ | ⟨rfl, rfl⟩
          · have hn4 : n - O.length = 4 := by simp at hr; omega
            obtain rfl := HD.out (by omega)
            have d0 := HI.out.cell 0 (by omega)
            have d1 := HI.out.cell 1 (by omega)
            have d2 := HI.out.cell 2 (by omega)
            have d3 := HI.out.cell 3 (by omega)
            rw [Nat.add_zero] at d0
            have H4 := Lib.hid hn4
            clear hr
            go_wp2
            go_end0
            refine ⟨rfl, (((HI.out.bel.setCell (Nat.le_refl _) _).setCell (Nat.le_refl _) _).setCell (Nat.le_refl _) _).setCell (Nat.le_refl _) _, ?_⟩
            rw [← HINV.out, Lib.heap_setCell_same (Lib.heap_setCell_same (Lib.heap_setCell_same (Lib.heap_setCell_same HI.out.out _) _) _) _]
            exact congrArg (fun c => some (Obj.cells c 5)) (row4 O n g0 g1 61 61 H4.out)
          · have hn4 : n - O.length = 2 := by simp at hr; omega
            obtain rfl := HD.out (by omega)
            have d0 := HI.out.cell 0 (by omega)
            have d1 := HI.out.cell 1 (by omega)
            rw [Nat.add_zero] at d0
            have H4 := Lib.hid hn4
            clear hr
            go_wp2
            go_end0
            refine ⟨rfl, (HI.out.bel.setCell (Nat.le_refl _) _).setCell (Nat.le_refl _) _, ?_⟩
            rw [← HINV.out, Lib.heap_setCell_same (Lib.heap_setCell_same HI.out.out _) _]
            exact congrArg (fun c => some (Obj.cells c 5)) (row2 O n g0 g1 H4.out)
        · have hk2 : k + 2 = S.length := by omega
          have hs1 : wr.cell? ⟨sb, k + 1, none⟩ = some (.int .u8 (S[k + 1].toNat : Int)) := by rw [HI.out.bel.cell (p := ⟨sb, k + 1, none⟩) hsb]; exact HS.out (k + 1) (by omega)
          have hb1 := S[k + 1].toNat_lt
          have hst := encB_two A pad S k hk2
          have hL2 : S.length - k = 2 := by omega
          rw [hst, List.length_append] at hr
          have hinv := HI.out.inv
          rw [hst] at hinv
          generalize S[k].toNat = b0 at *
          generalize S[k + 1].toNat = b1 at *
          have ev := u64_or2 b0 b1 hb0 hb1
          obtain ⟨v, hv⟩ : ∃ v, v = b0 * 65536 + b1 * 256 := ⟨_, rfl⟩
          have hvl : v < 16777216 := by omega
          rw [← hv] at ev hinv
          clear hv
          have e0 : bits .and .u64 ((v : Int) / 262144) 63 = ((v / 262144 % 64 : Nat) : Int) := u64_and63 (v / 262144) (by omega)
          have e1 : bits .and .u64 ((v : Int) / 4096) 63 = ((v / 4096 % 64 : Nat) : Int) := u64_and63 (v / 4096) (by omega)
          have e2 : bits .and .u64 ((v : Int) / 64) 63 = ((v / 64 % 64 : Nat) : Int) := u64_and63 (v / 64) (by omega)
          have c0 := HEr.out.sign HA.out (v / 262144)
          have c1 := HEr.out.sign HA.out (v / 4096)
          have c2 := HEr.out.sign HA.out (v / 64)
          have l0 : v / 262144 % 64 < 64 := Nat.mod_lt _ (by decide)
          have l1 : v / 4096 % 64 < 64 := Nat.mod_lt _ (by decide)
          have l2 : v / 64 % 64 < 64 := Nat.mod_lt _ (by decide)
          generalize v / 262144 % 64 = i0 at *
          generalize v / 4096 % 64 = i1 at *
          generalize v / 64 % 64 = i2 at *
          generalize sgn A (v / 262144) = g0 at *
          generalize sgn A (v / 4096) = g1 at *
          generalize sgn A (v / 64) = g2 at *
          have HINV := Lib.hid hinv
          rw [hL2]
          clear hinv hst hk0 hk1 h3
          rcases HP.out with ⟨rfl, rfl⟩ | ⟨rfl, rfl⟩
          · have hn4 : n - O.length = 4 := by simp at hr; omega
            obtain rfl := HD.out (by omega)
            have d0 := HI.out.cell 0 (by omega)
            have d1 := HI.out.cell 1 (by omega)
            have d2 := HI.out.cell 2 (by omega)
            have d3 := HI.out.cell 3 (by omega)
            rw [Nat.add_zero] at d0
            have H4 := Lib.hid hn4
            clear hr
            go_wp2
            go_quiet (fail)
            go_wp2
            go_end0
            refine ⟨rfl, ((((below_drewN2 HI.out.bel _).setCell (Nat.le_refl _) _).setCell (Nat.le_refl _) _).setCell (Nat.le_refl _) _).setCell (Nat.le_refl _) _, ?_⟩
            rw [← HINV.out, Lib.heap_setCell_same (Lib.heap_setCell_same (Lib.heap_setCell_same (Lib.heap_setCell_same (show (wr.drewN _).heap[db]? = _ from HI.out.out) _) _) _) _]
            exact congrArg (fun c => some (Obj.cells c 5)) (row4 O n g0 g1 g2 61 H4.out)
          · have hn4 : n - O.length = 3 := by simp at hr; omega
            obtain rfl := HD.out (by omega)
            have d0 := HI.out.cell 0 (by omega)
            have d1 := HI.out.cell 1 (by omega)
            have d2 := HI.out.cell 2 (by omega)
            rw [Nat.add_zero] at d0
            have H4 := Lib.hid hn4
            clear hr
            go_wp2
            go_quiet (fail)
            go_wp2
            go_end0
            refine ⟨rfl, (((below_drewN2 HI.out.bel _).setCell (Nat.le_refl _) _).setCell (Nat.le_refl _) _).setCell (Nat.le_refl _) _, ?_⟩
            rw [← HINV.out, Lib.heap_setCell_same (Lib.heap_setCell_same (Lib.heap_setCell_same (show (wr.drewN _).heap[db]? = _ from HI.out.out) _) _) _]
            exact congrArg (fun c => some (Obj.cells c 5)) (row3 O n g0 g1 g2 H4.out)

end Go.Proofs.YtinmmchjfifcgaaGreatDoor
