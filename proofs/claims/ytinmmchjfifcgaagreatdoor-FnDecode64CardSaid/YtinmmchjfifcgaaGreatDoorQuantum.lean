/- decodeQuantum at four letters at least, none of them an end of a line: the bytes of the group and where it goes on, or an error. -/
import Derived.Test.YtinmmchjfifcgaaGreatDoorDecSmall
import Derived.Test.YtinmmchjfifcgaaGreatDoorSpecDec
import Derived.Test.YtinmmchjfifcgaaGreatDoorEncString
import Derived.Deep.MidRow
import Derived.Deep.QuietTactic
import Derived.BigQuiet
import Derived.RegionTactic
namespace Go.Proofs.YtinmmchjfifcgaaGreatDoor
open Go.RowKit
set_option maxRecDepth 100000

theorem info105 : (Tryz.prog.info? 105).map (·.size) = some 256 := by kernel_rfl
theorem EncIs.oth {A : List UInt8} {pv : Int} {eb db B : Nat} {w w' : World} (h : EncIs A pv eb w) (hO : Oth B db w w') (h1 : eb < B) (h2 : eb ≠ db) : EncIs A pv eb w' := by
  unfold EncIs; rw [hO.oth eb h1 h2]; exact h
theorem EncIs.dm {pv : Int} {eb : Nat} {w : World} (h : EncIs alphaS.data.toList pv eb w) (c : UInt8) : w.cell? ⟨eb, 64 + c.toNat, none⟩ = some (.int .u8 ((dmV c : Nat) : Int)) := by
  have e := encL_dm alphaS.data.toList 64 pv rfl c.toNat c.toNat_lt
  have e2 : (dmR alphaS.data.toList 64).getD c.toNat 0 = dmV c := by
    rw [dmT_eq]; unfold dmV
    have : c.toNat < dmT.length := by have := c.toNat_lt; simpa [dmT] using this
    rw [List.getD, List.getD, List.getElem?_eq_getElem this]; rfl
  rw [e2] at e
  unfold EncIs at h
  unfold World.cell?
  simp only [h]
  simpa [u8c] using e
theorem EncIs.strict {A : List UInt8} {pv : Int} {eb : Nat} {w : World} (h : EncIs A pv eb w) (hA : A.length = 64) : w.cell? ⟨eb, 321, none⟩ = some (.bool false) := by
  unfold EncIs at h
  unfold World.cell?
  simp only [h]
  simp [encL, Lib.byteCells_length, hA, dmR_length]
theorem EncIs.map {A : List UInt8} {pv : Int} {eb : Nat} {w : World} (h : EncIs A pv eb w) (hA : A.length = 64) : w.rangeAt eb 64 ((dmR A 64).map u8c) := by
  intro j v hj
  unfold EncIs at h
  unfold World.cell?
  simp only [h]
  have hl : j < ((dmR A 64).map u8c).length := (List.getElem?_eq_some_iff.1 hj).1
  have e : (encL A 64 pv)[64 + j]? = some v := by
    unfold encL
    rw [List.getElem?_append_right (by rw [Lib.byteCells_length, hA]; omega), Lib.byteCells_length, hA, Nat.add_sub_cancel_left, List.getElem?_append_left hl]
    exact hj
  simpa using e

theorem Dst.other {db : Nat} {X : List UInt8} {w : World} (h : Dst db X w) {q : Nat} (hq : ¬ q = db) (i : Nat) (v : Value) : Dst db X (w.setCell ⟨q, i, none⟩ v) := by
  have h := h.row
  refine ⟨?_⟩
  rw [Below.heap_setCell _ _ _ _ (by intro e; exact hq e.symm)]; exact h
theorem Dst.drewN {db : Nat} {X : List UInt8} {w : World} (h : Dst db X w) (n : Nat) : Dst db X (w.drewN n) := ⟨h.row⟩
theorem Dst.alloc {db : Nat} {X : List UInt8} {w : World} (h : Dst db X w) (o : Obj) : Dst db X (w.alloc o) := by
  have hl := h.lt
  have h := h.row
  refine ⟨?_⟩
  rw [Below.heap_alloc _ _ _ hl]; exact h
theorem Oth.setq {B db : Nat} {a b : World} (h : Oth B db a b) (o : Nat) (v : Value) : Oth B db a (b.setCell ⟨B, o, none⟩ v) := h.set (.inr (Nat.le_refl _)) v

theorem cell_row {w : World} {q : Nat} {cs : Array Value} {t : TypeId} (h : w.heap[q]? = some (.cells cs t (0, 0))) (j : Nat) (v : Value) (hv : cs[j]? = some v) : w.cell? ⟨q, j, none⟩ = some v := by
  unfold World.cell?; simp only [h]; exact hv
theorem free_row {w : World} {q : Nat} {cs : Array Value} {t : TypeId} (h : w.heap[q]? = some (.cells cs t (0, 0))) (j : Nat) : w.frozen? ⟨q, j, none⟩ = false := by
  unfold World.frozen?; simp [h]
/-- The buffer of four behind k letters. -/
def qrow (a b c d : UInt8) : Nat → Array Value
  | 0 => #[.int .u8 0, .int .u8 0, .int .u8 0, .int .u8 0]
  | 1 => #[.int .u8 ((dz a : Nat) : Int), .int .u8 0, .int .u8 0, .int .u8 0]
  | 2 => #[.int .u8 ((dz a : Nat) : Int), .int .u8 ((dz b : Nat) : Int), .int .u8 0, .int .u8 0]
  | 3 => #[.int .u8 ((dz a : Nat) : Int), .int .u8 ((dz b : Nat) : Int), .int .u8 ((dz c : Nat) : Int), .int .u8 0]
  | _ => #[.int .u8 ((dz a : Nat) : Int), .int .u8 ((dz b : Nat) : Int), .int .u8 ((dz c : Nat) : Int), .int .u8 ((dz d : Nat) : Int)]
theorem row_store {w : World} {q : Nat} {cs : Array Value} {t : TypeId} (h : w.heap[q]? = some (.cells cs t (0, 0))) (j : Nat) (v : Value) : (w.setCell ⟨q, j, none⟩ v).heap[q]? = some (.cells (cs.setIfInBounds j v) t (0, 0)) := Lib.heap_setCell_same h v

theorem dz_good {c : UInt8} (h : ¬ dmV c = 255) : dz c = dmV c := by simp [dz, h]
/-- The first k letters have places. -/
structure GoodTo (a b c d : UInt8) (k : Nat) : Prop where
  g0 : 1 ≤ k → ¬ dmV a = 255
  g1 : 2 ≤ k → ¬ dmV b = 255
  g2 : 3 ≤ k → ¬ dmV c = 255
  g3 : 4 ≤ k → ¬ dmV d = 255
theorem GoodTo.zero (a b c d : UInt8) : GoodTo a b c d 0 := ⟨by omega, by omega, by omega, by omega⟩
theorem GoodTo.s0 {a b c d : UInt8} (_ : GoodTo a b c d 0) (h : ¬ dmV a = 255) : GoodTo a b c d 1 := ⟨fun _ => h, by omega, by omega, by omega⟩
theorem GoodTo.s1 {a b c d : UInt8} (g : GoodTo a b c d 1) (h : ¬ dmV b = 255) : GoodTo a b c d 2 := ⟨fun _ => g.g0 (by omega), fun _ => h, by omega, by omega⟩
theorem GoodTo.s2 {a b c d : UInt8} (g : GoodTo a b c d 2) (h : ¬ dmV c = 255) : GoodTo a b c d 3 := ⟨fun _ => g.g0 (by omega), fun _ => g.g1 (by omega), fun _ => h, by omega⟩
theorem GoodTo.s3 {a b c d : UInt8} (g : GoodTo a b c d 3) (h : ¬ dmV d = 255) : GoodTo a b c d 4 := ⟨fun _ => g.g0 (by omega), fun _ => g.g1 (by omega), fun _ => g.g2 (by omega), fun _ => h⟩
theorem kq_three {a b c d : UInt8} {r : List UInt8} (g : GoodTo a b c d 4) : kq a b c d r = some 3 := by
  simp [kq, g.g0 (by omega), g.g1 (by omega), g.g2 (by omega), g.g3 (by omega)]
theorem kq_two {a b c d : UInt8} (g : GoodTo a b c d 3) (h : dmV d = 255) (h2 : d = 61) : kq a b c d [] = some 2 := by
  subst h2
  simp [kq, g.g0 (by omega), g.g1 (by omega), g.g2 (by omega), h]
theorem kq_one {a b c d : UInt8} (g : GoodTo a b c d 2) (h : dmV c = 255) (h1 : c = 61) (h2 : d = 61) : kq a b c d [] = some 1 := by
  subst h1 h2
  simp [kq, g.g0 (by omega), g.g1 (by omega), h]

theorem set1 (X : List UInt8) (o : Nat) (y0 : UInt8) (h : o + 3 ≤ X.length) : (X.set o y0).take (o + 1) = X.take o ++ [y0] := by
  apply List.ext_getElem
  · simp; omega
  · intro i h1 h2
    simp only [List.getElem_take, List.getElem_set, List.getElem_append, List.length_take]
    simp at h1
    split <;> split <;> first | omega | rfl | skip
    all_goals simp
theorem set2 (X : List UInt8) (o : Nat) (y0 y1 : UInt8) (h : o + 3 ≤ X.length) : ((X.set (o + 1) y1).set o y0).take (o + 2) = X.take o ++ [y0, y1] := by
  have e : (X.set (o + 1) y1).set o y0 = (X.set o y0).set (o + 1) y1 := by rw [List.set_comm _ _ (by omega)]
  rw [e, List.take_succ_eq_append_getElem (by simp; omega), List.take_set_of_le (by omega), set1 X o y0 h]
  simp
theorem set3 (X : List UInt8) (o : Nat) (y0 y1 y2 : UInt8) (h : o + 3 ≤ X.length) : (((X.set (o + 2) y2).set (o + 1) y1).set o y0).take (o + 3) = X.take o ++ [y0, y1, y2] := by
  have e : ((X.set (o + 2) y2).set (o + 1) y1).set o y0 = ((X.set (o + 1) y1).set o y0).set (o + 2) y2 := by rw [List.set_comm _ _ (show o + 2 ≠ o + 1 by omega), List.set_comm _ _ (show o + 2 ≠ o by omega)]
  rw [e, List.take_succ_eq_append_getElem (by simp; omega), List.take_set_of_le (by omega), set2 X o y0 y1 h]
  simp

/-- What decodeQuantum leaves. -/
def QPost (a b c d : UInt8) (r : List UInt8) (si o db : Nat) (X : List UInt8) (w : World) (e : Ending) (w' : World) : Prop :=
  ∃ X', Dst db X' w' ∧ X'.length = X.length ∧ Oth w.heap.size db w w' ∧
   ((∃ k, kq a b c d r = some k ∧ e = .returned (.tuple #[.int .i64 ((si + 4 : Nat) : Int), .int .i64 (k : Int), .nilIface]) ∧ X'.take (o + k) = X.take o ++ (grpB (num4 a b c d)).take k) ∨
    (∃ (s' : Int) (n : Nat) (v : Value), kq a b c d r = none ∧ n ≤ 2 ∧ e = .returned (.tuple #[.int .i64 s', .int .i64 (n : Int), .iface 180 v])))
theorem QPost.ok {a b c d : UInt8} {r : List UInt8} {si o db : Nat} {X : List UInt8} {w w' : World} (k : Nat) (X' : List UInt8) (hk : kq a b c d r = some k) (hD : Dst db X' w') (hl : X'.length = X.length) (ht : X'.take (o + k) = X.take o ++ (grpB (num4 a b c d)).take k) (hO : Oth w.heap.size db w w') :
    QPost a b c d r si o db X w (.returned (.tuple #[.int .i64 ((si + 4 : Nat) : Int), .int .i64 (k : Int), .nilIface])) w' := ⟨X', hD, hl, hO, .inl ⟨k, hk, rfl, ht⟩⟩
theorem QPost.bad {a b c d : UInt8} {r : List UInt8} {si o db : Nat} {X : List UInt8} {w w' : World} (n : Nat) (X' : List UInt8) (s' : Int) (v : Value) (hk : kq a b c d r = none) (hn : n ≤ 2) (hD : Dst db X' w') (hl : X'.length = X.length) (hO : Oth w.heap.size db w w') :
    QPost a b c d r si o db X w (.returned (.tuple #[.int .i64 s', .int .i64 (n : Int), .iface 180 v])) w' := ⟨X', hD, hl, hO, .inr ⟨s', n, v, hk, hn, rfl⟩⟩

/-- What the source holds from si on. -/
structure QIn (sb si : Nat) (S : List UInt8) (a b c d : UInt8) (r : List UInt8) (w : World) : Prop where
  s0 : w.cell? ⟨sb, si, none⟩ = some (.int .u8 (a.toNat : Int))
  s1 : w.cell? ⟨sb, si + 1, none⟩ = some (.int .u8 (b.toNat : Int))
  s2 : w.cell? ⟨sb, si + 2, none⟩ = some (.int .u8 (c.toNat : Int))
  s3 : w.cell? ⟨sb, si + 3, none⟩ = some (.int .u8 (d.toNat : Int))
  s4 : ∀ e r', r = e :: r' → w.cell? ⟨sb, si + 4, none⟩ = some (.int .u8 (e.toNat : Int))
  len : S.length = si + (4 + r.length)
  n0 : ((a.toNat : Int) == 10) = false ∧ ((a.toNat : Int) == 13) = false
  n1 : ((b.toNat : Int) == 10) = false ∧ ((b.toNat : Int) == 13) = false
  n2 : ((c.toNat : Int) == 10) = false ∧ ((c.toNat : Int) == 13) = false
  n3 : ((d.toNat : Int) == 10) = false ∧ ((d.toNat : Int) == 13) = false
  ne : ∀ e r', r = e :: r' → ((e.toNat : Int) == 10) = false ∧ ((e.toNat : Int) == 13) = false

set_option maxHeartbeats 40000000 in
theorem quantum_any (eb sb db o m mc cS si : Nat) (S X : List UInt8) (a b c d : UInt8) (r : List UInt8) (w : World) (hE : EncIs alphaS.data.toList 61 eb w) (helt : eb < w.heap.size) (heb : eb ≠ db) (hsb : sb ≠ db) (hsl : sb < w.heap.size)
    (hD : Dst db X w) (hm : 3 ≤ m) (hx : o + m ≤ X.length) (hI : QIn sb si S a b c d r w) (hL : S.length ≤ 1000) :
    Calls Tryz.prog 116 #[.pointer (some ⟨eb, 0, none⟩), .slice (some ⟨db, o, none⟩) m mc, .slice (some ⟨sb, 0, none⟩) S.length cS, .int .i64 (si : Int)] w (QPost a b c d r si o db X w) := by
  have hqd : ¬ w.heap.size = db := by have := hD.lt; omega
  have hdq : ¬ db = w.heap.size := by omega
  have hsq : ¬ w.heap.size = sb := by omega
  have heq : ¬ w.heap.size = eb := by omega
  have HE := Lib.hid hE
  have HI := Lib.hid hI
  have HMAP : Hid ((w.alloc (.cells #[.int .u8 0, .int .u8 0, .int .u8 0, .int .u8 0] 179)).rangeAt eb 64 ((dmR alphaS.data.toList 64).map u8c)) := Lib.hid ((hE.oth ((Oth.refl w.heap.size db w).alloc (Nat.le_refl _) _) helt heb).map rfl)
  have HSZ : Hid ((Tryz.prog.info? 105).map (·.size) = some ((dmR alphaS.data.toList 64).map u8c).length) := Lib.hid (by rw [List.length_map, dmR_length]; exact info105)
  have HD := Lib.hid hD
  clear hE hI hD
  go_enter Tryz.func116, Tryz.ntmps116
  go_wp2_with (with_reducible refine wpList_load_mid rfl 105 (.tmp 19) rfl eb 64 rfl ((dmR alphaS.data.toList 64).map u8c) _ HMAP.out Tryz.underlying105 rfl HSZ.out ?_)
  go_loopw [3, 10, 12, 13, 14, 15] (fun s' er dl j _ _ wr => ∃ k : Nat, j = .int .i64 k ∧ k ≤ 4 ∧ s' = .int .i64 ((si + k : Nat) : Int) ∧ er = .nilIface ∧ dl = .int .i64 4 ∧ GoodTo a b c d k ∧ wr.heap[w.heap.size]? = some (.cells (qrow a b c d k) 179 (0, 0)) ∧ Dst db X wr ∧ Oth w.heap.size db w wr) (fun _ _ _ j _ _ _ => 4 - (intOf j).toNat)
  case atStart => exact ⟨0, rfl, Nat.zero_le _, rfl, rfl, rfl, GoodTo.zero _ _ _ _, heap_alloc_new _ _, HD.out.alloc _, (Oth.refl _ _ _).alloc (Nat.le_refl _) _⟩
  case round =>
    obtain ⟨k, rfl, hk, rfl, rfl, rfl, hG, hQ, hDr, hO⟩ := hrel
    have HGd := Lib.hid hG
    have HQ := Lib.hid hQ
    have HDr := Lib.hid hDr
    have HO := Lib.hid hO
    have hwz : w.heap.size < wr.heap.size := lt_of_block hQ
    clear hG hQ hDr hO
    rcases (by omega : k = 0 ∨ k = 1 ∨ k = 2 ∨ k = 3 ∨ k = 4) with rfl | rfl | rfl | rfl | rfl
    · -- letter 0
      have hlt : si + 4 ≤ S.length := by have := (Hid.out HI).len; omega
      by_cases hv : dmV a = 255
      · have HV := Lib.hid hv
        clear hv
        have hq0 : wr.cell? ⟨w.heap.size, 0, none⟩ = some (.int .u8 0) := cell_row HQ.out 0 _ rfl
        have fq0 : wr.frozen? ⟨w.heap.size, 0, none⟩ = false := free_row HQ.out 0
        have hq1 : wr.cell? ⟨w.heap.size, 1, none⟩ = some (.int .u8 0) := cell_row HQ.out 1 _ rfl
        have fq1 : wr.frozen? ⟨w.heap.size, 1, none⟩ = false := free_row HQ.out 1
        have hq2 : wr.cell? ⟨w.heap.size, 2, none⟩ = some (.int .u8 0) := cell_row HQ.out 2 _ rfl
        have fq2 : wr.frozen? ⟨w.heap.size, 2, none⟩ = false := free_row HQ.out 2
        have hq3 : wr.cell? ⟨w.heap.size, 3, none⟩ = some (.int .u8 0) := cell_row HQ.out 3 _ rfl
        have fq3 : wr.frozen? ⟨w.heap.size, 3, none⟩ = false := free_row HQ.out 3
        have hp : wr.cell? ⟨eb, 320, none⟩ = some (.int .i32 61) := (HE.out.oth HO.out helt heb).pad rfl
        have hs : wr.cell? ⟨sb, si, none⟩ = some (.int .u8 (a.toNat : Int)) := by rw [HO.out.cell (p := ⟨sb, si, none⟩) hsl hsb]; exact HI.out.s0
        have hdm : wr.cell? ⟨eb, 64 + a.toNat, none⟩ = some (.int .u8 255) := by rw [(HE.out.oth HO.out helt heb).dm a, HV.out]; rfl
        have hx256 : (a.toNat : Int) < 256 := by have := a.toNat_lt; omega
        have h10 : ((a.toNat : Int) == 10) = false := HI.out.n0.1
        have h13 : ((a.toNat : Int) == 13) = false := HI.out.n0.2
        by_cases h61 : a = 61
        · have hb : ((a.toNat : Int) != 61) = false := by rw [h61]; rfl
          have H61 := Lib.hid h61
          clear h61
          go_wp2
          go_ret3
          exact QPost.bad 0 _ _ _ (kq_bad _ _ _ _ _ (.inl HV.out)) (by omega) HDr.out rfl HO.out
        · have hb : ((a.toNat : Int) != 61) = true := by rw [bne_iff_ne]; intro e; apply h61; exact UInt8.toNat_inj.1 (by show _ = 61; omega)
          have H61 := Lib.hid h61
          clear h61
          go_wp2
          go_ret3
          exact QPost.bad 0 _ _ _ (kq_bad _ _ _ _ _ (.inl HV.out)) (by omega) HDr.out rfl HO.out
      · have HV := Lib.hid hv
        clear hv
        have hq0 : wr.cell? ⟨w.heap.size, 0, none⟩ = some (.int .u8 0) := cell_row HQ.out 0 _ rfl
        have fq0 : wr.frozen? ⟨w.heap.size, 0, none⟩ = false := free_row HQ.out 0
        have hq1 : wr.cell? ⟨w.heap.size, 1, none⟩ = some (.int .u8 0) := cell_row HQ.out 1 _ rfl
        have fq1 : wr.frozen? ⟨w.heap.size, 1, none⟩ = false := free_row HQ.out 1
        have hq2 : wr.cell? ⟨w.heap.size, 2, none⟩ = some (.int .u8 0) := cell_row HQ.out 2 _ rfl
        have fq2 : wr.frozen? ⟨w.heap.size, 2, none⟩ = false := free_row HQ.out 2
        have hq3 : wr.cell? ⟨w.heap.size, 3, none⟩ = some (.int .u8 0) := cell_row HQ.out 3 _ rfl
        have fq3 : wr.frozen? ⟨w.heap.size, 3, none⟩ = false := free_row HQ.out 3
        have hp : wr.cell? ⟨eb, 320, none⟩ = some (.int .i32 61) := (HE.out.oth HO.out helt heb).pad rfl
        have hs : wr.cell? ⟨sb, si, none⟩ = some (.int .u8 (a.toNat : Int)) := by rw [HO.out.cell (p := ⟨sb, si, none⟩) hsl hsb]; exact HI.out.s0
        have hdm : wr.cell? ⟨eb, 64 + a.toNat, none⟩ = some (.int .u8 ((dz a : Nat) : Int)) := by rw [(HE.out.oth HO.out helt heb).dm a, ← dz_good HV.out]
        have hx256 : (a.toNat : Int) < 256 := by have := a.toNat_lt; omega
        have hne : (((dz a : Nat) : Int) != 255) = true := by have := dz_lt a; rw [bne_iff_ne]; omega
        go_wp2
        go_roundw
        case rel => exact ⟨1, by go_num, by omega, by go_num, rfl, rfl, HGd.out.s0 HV.out, row_store HQ.out 0 _, (HDr.out).other hqd 0 _, HO.out.setq 0 _⟩
        case measure => simp [intOf]
    · -- letter 1
      have hlt : si + 4 ≤ S.length := by have := (Hid.out HI).len; omega
      by_cases hv : dmV b = 255
      · have HV := Lib.hid hv
        clear hv
        have hq0 : wr.cell? ⟨w.heap.size, 0, none⟩ = some (.int .u8 ((dz a : Nat) : Int)) := cell_row HQ.out 0 _ rfl
        have fq0 : wr.frozen? ⟨w.heap.size, 0, none⟩ = false := free_row HQ.out 0
        have hq1 : wr.cell? ⟨w.heap.size, 1, none⟩ = some (.int .u8 0) := cell_row HQ.out 1 _ rfl
        have fq1 : wr.frozen? ⟨w.heap.size, 1, none⟩ = false := free_row HQ.out 1
        have hq2 : wr.cell? ⟨w.heap.size, 2, none⟩ = some (.int .u8 0) := cell_row HQ.out 2 _ rfl
        have fq2 : wr.frozen? ⟨w.heap.size, 2, none⟩ = false := free_row HQ.out 2
        have hq3 : wr.cell? ⟨w.heap.size, 3, none⟩ = some (.int .u8 0) := cell_row HQ.out 3 _ rfl
        have fq3 : wr.frozen? ⟨w.heap.size, 3, none⟩ = false := free_row HQ.out 3
        have hp : wr.cell? ⟨eb, 320, none⟩ = some (.int .i32 61) := (HE.out.oth HO.out helt heb).pad rfl
        have hs : wr.cell? ⟨sb, si + 1, none⟩ = some (.int .u8 (b.toNat : Int)) := by rw [HO.out.cell (p := ⟨sb, si + 1, none⟩) hsl hsb]; exact HI.out.s1
        have hdm : wr.cell? ⟨eb, 64 + b.toNat, none⟩ = some (.int .u8 255) := by rw [(HE.out.oth HO.out helt heb).dm b, HV.out]; rfl
        have hx256 : (b.toNat : Int) < 256 := by have := b.toNat_lt; omega
        have h10 : ((b.toNat : Int) == 10) = false := HI.out.n1.1
        have h13 : ((b.toNat : Int) == 13) = false := HI.out.n1.2
        by_cases h61 : b = 61
        · have hb : ((b.toNat : Int) != 61) = false := by rw [h61]; rfl
          have H61 := Lib.hid h61
          clear h61
          go_wp2
          go_ret3
          exact QPost.bad 0 _ _ _ (kq_bad _ _ _ _ _ (.inr HV.out)) (by omega) HDr.out rfl HO.out
        · have hb : ((b.toNat : Int) != 61) = true := by rw [bne_iff_ne]; intro e; apply h61; exact UInt8.toNat_inj.1 (by show _ = 61; omega)
          have H61 := Lib.hid h61
          clear h61
          go_wp2
          go_ret3
          exact QPost.bad 0 _ _ _ (kq_bad _ _ _ _ _ (.inr HV.out)) (by omega) HDr.out rfl HO.out
      · have HV := Lib.hid hv
        clear hv
        have hq0 : wr.cell? ⟨w.heap.size, 0, none⟩ = some (.int .u8 ((dz a : Nat) : Int)) := cell_row HQ.out 0 _ rfl
        have fq0 : wr.frozen? ⟨w.heap.size, 0, none⟩ = false := free_row HQ.out 0
        have hq1 : wr.cell? ⟨w.heap.size, 1, none⟩ = some (.int .u8 0) := cell_row HQ.out 1 _ rfl
        have fq1 : wr.frozen? ⟨w.heap.size, 1, none⟩ = false := free_row HQ.out 1
        have hq2 : wr.cell? ⟨w.heap.size, 2, none⟩ = some (.int .u8 0) := cell_row HQ.out 2 _ rfl
        have fq2 : wr.frozen? ⟨w.heap.size, 2, none⟩ = false := free_row HQ.out 2
        have hq3 : wr.cell? ⟨w.heap.size, 3, none⟩ = some (.int .u8 0) := cell_row HQ.out 3 _ rfl
        have fq3 : wr.frozen? ⟨w.heap.size, 3, none⟩ = false := free_row HQ.out 3
        have hp : wr.cell? ⟨eb, 320, none⟩ = some (.int .i32 61) := (HE.out.oth HO.out helt heb).pad rfl
        have hs : wr.cell? ⟨sb, si + 1, none⟩ = some (.int .u8 (b.toNat : Int)) := by rw [HO.out.cell (p := ⟨sb, si + 1, none⟩) hsl hsb]; exact HI.out.s1
        have hdm : wr.cell? ⟨eb, 64 + b.toNat, none⟩ = some (.int .u8 ((dz b : Nat) : Int)) := by rw [(HE.out.oth HO.out helt heb).dm b, ← dz_good HV.out]
        have hx256 : (b.toNat : Int) < 256 := by have := b.toNat_lt; omega
        have hne : (((dz b : Nat) : Int) != 255) = true := by have := dz_lt b; rw [bne_iff_ne]; omega
        go_wp2
        go_roundw
        case rel => exact ⟨2, by go_num, by omega, by go_num, rfl, rfl, HGd.out.s1 HV.out, row_store HQ.out 1 _, (HDr.out).other hqd 1 _, HO.out.setq 1 _⟩
        case measure => simp [intOf]
    · -- letter 2
      have hlt : si + 4 ≤ S.length := by have := (Hid.out HI).len; omega
      by_cases hv : dmV c = 255
      · have HV := Lib.hid hv
        clear hv
        have hq0 : wr.cell? ⟨w.heap.size, 0, none⟩ = some (.int .u8 ((dz a : Nat) : Int)) := cell_row HQ.out 0 _ rfl
        have fq0 : wr.frozen? ⟨w.heap.size, 0, none⟩ = false := free_row HQ.out 0
        have hq1 : wr.cell? ⟨w.heap.size, 1, none⟩ = some (.int .u8 ((dz b : Nat) : Int)) := cell_row HQ.out 1 _ rfl
        have fq1 : wr.frozen? ⟨w.heap.size, 1, none⟩ = false := free_row HQ.out 1
        have hq2 : wr.cell? ⟨w.heap.size, 2, none⟩ = some (.int .u8 0) := cell_row HQ.out 2 _ rfl
        have fq2 : wr.frozen? ⟨w.heap.size, 2, none⟩ = false := free_row HQ.out 2
        have hq3 : wr.cell? ⟨w.heap.size, 3, none⟩ = some (.int .u8 0) := cell_row HQ.out 3 _ rfl
        have fq3 : wr.frozen? ⟨w.heap.size, 3, none⟩ = false := free_row HQ.out 3
        have hp : wr.cell? ⟨eb, 320, none⟩ = some (.int .i32 61) := (HE.out.oth HO.out helt heb).pad rfl
        have hs : wr.cell? ⟨sb, si + 2, none⟩ = some (.int .u8 (c.toNat : Int)) := by rw [HO.out.cell (p := ⟨sb, si + 2, none⟩) hsl hsb]; exact HI.out.s2
        have hdm : wr.cell? ⟨eb, 64 + c.toNat, none⟩ = some (.int .u8 255) := by rw [(HE.out.oth HO.out helt heb).dm c, HV.out]; rfl
        have hx256 : (c.toNat : Int) < 256 := by have := c.toNat_lt; omega
        have h10 : ((c.toNat : Int) == 10) = false := HI.out.n2.1
        have h13 : ((c.toNat : Int) == 13) = false := HI.out.n2.2
        by_cases h61 : c = 61
        · have hb : ((c.toNat : Int) != 61) = false := by rw [h61]; rfl
          have H61 := Lib.hid h61
          clear h61
          have hs3 : wr.cell? ⟨sb, si + 3, none⟩ = some (.int .u8 (d.toNat : Int)) := by rw [HO.out.cell (p := ⟨sb, si + 3, none⟩) hsl hsb]; exact HI.out.s3
          have h310 : ((d.toNat : Int) == 10) = false := HI.out.n3.1
          have h313 : ((d.toNat : Int) == 13) = false := HI.out.n3.2
          have hd256 : (d.toNat : Int) < 256 := by have := d.toNat_lt; omega
          by_cases hd61 : d = 61
          · have hb3 : ((d.toNat : Int) != 61) = false := by rw [hd61]; rfl
            have HVC := HV
            have HVD := Lib.hid (show dmV d = 255 by rw [hd61]; exact dmV_61)
            have HD61 := Lib.hid hd61
            clear hd61
            go_wp2
            go_loop [3] (fun x => x = .int .i64 ((si + 3 : Nat) : Int)) (fun _ => 0)
            case atStart => exact congrArg (Value.int .i64) (by omega)
            case round =>
              subst hrel
              go_wp2
              go_quiet (fail)
              rcases hrr : r with _ | ⟨e, r'⟩
              · -- no more
                have HK : Hid (kq a b c d r = some 1) := Lib.hid (by rw [hrr]; exact kq_one HGd.out HV.out H61.out HD61.out)
                have hlen : S.length = si + 4 := HI.out.len.trans (by rw [hrr]; rfl)
                have la := dz_lt a
                have lb := dz_lt b
                have lc := dz_lt c
                have ld := dz_lt d
                have j1 := join64 (((dz a : Nat) : Int) * 262144) (((dz b : Nat) : Int) * 4096) 18 (by omega) (by omega) (by omega) (by omega) (by omega) (by omega)
                have j2' := join64 (((dz a : Nat) : Int) * 262144 + ((dz b : Nat) : Int) * 4096) 0 12 (by omega) (by omega) (by omega) (by omega) (by omega) (by omega)
                obtain ⟨v, hv⟩ : ∃ v, v = num4 a b c d := ⟨_, rfl⟩
                have hE : ((dz a : Nat) : Int) * 262144 + ((dz b : Nat) : Int) * 4096 = (v : Int) := by have zc := dz_bad (Hid.out HVC); have zd := dz_bad (Hid.out HVD); unfold num4 at hv; omega
                have j2 : bits .or .u64 (((dz a : Nat) : Int) * 262144 + ((dz b : Nat) : Int) * 4096) 0 = (v : Int) := j2'.trans (by rw [Int.add_zero]; exact hE)
                have j3 : bits .or .u64 (v : Int) 0 = (v : Int) := by rw [← hE]; exact j2'.trans (Int.add_zero _)
                clear j2'
                have hvl : v < 16777216 := by omega
                obtain ⟨y0, e0⟩ : ∃ y, y = UInt8.ofNat (v / 65536) := ⟨_, rfl⟩
                obtain ⟨y1, e1⟩ : ∃ y, y = UInt8.ofNat (v / 256) := ⟨_, rfl⟩
                obtain ⟨y2, e2⟩ : ∃ y, y = UInt8.ofNat v := ⟨_, rfl⟩
                have f0 : IntKind.u8.wrap ((v : Int) / 65536) = (y0.toNat : Int) := by rw [IntKind.wrap_u8, e0, UInt8.toNat_ofNat']; omega
                have f1 : IntKind.u8.wrap ((v : Int) / 256) = (y1.toNat : Int) := by rw [IntKind.wrap_u8, e1, UInt8.toNat_ofNat']; omega
                have f2 : IntKind.u8.wrap (v : Int) = (y2.toNat : Int) := by rw [IntKind.wrap_u8, e2, UInt8.toNat_ofNat']; omega
                have HG : Hid (grpB (num4 a b c d) = [y0, y1, y2]) := Lib.hid (by rw [← hv, e0, e1, e2]; rfl)
                have hst : wr.cell? ⟨eb, 321, none⟩ = some (.bool false) := (HE.out.oth HO.out helt heb).strict rfl
                clear hv hE e0 e1 e2
                have hd0 := (Hid.out HDr).cell (o) (by omega)
                have fd0 := (Hid.out HDr).free (o)
                have hd1 := (Hid.out HDr).cell (o + 1) (by omega)
                have fd1 := (Hid.out HDr).free (o + 1)
                have hd2 := (Hid.out HDr).cell (o + 2) (by omega)
                have fd2 := (Hid.out HDr).free (o + 2)
                generalize X[o] = z0 at hd0
                generalize X[o + 1] = z1 at hd1
                generalize X[o + 2] = z2 at hd2
                clear hrr
                go_wp2
                go_loop [3] (fun x => x = .int .i64 ((si + 4 : Nat) : Int)) (fun _ => 0)
                case atStart => exact congrArg (Value.int .i64) (by omega)
                case round =>
                  subst hrel
                  go_wp2
                  go_ret3
                  refine QPost.ok 1 (X.set o y0) (Hid.out HK) ?_ ?_ ?_ ?_
                  · refine Dst.set ?_ _ _
                    refine Dst.other ?_ hqd _ _
                    refine Dst.other ?_ hqd _ _
                    refine Dst.other ?_ hqd _ _
                    exact HDr.out.drewN _
                  · simp only [List.length_set]
                  · rw [HG.out]; exact set1 X o y0 (by omega)
                  · refine Oth.setd ?_ _ _
                    refine Oth.setq ?_ _ _
                    refine Oth.setq ?_ _ _
                    refine Oth.setq ?_ _ _
                    exact HO.out.drewN _
              · -- more follows
                have HK : Hid (kq a b c d r = none) := Lib.hid (kq_bad3 _ _ _ _ _ HV.out (fun h => by rw [hrr] at h; exact absurd h.2.2 (by simp)))
                have hs4 : wr.cell? ⟨sb, si + 4, none⟩ = some (.int .u8 (e.toNat : Int)) := by rw [HO.out.cell (p := ⟨sb, si + 4, none⟩) hsl hsb]; exact (Hid.out HI).s4 e r' hrr
                have he10 : ((e.toNat : Int) == 10) = false := (HI.out.ne e r' hrr).1
                have he13 : ((e.toNat : Int) == 13) = false := (HI.out.ne e r' hrr).2
                have hlen : si + 4 < S.length := by have := (Hid.out HI).len; rw [hrr, List.length_cons] at this; omega
                have la := dz_lt a
                have lb := dz_lt b
                have lc := dz_lt c
                have ld := dz_lt d
                have j1 := join64 (((dz a : Nat) : Int) * 262144) (((dz b : Nat) : Int) * 4096) 18 (by omega) (by omega) (by omega) (by omega) (by omega) (by omega)
                have j2' := join64 (((dz a : Nat) : Int) * 262144 + ((dz b : Nat) : Int) * 4096) 0 12 (by omega) (by omega) (by omega) (by omega) (by omega) (by omega)
                obtain ⟨v, hv⟩ : ∃ v, v = num4 a b c d := ⟨_, rfl⟩
                have hE : ((dz a : Nat) : Int) * 262144 + ((dz b : Nat) : Int) * 4096 = (v : Int) := by have zc := dz_bad (Hid.out HVC); have zd := dz_bad (Hid.out HVD); unfold num4 at hv; omega
                have j2 : bits .or .u64 (((dz a : Nat) : Int) * 262144 + ((dz b : Nat) : Int) * 4096) 0 = (v : Int) := j2'.trans (by rw [Int.add_zero]; exact hE)
                have j3 : bits .or .u64 (v : Int) 0 = (v : Int) := by rw [← hE]; exact j2'.trans (Int.add_zero _)
                clear j2'
                have hvl : v < 16777216 := by omega
                obtain ⟨y0, e0⟩ : ∃ y, y = UInt8.ofNat (v / 65536) := ⟨_, rfl⟩
                obtain ⟨y1, e1⟩ : ∃ y, y = UInt8.ofNat (v / 256) := ⟨_, rfl⟩
                obtain ⟨y2, e2⟩ : ∃ y, y = UInt8.ofNat v := ⟨_, rfl⟩
                have f0 : IntKind.u8.wrap ((v : Int) / 65536) = (y0.toNat : Int) := by rw [IntKind.wrap_u8, e0, UInt8.toNat_ofNat']; omega
                have f1 : IntKind.u8.wrap ((v : Int) / 256) = (y1.toNat : Int) := by rw [IntKind.wrap_u8, e1, UInt8.toNat_ofNat']; omega
                have f2 : IntKind.u8.wrap (v : Int) = (y2.toNat : Int) := by rw [IntKind.wrap_u8, e2, UInt8.toNat_ofNat']; omega
                have HG : Hid (grpB (num4 a b c d) = [y0, y1, y2]) := Lib.hid (by rw [← hv, e0, e1, e2]; rfl)
                have hst : wr.cell? ⟨eb, 321, none⟩ = some (.bool false) := (HE.out.oth HO.out helt heb).strict rfl
                clear hv hE e0 e1 e2
                have hd0 := (Hid.out HDr).cell (o) (by omega)
                have fd0 := (Hid.out HDr).free (o)
                have hd1 := (Hid.out HDr).cell (o + 1) (by omega)
                have fd1 := (Hid.out HDr).free (o + 1)
                have hd2 := (Hid.out HDr).cell (o + 2) (by omega)
                have fd2 := (Hid.out HDr).free (o + 2)
                generalize X[o] = z0 at hd0
                generalize X[o + 1] = z1 at hd1
                generalize X[o + 2] = z2 at hd2
                clear hrr
                go_wp2
                go_loop [3] (fun x => x = .int .i64 ((si + 4 : Nat) : Int)) (fun _ => 0)
                case atStart => exact congrArg (Value.int .i64) (by omega)
                case round =>
                  subst hrel
                  go_wp2
                  go_ret3
                  refine QPost.bad 1 (X.set o y0) _ _ (Hid.out HK) (by omega) ?_ ?_ ?_
                  · refine Dst.set ?_ _ _
                    refine Dst.other ?_ hqd _ _
                    refine Dst.other ?_ hqd _ _
                    refine Dst.other ?_ hqd _ _
                    exact HDr.out.drewN _
                  · simp only [List.length_set]
                  · refine Oth.setd ?_ _ _
                    refine Oth.setq ?_ _ _
                    refine Oth.setq ?_ _ _
                    refine Oth.setq ?_ _ _
                    exact HO.out.drewN _
          · have hb3 : ((d.toNat : Int) != 61) = true := by rw [bne_iff_ne]; intro e; apply hd61; exact UInt8.toNat_inj.1 (by show _ = 61; omega)
            have HD61 := Lib.hid hd61
            clear hd61
            go_wp2
            go_loop [3] (fun x => x = .int .i64 ((si + 3 : Nat) : Int)) (fun _ => 0)
            case atStart => exact congrArg (Value.int .i64) (by omega)
            case round =>
              subst hrel
              go_wp2
              go_quiet (fail)
              go_wp2
              go_ret3
              exact QPost.bad 0 _ _ _ (kq_bad3 _ _ _ _ _ HV.out (fun h => HD61.out h.2.1)) (by omega) (HDr.out.drewN _) rfl (HO.out.drewN _)
        · have hb : ((c.toNat : Int) != 61) = true := by rw [bne_iff_ne]; intro e; apply h61; exact UInt8.toNat_inj.1 (by show _ = 61; omega)
          have H61 := Lib.hid h61
          clear h61
          go_wp2
          go_ret3
          exact QPost.bad 0 _ _ _ (kq_bad3 _ _ _ _ _ HV.out (fun h => H61.out h.1)) (by omega) HDr.out rfl HO.out
      · have HV := Lib.hid hv
        clear hv
        have hq0 : wr.cell? ⟨w.heap.size, 0, none⟩ = some (.int .u8 ((dz a : Nat) : Int)) := cell_row HQ.out 0 _ rfl
        have fq0 : wr.frozen? ⟨w.heap.size, 0, none⟩ = false := free_row HQ.out 0
        have hq1 : wr.cell? ⟨w.heap.size, 1, none⟩ = some (.int .u8 ((dz b : Nat) : Int)) := cell_row HQ.out 1 _ rfl
        have fq1 : wr.frozen? ⟨w.heap.size, 1, none⟩ = false := free_row HQ.out 1
        have hq2 : wr.cell? ⟨w.heap.size, 2, none⟩ = some (.int .u8 0) := cell_row HQ.out 2 _ rfl
        have fq2 : wr.frozen? ⟨w.heap.size, 2, none⟩ = false := free_row HQ.out 2
        have hq3 : wr.cell? ⟨w.heap.size, 3, none⟩ = some (.int .u8 0) := cell_row HQ.out 3 _ rfl
        have fq3 : wr.frozen? ⟨w.heap.size, 3, none⟩ = false := free_row HQ.out 3
        have hp : wr.cell? ⟨eb, 320, none⟩ = some (.int .i32 61) := (HE.out.oth HO.out helt heb).pad rfl
        have hs : wr.cell? ⟨sb, si + 2, none⟩ = some (.int .u8 (c.toNat : Int)) := by rw [HO.out.cell (p := ⟨sb, si + 2, none⟩) hsl hsb]; exact HI.out.s2
        have hdm : wr.cell? ⟨eb, 64 + c.toNat, none⟩ = some (.int .u8 ((dz c : Nat) : Int)) := by rw [(HE.out.oth HO.out helt heb).dm c, ← dz_good HV.out]
        have hx256 : (c.toNat : Int) < 256 := by have := c.toNat_lt; omega
        have hne : (((dz c : Nat) : Int) != 255) = true := by have := dz_lt c; rw [bne_iff_ne]; omega
        go_wp2
        go_roundw
        case rel => exact ⟨3, by go_num, by omega, by go_num, rfl, rfl, HGd.out.s2 HV.out, row_store HQ.out 2 _, (HDr.out).other hqd 2 _, HO.out.setq 2 _⟩
        case measure => simp [intOf]
    · -- letter 3
      have hlt : si + 4 ≤ S.length := by have := (Hid.out HI).len; omega
      by_cases hv : dmV d = 255
      · have HV := Lib.hid hv
        clear hv
        have hq0 : wr.cell? ⟨w.heap.size, 0, none⟩ = some (.int .u8 ((dz a : Nat) : Int)) := cell_row HQ.out 0 _ rfl
        have fq0 : wr.frozen? ⟨w.heap.size, 0, none⟩ = false := free_row HQ.out 0
        have hq1 : wr.cell? ⟨w.heap.size, 1, none⟩ = some (.int .u8 ((dz b : Nat) : Int)) := cell_row HQ.out 1 _ rfl
        have fq1 : wr.frozen? ⟨w.heap.size, 1, none⟩ = false := free_row HQ.out 1
        have hq2 : wr.cell? ⟨w.heap.size, 2, none⟩ = some (.int .u8 ((dz c : Nat) : Int)) := cell_row HQ.out 2 _ rfl
        have fq2 : wr.frozen? ⟨w.heap.size, 2, none⟩ = false := free_row HQ.out 2
        have hq3 : wr.cell? ⟨w.heap.size, 3, none⟩ = some (.int .u8 0) := cell_row HQ.out 3 _ rfl
        have fq3 : wr.frozen? ⟨w.heap.size, 3, none⟩ = false := free_row HQ.out 3
        have hp : wr.cell? ⟨eb, 320, none⟩ = some (.int .i32 61) := (HE.out.oth HO.out helt heb).pad rfl
        have hs : wr.cell? ⟨sb, si + 3, none⟩ = some (.int .u8 (d.toNat : Int)) := by rw [HO.out.cell (p := ⟨sb, si + 3, none⟩) hsl hsb]; exact HI.out.s3
        have hdm : wr.cell? ⟨eb, 64 + d.toNat, none⟩ = some (.int .u8 255) := by rw [(HE.out.oth HO.out helt heb).dm d, HV.out]; rfl
        have hx256 : (d.toNat : Int) < 256 := by have := d.toNat_lt; omega
        have h10 : ((d.toNat : Int) == 10) = false := HI.out.n3.1
        have h13 : ((d.toNat : Int) == 13) = false := HI.out.n3.2
        by_cases h61 : d = 61
        · have hb : ((d.toNat : Int) != 61) = false := by rw [h61]; rfl
          have H61 := Lib.hid h61
          clear h61
          have HVD := HV
          rcases hrr : r with _ | ⟨e, r'⟩
          · -- no more
            have HK : Hid (kq a b c d r = some 2) := Lib.hid (by rw [hrr]; exact kq_two HGd.out HV.out H61.out)
            have hlen : S.length = si + 4 := HI.out.len.trans (by rw [hrr]; rfl)
            have la := dz_lt a
            have lb := dz_lt b
            have lc := dz_lt c
            have ld := dz_lt d
            have j1 := join64 (((dz a : Nat) : Int) * 262144) (((dz b : Nat) : Int) * 4096) 18 (by omega) (by omega) (by omega) (by omega) (by omega) (by omega)
            have j2 := join64 (((dz a : Nat) : Int) * 262144 + ((dz b : Nat) : Int) * 4096) (((dz c : Nat) : Int) * 64) 12 (by omega) (by omega) (by omega) (by omega) (by omega) (by omega)
            have j3' := join64 (((dz a : Nat) : Int) * 262144 + ((dz b : Nat) : Int) * 4096 + ((dz c : Nat) : Int) * 64) 0 6 (by omega) (by omega) (by omega) (by omega) (by omega) (by omega)
            obtain ⟨v, hv⟩ : ∃ v, v = num4 a b c d := ⟨_, rfl⟩
            have hE : ((dz a : Nat) : Int) * 262144 + ((dz b : Nat) : Int) * 4096 + ((dz c : Nat) : Int) * 64 = (v : Int) := by have zd := dz_bad (Hid.out HVD); unfold num4 at hv; omega
            have j3 : bits .or .u64 (((dz a : Nat) : Int) * 262144 + ((dz b : Nat) : Int) * 4096 + ((dz c : Nat) : Int) * 64) 0 = (v : Int) := j3'.trans (by rw [Int.add_zero]; exact hE)
            clear j3'
            have hvl : v < 16777216 := by omega
            obtain ⟨y0, e0⟩ : ∃ y, y = UInt8.ofNat (v / 65536) := ⟨_, rfl⟩
            obtain ⟨y1, e1⟩ : ∃ y, y = UInt8.ofNat (v / 256) := ⟨_, rfl⟩
            obtain ⟨y2, e2⟩ : ∃ y, y = UInt8.ofNat v := ⟨_, rfl⟩
            have f0 : IntKind.u8.wrap ((v : Int) / 65536) = (y0.toNat : Int) := by rw [IntKind.wrap_u8, e0, UInt8.toNat_ofNat']; omega
            have f1 : IntKind.u8.wrap ((v : Int) / 256) = (y1.toNat : Int) := by rw [IntKind.wrap_u8, e1, UInt8.toNat_ofNat']; omega
            have f2 : IntKind.u8.wrap (v : Int) = (y2.toNat : Int) := by rw [IntKind.wrap_u8, e2, UInt8.toNat_ofNat']; omega
            have HG : Hid (grpB (num4 a b c d) = [y0, y1, y2]) := Lib.hid (by rw [← hv, e0, e1, e2]; rfl)
            have hst : wr.cell? ⟨eb, 321, none⟩ = some (.bool false) := (HE.out.oth HO.out helt heb).strict rfl
            clear hv hE e0 e1 e2
            have hd0 := (Hid.out HDr).cell (o) (by omega)
            have fd0 := (Hid.out HDr).free (o)
            have hd1 := (Hid.out HDr).cell (o + 1) (by omega)
            have fd1 := (Hid.out HDr).free (o + 1)
            have hd2 := (Hid.out HDr).cell (o + 2) (by omega)
            have fd2 := (Hid.out HDr).free (o + 2)
            generalize X[o] = z0 at hd0
            generalize X[o + 1] = z1 at hd1
            generalize X[o + 2] = z2 at hd2
            clear hrr
            go_wp2
            go_loop [3] (fun x => x = .int .i64 ((si + 4 : Nat) : Int)) (fun _ => 0)
            case atStart => exact congrArg (Value.int .i64) (by omega)
            case round =>
              subst hrel
              go_wp2
              go_ret3
              refine QPost.ok 2 ((X.set (o + 1) y1).set o y0) (Hid.out HK) ?_ ?_ ?_ ?_
              · refine Dst.set ?_ _ _
                refine Dst.other ?_ hqd _ _
                refine Dst.set ?_ _ _
                refine Dst.other ?_ hqd _ _
                refine Dst.other ?_ hqd _ _
                refine Dst.other ?_ hqd _ _
                exact HDr.out
              · simp only [List.length_set]
              · rw [HG.out]; exact set2 X o y0 y1 (by omega)
              · refine Oth.setd ?_ _ _
                refine Oth.setq ?_ _ _
                refine Oth.setd ?_ _ _
                refine Oth.setq ?_ _ _
                refine Oth.setq ?_ _ _
                refine Oth.setq ?_ _ _
                exact HO.out
          · -- more follows
            have HK : Hid (kq a b c d r = none) := Lib.hid (kq_bad4 _ _ _ _ _ HV.out (fun h => absurd h (HGd.out.g2 (by omega))) (fun h => by rw [hrr] at h; exact absurd h.2 (by simp)))
            have hs4 : wr.cell? ⟨sb, si + 4, none⟩ = some (.int .u8 (e.toNat : Int)) := by rw [HO.out.cell (p := ⟨sb, si + 4, none⟩) hsl hsb]; exact (Hid.out HI).s4 e r' hrr
            have he10 : ((e.toNat : Int) == 10) = false := (HI.out.ne e r' hrr).1
            have he13 : ((e.toNat : Int) == 13) = false := (HI.out.ne e r' hrr).2
            have hlen : si + 4 < S.length := by have := (Hid.out HI).len; rw [hrr, List.length_cons] at this; omega
            have la := dz_lt a
            have lb := dz_lt b
            have lc := dz_lt c
            have ld := dz_lt d
            have j1 := join64 (((dz a : Nat) : Int) * 262144) (((dz b : Nat) : Int) * 4096) 18 (by omega) (by omega) (by omega) (by omega) (by omega) (by omega)
            have j2 := join64 (((dz a : Nat) : Int) * 262144 + ((dz b : Nat) : Int) * 4096) (((dz c : Nat) : Int) * 64) 12 (by omega) (by omega) (by omega) (by omega) (by omega) (by omega)
            have j3' := join64 (((dz a : Nat) : Int) * 262144 + ((dz b : Nat) : Int) * 4096 + ((dz c : Nat) : Int) * 64) 0 6 (by omega) (by omega) (by omega) (by omega) (by omega) (by omega)
            obtain ⟨v, hv⟩ : ∃ v, v = num4 a b c d := ⟨_, rfl⟩
            have hE : ((dz a : Nat) : Int) * 262144 + ((dz b : Nat) : Int) * 4096 + ((dz c : Nat) : Int) * 64 = (v : Int) := by have zd := dz_bad (Hid.out HVD); unfold num4 at hv; omega
            have j3 : bits .or .u64 (((dz a : Nat) : Int) * 262144 + ((dz b : Nat) : Int) * 4096 + ((dz c : Nat) : Int) * 64) 0 = (v : Int) := j3'.trans (by rw [Int.add_zero]; exact hE)
            clear j3'
            have hvl : v < 16777216 := by omega
            obtain ⟨y0, e0⟩ : ∃ y, y = UInt8.ofNat (v / 65536) := ⟨_, rfl⟩
            obtain ⟨y1, e1⟩ : ∃ y, y = UInt8.ofNat (v / 256) := ⟨_, rfl⟩
            obtain ⟨y2, e2⟩ : ∃ y, y = UInt8.ofNat v := ⟨_, rfl⟩
            have f0 : IntKind.u8.wrap ((v : Int) / 65536) = (y0.toNat : Int) := by rw [IntKind.wrap_u8, e0, UInt8.toNat_ofNat']; omega
            have f1 : IntKind.u8.wrap ((v : Int) / 256) = (y1.toNat : Int) := by rw [IntKind.wrap_u8, e1, UInt8.toNat_ofNat']; omega
            have f2 : IntKind.u8.wrap (v : Int) = (y2.toNat : Int) := by rw [IntKind.wrap_u8, e2, UInt8.toNat_ofNat']; omega
            have HG : Hid (grpB (num4 a b c d) = [y0, y1, y2]) := Lib.hid (by rw [← hv, e0, e1, e2]; rfl)
            have hst : wr.cell? ⟨eb, 321, none⟩ = some (.bool false) := (HE.out.oth HO.out helt heb).strict rfl
            clear hv hE e0 e1 e2
            have hd0 := (Hid.out HDr).cell (o) (by omega)
            have fd0 := (Hid.out HDr).free (o)
            have hd1 := (Hid.out HDr).cell (o + 1) (by omega)
            have fd1 := (Hid.out HDr).free (o + 1)
            have hd2 := (Hid.out HDr).cell (o + 2) (by omega)
            have fd2 := (Hid.out HDr).free (o + 2)
            generalize X[o] = z0 at hd0
            generalize X[o + 1] = z1 at hd1
            generalize X[o + 2] = z2 at hd2
            clear hrr
            go_wp2
            go_loop [3] (fun x => x = .int .i64 ((si + 4 : Nat) : Int)) (fun _ => 0)
            case atStart => exact congrArg (Value.int .i64) (by omega)
            case round =>
              subst hrel
              go_wp2
              go_ret3
              refine QPost.bad 2 ((X.set (o + 1) y1).set o y0) _ _ (Hid.out HK) (by omega) ?_ ?_ ?_
              · refine Dst.set ?_ _ _
                refine Dst.other ?_ hqd _ _
                refine Dst.set ?_ _ _
                refine Dst.other ?_ hqd _ _
                refine Dst.other ?_ hqd _ _
                refine Dst.other ?_ hqd _ _
                exact HDr.out
              · simp only [List.length_set]
              · refine Oth.setd ?_ _ _
                refine Oth.setq ?_ _ _
                refine Oth.setd ?_ _ _
                refine Oth.setq ?_ _ _
                refine Oth.setq ?_ _ _
                refine Oth.setq ?_ _ _
                exact HO.out
        · have hb : ((d.toNat : Int) != 61) = true := by rw [bne_iff_ne]; intro e; apply h61; exact UInt8.toNat_inj.1 (by show _ = 61; omega)
          have H61 := Lib.hid h61
          clear h61
          go_wp2
          go_ret3
          exact QPost.bad 0 _ _ _ (kq_bad4 _ _ _ _ _ HV.out (fun h => absurd h (HGd.out.g2 (by omega))) (fun h => H61.out h.1)) (by omega) HDr.out rfl HO.out
      · have HV := Lib.hid hv
        clear hv
        have hq0 : wr.cell? ⟨w.heap.size, 0, none⟩ = some (.int .u8 ((dz a : Nat) : Int)) := cell_row HQ.out 0 _ rfl
        have fq0 : wr.frozen? ⟨w.heap.size, 0, none⟩ = false := free_row HQ.out 0
        have hq1 : wr.cell? ⟨w.heap.size, 1, none⟩ = some (.int .u8 ((dz b : Nat) : Int)) := cell_row HQ.out 1 _ rfl
        have fq1 : wr.frozen? ⟨w.heap.size, 1, none⟩ = false := free_row HQ.out 1
        have hq2 : wr.cell? ⟨w.heap.size, 2, none⟩ = some (.int .u8 ((dz c : Nat) : Int)) := cell_row HQ.out 2 _ rfl
        have fq2 : wr.frozen? ⟨w.heap.size, 2, none⟩ = false := free_row HQ.out 2
        have hq3 : wr.cell? ⟨w.heap.size, 3, none⟩ = some (.int .u8 0) := cell_row HQ.out 3 _ rfl
        have fq3 : wr.frozen? ⟨w.heap.size, 3, none⟩ = false := free_row HQ.out 3
        have hp : wr.cell? ⟨eb, 320, none⟩ = some (.int .i32 61) := (HE.out.oth HO.out helt heb).pad rfl
        have hs : wr.cell? ⟨sb, si + 3, none⟩ = some (.int .u8 (d.toNat : Int)) := by rw [HO.out.cell (p := ⟨sb, si + 3, none⟩) hsl hsb]; exact HI.out.s3
        have hdm : wr.cell? ⟨eb, 64 + d.toNat, none⟩ = some (.int .u8 ((dz d : Nat) : Int)) := by rw [(HE.out.oth HO.out helt heb).dm d, ← dz_good HV.out]
        have hx256 : (d.toNat : Int) < 256 := by have := d.toNat_lt; omega
        have hne : (((dz d : Nat) : Int) != 255) = true := by have := dz_lt d; rw [bne_iff_ne]; omega
        go_wp2
        go_roundw
        case rel => exact ⟨4, by go_num, by omega, by go_num, rfl, rfl, HGd.out.s3 HV.out, row_store HQ.out 3 _, (HDr.out).other hqd 3 _, HO.out.setq 3 _⟩
        case measure => simp [intOf]
    · -- letter 4
      have HDr := HDr
      have HK := Lib.hid (show kq a b c d r = some 3 from kq_three HGd.out)
      have hq0 : wr.cell? ⟨w.heap.size, 0, none⟩ = some (.int .u8 ((dz a : Nat) : Int)) := cell_row HQ.out 0 _ rfl
      have fq0 : wr.frozen? ⟨w.heap.size, 0, none⟩ = false := free_row HQ.out 0
      have hq1 : wr.cell? ⟨w.heap.size, 1, none⟩ = some (.int .u8 ((dz b : Nat) : Int)) := cell_row HQ.out 1 _ rfl
      have fq1 : wr.frozen? ⟨w.heap.size, 1, none⟩ = false := free_row HQ.out 1
      have hq2 : wr.cell? ⟨w.heap.size, 2, none⟩ = some (.int .u8 ((dz c : Nat) : Int)) := cell_row HQ.out 2 _ rfl
      have fq2 : wr.frozen? ⟨w.heap.size, 2, none⟩ = false := free_row HQ.out 2
      have hq3 : wr.cell? ⟨w.heap.size, 3, none⟩ = some (.int .u8 ((dz d : Nat) : Int)) := cell_row HQ.out 3 _ rfl
      have fq3 : wr.frozen? ⟨w.heap.size, 3, none⟩ = false := free_row HQ.out 3
      have hp : wr.cell? ⟨eb, 320, none⟩ = some (.int .i32 61) := (HE.out.oth HO.out helt heb).pad rfl
      have la := dz_lt a
      have lb := dz_lt b
      have lc := dz_lt c
      have ld := dz_lt d
      have j1 := join64 (((dz a : Nat) : Int) * 262144) (((dz b : Nat) : Int) * 4096) 18 (by omega) (by omega) (by omega) (by omega) (by omega) (by omega)
      have j2 := join64 (((dz a : Nat) : Int) * 262144 + ((dz b : Nat) : Int) * 4096) (((dz c : Nat) : Int) * 64) 12 (by omega) (by omega) (by omega) (by omega) (by omega) (by omega)
      have j3 := join64 (((dz a : Nat) : Int) * 262144 + ((dz b : Nat) : Int) * 4096 + ((dz c : Nat) : Int) * 64) (((dz d : Nat) : Int)) 6 (by omega) (by omega) (by omega) (by omega) (by omega) (by omega)
      obtain ⟨v, hv⟩ : ∃ v, v = num4 a b c d := ⟨_, rfl⟩
      have hE : ((dz a : Nat) : Int) * 262144 + ((dz b : Nat) : Int) * 4096 + ((dz c : Nat) : Int) * 64 + ((dz d : Nat) : Int) = (v : Int) := by skip; unfold num4 at hv; omega
      rw [hE] at j3
      have hvl : v < 16777216 := by omega
      obtain ⟨y0, e0⟩ : ∃ y, y = UInt8.ofNat (v / 65536) := ⟨_, rfl⟩
      obtain ⟨y1, e1⟩ : ∃ y, y = UInt8.ofNat (v / 256) := ⟨_, rfl⟩
      obtain ⟨y2, e2⟩ : ∃ y, y = UInt8.ofNat v := ⟨_, rfl⟩
      have f0 : IntKind.u8.wrap ((v : Int) / 65536) = (y0.toNat : Int) := by rw [IntKind.wrap_u8, e0, UInt8.toNat_ofNat']; omega
      have f1 : IntKind.u8.wrap ((v : Int) / 256) = (y1.toNat : Int) := by rw [IntKind.wrap_u8, e1, UInt8.toNat_ofNat']; omega
      have f2 : IntKind.u8.wrap (v : Int) = (y2.toNat : Int) := by rw [IntKind.wrap_u8, e2, UInt8.toNat_ofNat']; omega
      have HG : Hid (grpB (num4 a b c d) = [y0, y1, y2]) := Lib.hid (by rw [← hv, e0, e1, e2]; rfl)
      have hst : wr.cell? ⟨eb, 321, none⟩ = some (.bool false) := (HE.out.oth HO.out helt heb).strict rfl
      clear hv hE e0 e1 e2
      have hd0 := (Hid.out HDr).cell (o) (by omega)
      have fd0 := (Hid.out HDr).free (o)
      have hd1 := (Hid.out HDr).cell (o + 1) (by omega)
      have fd1 := (Hid.out HDr).free (o + 1)
      have hd2 := (Hid.out HDr).cell (o + 2) (by omega)
      have fd2 := (Hid.out HDr).free (o + 2)
      generalize X[o] = z0 at hd0
      generalize X[o + 1] = z1 at hd1
      generalize X[o + 2] = z2 at hd2
      go_wp2
      go_ret3
      refine QPost.ok 3 (((X.set (o + 2) y2).set (o + 1) y1).set o y0) (Hid.out HK) ?_ ?_ ?_ ?_
      · refine Dst.set ?_ _ _
        refine Dst.other ?_ hqd _ _
        refine Dst.set ?_ _ _
        refine Dst.other ?_ hqd _ _
        refine Dst.set ?_ _ _
        refine Dst.other ?_ hqd _ _
        refine Dst.other ?_ hqd _ _
        refine Dst.other ?_ hqd _ _
        exact HDr.out
      · simp only [List.length_set]
      · rw [HG.out]; exact set3 X o y0 y1 y2 (by omega)
      · refine Oth.setd ?_ _ _
        refine Oth.setq ?_ _ _
        refine Oth.setd ?_ _ _
        refine Oth.setq ?_ _ _
        refine Oth.setd ?_ _ _
        refine Oth.setq ?_ _ _
        refine Oth.setq ?_ _ _
        refine Oth.setq ?_ _ _
        exact HO.out

end Go.Proofs.YtinmmchjfifcgaaGreatDoor

