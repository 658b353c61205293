/- The small functions of base64 decoding: assemble32, assemble64, BEPutUint32, BEPutUint64; a frame that keeps all but one block. -/
import Derived.Test.YtinmmchjfifcgaaGreatDoorDec64
import Derived.Lib.ConvBytes
namespace Go.Proofs.YtinmmchjfifcgaaGreatDoor
open Go.RowKit
set_option maxRecDepth 100000

/-- Nothing has turned below B but block db; db and what lies above may have. -/
structure Oth (B db : Nat) (w w' : World) : Prop where
  bel : Below 0 w w'
  oth : ∀ b, b < B → b ≠ db → w'.heap[b]? = w.heap[b]?
theorem Oth.refl (B db : Nat) (w : World) : Oth B db w w := ⟨Below.refl _ _, fun _ _ _ => rfl⟩
theorem Oth.trans {B B' db : Nat} {a b c : World} (h : Oth B db a b) (k : Oth B' db b c) (hB : B ≤ B') : Oth B db a c := ⟨h.bel.trans k.bel, fun i h1 h2 => (k.oth i (by omega) h2).trans (h.oth i h1 h2)⟩
theorem Oth.size {B db : Nat} {a b : World} (h : Oth B db a b) : a.heap.size ≤ b.heap.size := h.bel.size
theorem Oth.alloc {B db : Nat} {a b : World} (h : Oth B db a b) (hB : B ≤ b.heap.size) (o : Obj) : Oth B db a (b.alloc o) := ⟨h.bel.alloc (Nat.zero_le _) o, fun i h1 h2 => by rw [Below.heap_alloc _ _ _ (by omega)]; exact h.oth i h1 h2⟩
theorem Oth.set {B db : Nat} {a b : World} (h : Oth B db a b) {p : Addr} (hp : p.block = db ∨ B ≤ p.block) (v : Value) : Oth B db a (b.setCell p v) := ⟨h.bel.setCell (Nat.zero_le _) v, fun i h1 h2 => by rw [Below.heap_setCell _ _ _ _ (by rcases hp with h | h <;> omega)]; exact h.oth i h1 h2⟩
theorem Oth.setd {B db : Nat} {a b : World} (h : Oth B db a b) (o : Nat) (v : Value) : Oth B db a (b.setCell ⟨db, o, none⟩ v) := h.set (.inl rfl) v
theorem Oth.drewN {B db : Nat} {a b : World} (h : Oth B db a b) (n : Nat) : Oth B db a (b.drewN n) := ⟨h.bel.trans ⟨rfl, rfl, rfl, Nat.le_refl _, fun _ _ => rfl⟩, h.oth⟩
theorem Oth.below {B db : Nat} {a b : World} (h : Oth B db a b) (hB : db ≤ B) : Below db a b := ⟨h.bel.os, h.bel.tape, h.bel.output, h.bel.size, fun i hi => h.oth i (by omega) (by omega)⟩
theorem Oth.cell {B db : Nat} {a b : World} (h : Oth B db a b) {p : Addr} (h1 : p.block < B) (h2 : p.block ≠ db) : b.cell? p = a.cell? p := World.cell?_of_block (w := a) (h.oth p.block h1 h2)

/-- A row of bytes lies whole in block db. -/
structure Dst (db : Nat) (X : List UInt8) (w : World) : Prop where
  row : w.heap[db]? = some (.cells (Lib.byteCells X).toArray 5 (0, 0))
theorem Dst.cell {db : Nat} {X : List UInt8} {w : World} (h : Dst db X w) (o : Nat) (ho : o < X.length) : w.cell? ⟨db, o, none⟩ = some (.int .u8 (X[o].toNat : Int)) := by
  have h := h.row
  unfold World.cell?
  simp only [h]
  simp [Lib.byteCells, ho]
theorem Dst.free {db : Nat} {X : List UInt8} {w : World} (h : Dst db X w) (o : Nat) : w.frozen? ⟨db, o, none⟩ = false := by
  have h := h.row
  unfold World.frozen?
  simp [h]
theorem Dst.set {db : Nat} {X : List UInt8} {w : World} (h : Dst db X w) (o : Nat) (x : UInt8) : Dst db (X.set o x) (w.setCell ⟨db, o, none⟩ (.int .u8 (x.toNat : Int))) := by
  refine ⟨?_⟩
  rw [Lib.heap_setCell_same h.row]
  congr 2
  apply Array.ext'
  simp [Lib.byteCells, List.map_set]
theorem Dst.lt {db : Nat} {X : List UInt8} {w : World} (h : Dst db X w) : db < w.heap.size := lt_of_block h.row

/-- Two numbers that are below 64 or 255, joined. -/
structure Or8 (a b m : Nat) : Prop where
  eq : bits .or .u8 (a : Int) (b : Int) = (m : Int)
  lt : m < 256
  small : a < 64 → b < 64 → m < 64
  big : a = 255 ∨ b = 255 → m = 255
theorem or8 (a b : Nat) (ha : a < 256) (hb : b < 256) : ∃ m, Or8 a b m := by
  refine ⟨a ||| b, (bits_nat .u8 8 (by decide) wraps_u8 a b ha hb).2, Nat.or_lt_two_pow (n := 8) ha hb, fun h1 h2 => Nat.or_lt_two_pow (n := 6) h1 h2, fun h => ?_⟩
  have h1 : ∀ x : Fin 256, 255 ||| x.val = 255 ∧ x.val ||| 255 = 255 := by decide +kernel
  rcases h with rfl | rfl
  · exact (h1 ⟨b, hb⟩).1
  · exact (h1 ⟨a, ha⟩).2

theorem wraps_u32 (n : Int) (h₀ : 0 ≤ n) (h₁ : n < 2 ^ 32) : IntKind.u32.wrap n = n := by rw [IntKind.wrap_u32]; omega
theorem join32 (x y : Int) (i : Nat) (h0 : 0 ≤ x) (hx : x % 2 ^ i = 0) (hx1 : x < 4294967296) (hy0 : 0 ≤ y) (hy : y < 2 ^ i) (hy1 : y < 4294967296) : bits .or .u32 x y = x + y :=
  bits_join .u32 32 (by decide) wraps_u32 i _ _ h0 hx hx1 hy0 hy hy1

theorem wraps_u64w (n : Int) (h₀ : 0 ≤ n) (h₁ : n < 2 ^ 64) : IntKind.u64.wrap n = n := by rw [IntKind.wrap_u64]; omega
theorem join64 (x y : Int) (i : Nat) (h0 : 0 ≤ x) (hx : x % 2 ^ i = 0) (hx1 : x < 18446744073709551616) (hy0 : 0 ≤ y) (hy : y < 2 ^ i) (hy1 : y < 18446744073709551616) : bits .or .u64 x y = x + y :=
  bits_join .u64 64 (by decide) wraps_u64w i _ _ h0 hx hx1 hy0 hy hy1

set_option maxHeartbeats 1000000 in
theorem assemble32_yes (n0 n1 n2 n3 : Nat) (w : World) (h0 : n0 < 64) (h1 : n1 < 64) (h2 : n2 < 64) (h3 : n3 < 64) :
    Calls Tryz.prog 117 #[.int .u8 (n0 : Int), .int .u8 (n1 : Int), .int .u8 (n2 : Int), .int .u8 (n3 : Int)] w fun e w' => e = .returned (.tuple #[.int .u32 ((n0 : Int) * 67108864 + (n1 : Int) * 1048576 + (n2 : Int) * 16384 + (n3 : Int) * 256), .bool true]) ∧ w = w' := by
  obtain ⟨m1, o1⟩ := or8 n0 n1 (by omega) (by omega)
  obtain ⟨m2, o2⟩ := or8 m1 n2 o1.lt (by omega)
  obtain ⟨m3, o3⟩ := or8 m2 n3 o2.lt (by omega)
  have hm : m3 < 64 := (o3.small (o2.small (o1.small h0 h1) h2) h3)
  have e1 := o1.eq
  have e2 := o2.eq
  have e3 := o3.eq
  have hq : ((m3 : Int) == 255) = false := by rw [beq_eq_false_iff_ne]; omega
  have j1 := join32 ((n0 : Int) * 67108864) ((n1 : Int) * 1048576) 26 (by omega) (by omega) (by omega) (by omega) (by omega) (by omega)
  have j2 := join32 ((n0 : Int) * 67108864 + (n1 : Int) * 1048576) ((n2 : Int) * 16384) 20 (by omega) (by omega) (by omega) (by omega) (by omega) (by omega)
  have j3 := join32 ((n0 : Int) * 67108864 + (n1 : Int) * 1048576 + (n2 : Int) * 16384) ((n3 : Int) * 256) 14 (by omega) (by omega) (by omega) (by omega) (by omega) (by omega)
  clear o1 o2 o3 hm
  go_enter Tryz.func117, Tryz.ntmps117
  go_wp2
  go_ret2
  exact ⟨rfl, rfl⟩

set_option maxHeartbeats 1000000 in
theorem assemble32_no (n0 n1 n2 n3 : Nat) (w : World) (h0 : n0 < 256) (h1 : n1 < 256) (h2 : n2 < 256) (h3 : n3 < 256) (hb : n0 = 255 ∨ n1 = 255 ∨ n2 = 255 ∨ n3 = 255) :
    Calls Tryz.prog 117 #[.int .u8 (n0 : Int), .int .u8 (n1 : Int), .int .u8 (n2 : Int), .int .u8 (n3 : Int)] w fun e w' => e = .returned (.tuple #[.int .u32 0, .bool false]) ∧ w = w' := by
  obtain ⟨m1, o1⟩ := or8 n0 n1 h0 h1
  obtain ⟨m2, o2⟩ := or8 m1 n2 o1.lt h2
  obtain ⟨m3, o3⟩ := or8 m2 n3 o2.lt h3
  have hm : m3 = 255 := by
    have b1 := o1.big
    have b2 := o2.big
    have b3 := o3.big
    omega
  have e1 := o1.eq
  have e2 := o2.eq
  have e3 := o3.eq
  have hq : ((m3 : Int) == 255) = true := by rw [beq_iff_eq]; omega
  clear o1 o2 o3 hm hb
  go_enter Tryz.func117, Tryz.ntmps117
  go_wp2
  go_ret2
  exact ⟨rfl, rfl⟩

set_option maxHeartbeats 1000000 in
theorem assemble64_yes (n0 n1 n2 n3 n4 n5 n6 n7 : Nat) (w : World) (h0 : n0 < 64) (h1 : n1 < 64) (h2 : n2 < 64) (h3 : n3 < 64) (h4 : n4 < 64) (h5 : n5 < 64) (h6 : n6 < 64) (h7 : n7 < 64) :
    Calls Tryz.prog 114 #[.int .u8 (n0 : Int), .int .u8 (n1 : Int), .int .u8 (n2 : Int), .int .u8 (n3 : Int), .int .u8 (n4 : Int), .int .u8 (n5 : Int), .int .u8 (n6 : Int), .int .u8 (n7 : Int)] w fun e w' => e = .returned (.tuple #[.int .u64 ((n0 : Int) * 288230376151711744 + (n1 : Int) * 4503599627370496 + (n2 : Int) * 70368744177664 + (n3 : Int) * 1099511627776 + (n4 : Int) * 17179869184 + (n5 : Int) * 268435456 + (n6 : Int) * 4194304 + (n7 : Int) * 65536), .bool true]) ∧ w = w' := by
  obtain ⟨m1, o1⟩ := or8 n0 n1 (by omega) (by omega)
  obtain ⟨m2, o2⟩ := or8 m1 n2 o1.lt (by omega)
  obtain ⟨m3, o3⟩ := or8 m2 n3 o2.lt (by omega)
  obtain ⟨m4, o4⟩ := or8 m3 n4 o3.lt (by omega)
  obtain ⟨m5, o5⟩ := or8 m4 n5 o4.lt (by omega)
  obtain ⟨m6, o6⟩ := or8 m5 n6 o5.lt (by omega)
  obtain ⟨m7, o7⟩ := or8 m6 n7 o6.lt (by omega)
  have hm : m7 < 64 := (o7.small (o6.small (o5.small (o4.small (o3.small (o2.small (o1.small h0 h1) h2) h3) h4) h5) h6) h7)
  have e1 := o1.eq
  have e2 := o2.eq
  have e3 := o3.eq
  have e4 := o4.eq
  have e5 := o5.eq
  have e6 := o6.eq
  have e7 := o7.eq
  have hq : ((m7 : Int) == 255) = false := by rw [beq_eq_false_iff_ne]; omega
  have j1 := join64 ((n0 : Int) * 288230376151711744) ((n1 : Int) * 4503599627370496) 58 (by omega) (by omega) (by omega) (by omega) (by omega) (by omega)
  have j2 := join64 ((n0 : Int) * 288230376151711744 + (n1 : Int) * 4503599627370496) ((n2 : Int) * 70368744177664) 52 (by omega) (by omega) (by omega) (by omega) (by omega) (by omega)
  have j3 := join64 ((n0 : Int) * 288230376151711744 + (n1 : Int) * 4503599627370496 + (n2 : Int) * 70368744177664) ((n3 : Int) * 1099511627776) 46 (by omega) (by omega) (by omega) (by omega) (by omega) (by omega)
  have j4 := join64 ((n0 : Int) * 288230376151711744 + (n1 : Int) * 4503599627370496 + (n2 : Int) * 70368744177664 + (n3 : Int) * 1099511627776) ((n4 : Int) * 17179869184) 40 (by omega) (by omega) (by omega) (by omega) (by omega) (by omega)
  have j5 := join64 ((n0 : Int) * 288230376151711744 + (n1 : Int) * 4503599627370496 + (n2 : Int) * 70368744177664 + (n3 : Int) * 1099511627776 + (n4 : Int) * 17179869184) ((n5 : Int) * 268435456) 34 (by omega) (by omega) (by omega) (by omega) (by omega) (by omega)
  have j6 := join64 ((n0 : Int) * 288230376151711744 + (n1 : Int) * 4503599627370496 + (n2 : Int) * 70368744177664 + (n3 : Int) * 1099511627776 + (n4 : Int) * 17179869184 + (n5 : Int) * 268435456) ((n6 : Int) * 4194304) 28 (by omega) (by omega) (by omega) (by omega) (by omega) (by omega)
  have j7 := join64 ((n0 : Int) * 288230376151711744 + (n1 : Int) * 4503599627370496 + (n2 : Int) * 70368744177664 + (n3 : Int) * 1099511627776 + (n4 : Int) * 17179869184 + (n5 : Int) * 268435456 + (n6 : Int) * 4194304) ((n7 : Int) * 65536) 22 (by omega) (by omega) (by omega) (by omega) (by omega) (by omega)
  clear o1 o2 o3 o4 o5 o6 o7 hm
  go_enter Tryz.func114, Tryz.ntmps114
  go_wp2
  go_ret2
  exact ⟨rfl, rfl⟩

set_option maxHeartbeats 1000000 in
theorem assemble64_no (n0 n1 n2 n3 n4 n5 n6 n7 : Nat) (w : World) (h0 : n0 < 256) (h1 : n1 < 256) (h2 : n2 < 256) (h3 : n3 < 256) (h4 : n4 < 256) (h5 : n5 < 256) (h6 : n6 < 256) (h7 : n7 < 256) (hb : n0 = 255 ∨ n1 = 255 ∨ n2 = 255 ∨ n3 = 255 ∨ n4 = 255 ∨ n5 = 255 ∨ n6 = 255 ∨ n7 = 255) :
    Calls Tryz.prog 114 #[.int .u8 (n0 : Int), .int .u8 (n1 : Int), .int .u8 (n2 : Int), .int .u8 (n3 : Int), .int .u8 (n4 : Int), .int .u8 (n5 : Int), .int .u8 (n6 : Int), .int .u8 (n7 : Int)] w fun e w' => e = .returned (.tuple #[.int .u64 0, .bool false]) ∧ w = w' := by
  obtain ⟨m1, o1⟩ := or8 n0 n1 h0 h1
  obtain ⟨m2, o2⟩ := or8 m1 n2 o1.lt h2
  obtain ⟨m3, o3⟩ := or8 m2 n3 o2.lt h3
  obtain ⟨m4, o4⟩ := or8 m3 n4 o3.lt h4
  obtain ⟨m5, o5⟩ := or8 m4 n5 o4.lt h5
  obtain ⟨m6, o6⟩ := or8 m5 n6 o5.lt h6
  obtain ⟨m7, o7⟩ := or8 m6 n7 o6.lt h7
  have hm : m7 = 255 := by
    have b1 := o1.big
    have b2 := o2.big
    have b3 := o3.big
    have b4 := o4.big
    have b5 := o5.big
    have b6 := o6.big
    have b7 := o7.big
    omega
  have e1 := o1.eq
  have e2 := o2.eq
  have e3 := o3.eq
  have e4 := o4.eq
  have e5 := o5.eq
  have e6 := o6.eq
  have e7 := o7.eq
  have hq : ((m7 : Int) == 255) = true := by rw [beq_iff_eq]; omega
  clear o1 o2 o3 o4 o5 o6 o7 hm hb
  go_enter Tryz.func114, Tryz.ntmps114
  go_wp2
  go_ret2
  exact ⟨rfl, rfl⟩

set_option maxHeartbeats 1000000 in
theorem put32_any (db o m mc : Nat) (X : List UInt8) (v : Int) (x0 x1 x2 x3 : UInt8) (w : World) (hD : Dst db X w) (hm : 4 ≤ m) (hx : o + m ≤ X.length) (f0 : IntKind.u8.wrap (v / 16777216) = (x0.toNat : Int)) (f1 : IntKind.u8.wrap (v / 65536) = (x1.toNat : Int)) (f2 : IntKind.u8.wrap (v / 256) = (x2.toNat : Int)) (f3 : IntKind.u8.wrap (v) = (x3.toNat : Int)) :
    Calls Tryz.prog 118 #[.slice (some ⟨db, o, none⟩) m mc, .int .u32 v] w fun e w' => e = .returned (.tuple #[]) ∧ Dst db ((((X.set o x0).set (o + 1) x1).set (o + 2) x2).set (o + 3) x3) w' ∧ Oth w.heap.size db w w' := by
  have c0 := hD.cell o (by omega)
  have r0 := hD.free o
  have c1 := hD.cell (o + 1) (by omega)
  have r1 := hD.free (o + 1)
  have c2 := hD.cell (o + 2) (by omega)
  have r2 := hD.free (o + 2)
  have c3 := hD.cell (o + 3) (by omega)
  have r3 := hD.free (o + 3)
  generalize X[o] = y0 at c0
  generalize X[o + 1] = y1 at c1
  generalize X[o + 2] = y2 at c2
  generalize X[o + 3] = y3 at c3
  have HD := Lib.hid hD
  clear hD hx
  go_enter Tryz.func118, Tryz.ntmps118
  go_wp2
  go_end0
  refine ⟨rfl, ((((HD.out.set o x0).set (o + 1) x1).set (o + 2) x2).set (o + 3) x3), ?_⟩
  repeat refine Oth.setd ?_ _ _
  exact Oth.refl _ _ _

set_option maxHeartbeats 1000000 in
theorem put64_any (db o m mc : Nat) (X : List UInt8) (v : Int) (x0 x1 x2 x3 x4 x5 x6 x7 : UInt8) (w : World) (hD : Dst db X w) (hm : 8 ≤ m) (hx : o + m ≤ X.length) (f0 : IntKind.u8.wrap (v / 72057594037927936) = (x0.toNat : Int)) (f1 : IntKind.u8.wrap (v / 281474976710656) = (x1.toNat : Int)) (f2 : IntKind.u8.wrap (v / 1099511627776) = (x2.toNat : Int)) (f3 : IntKind.u8.wrap (v / 4294967296) = (x3.toNat : Int)) (f4 : IntKind.u8.wrap (v / 16777216) = (x4.toNat : Int)) (f5 : IntKind.u8.wrap (v / 65536) = (x5.toNat : Int)) (f6 : IntKind.u8.wrap (v / 256) = (x6.toNat : Int)) (f7 : IntKind.u8.wrap (v) = (x7.toNat : Int)) :
    Calls Tryz.prog 115 #[.slice (some ⟨db, o, none⟩) m mc, .int .u64 v] w fun e w' => e = .returned (.tuple #[]) ∧ Dst db ((((((((X.set o x0).set (o + 1) x1).set (o + 2) x2).set (o + 3) x3).set (o + 4) x4).set (o + 5) x5).set (o + 6) x6).set (o + 7) x7) w' ∧ Oth w.heap.size db w w' := by
  have c0 := hD.cell o (by omega)
  have r0 := hD.free o
  have c1 := hD.cell (o + 1) (by omega)
  have r1 := hD.free (o + 1)
  have c2 := hD.cell (o + 2) (by omega)
  have r2 := hD.free (o + 2)
  have c3 := hD.cell (o + 3) (by omega)
  have r3 := hD.free (o + 3)
  have c4 := hD.cell (o + 4) (by omega)
  have r4 := hD.free (o + 4)
  have c5 := hD.cell (o + 5) (by omega)
  have r5 := hD.free (o + 5)
  have c6 := hD.cell (o + 6) (by omega)
  have r6 := hD.free (o + 6)
  have c7 := hD.cell (o + 7) (by omega)
  have r7 := hD.free (o + 7)
  generalize X[o] = y0 at c0
  generalize X[o + 1] = y1 at c1
  generalize X[o + 2] = y2 at c2
  generalize X[o + 3] = y3 at c3
  generalize X[o + 4] = y4 at c4
  generalize X[o + 5] = y5 at c5
  generalize X[o + 6] = y6 at c6
  generalize X[o + 7] = y7 at c7
  have HD := Lib.hid hD
  clear hD hx
  go_enter Tryz.func115, Tryz.ntmps115
  go_wp2
  go_end0
  refine ⟨rfl, ((((((((HD.out.set o x0).set (o + 1) x1).set (o + 2) x2).set (o + 3) x3).set (o + 4) x4).set (o + 5) x5).set (o + 6) x6).set (o + 7) x7), ?_⟩
  repeat refine Oth.setd ?_ _ _
  exact Oth.refl _ _ _

end Go.Proofs.YtinmmchjfifcgaaGreatDoor
