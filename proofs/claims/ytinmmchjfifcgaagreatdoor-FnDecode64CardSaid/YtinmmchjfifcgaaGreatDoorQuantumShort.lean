/- decodeQuantum where fewer than four letters are left: always an error. -/
import Derived.Test.YtinmmchjfifcgaaGreatDoorQuantum
namespace Go.Proofs.YtinmmchjfifcgaaGreatDoor
open Go.RowKit
set_option maxRecDepth 100000

theorem cell_some {w : World} {q : Nat} {cs : Array Value} {t : TypeId} (h : w.heap[q]? = some (.cells cs t (0, 0))) (j : Nat) (hj : j < cs.size) : ∃ v, w.cell? ⟨q, j, none⟩ = some v := ⟨cs[j], cell_row h j _ (by simp [hj])⟩

def ErrPost (w : World) (e : Ending) (w' : World) : Prop := ∃ (s' : Int) (v : Value), e = .returned (.tuple #[.int .i64 s', .int .i64 0, .iface 180 v]) ∧ Below w.heap.size w w'

set_option maxHeartbeats 10000000 in
theorem quantumShort_any (eb sb cS si n : Nat) (S : List UInt8) (dv : Value) (w : World) (hE : EncIs alphaS.data.toList 61 eb w) (helt : eb < w.heap.size) (hsl : sb < w.heap.size)
    (hn : S.length = si + n) (h1 : 1 ≤ n) (h3 : n ≤ 3) (hS : ∀ j (h : j < S.length), w.cell? ⟨sb, j, none⟩ = some (.int .u8 (S[j].toNat : Int))) (hnl : ∀ j (h : j < S.length), ((S[j].toNat : Int) == 10) = false ∧ ((S[j].toNat : Int) == 13) = false) (hL : S.length ≤ 1000) :
    Calls Tryz.prog 116 #[.pointer (some ⟨eb, 0, none⟩), dv, .slice (some ⟨sb, 0, none⟩) S.length cS, .int .i64 (si : Int)] w (ErrPost w) := by
  have hsq : ¬ w.heap.size = sb := by omega
  have heq : ¬ w.heap.size = eb := by omega
  have HE := Lib.hid hE
  have HS := Lib.hid hS
  have HNL := Lib.hid hnl
  have HMAP : Hid ((w.alloc (.cells #[.int .u8 0, .int .u8 0, .int .u8 0, .int .u8 0] 179)).rangeAt eb 64 ((dmR alphaS.data.toList 64).map u8c)) := Lib.hid ((hE.below ((Below.refl w.heap.size w).alloc (Nat.le_refl _) _) helt).map rfl)
  have HSZ : Hid ((Tryz.prog.info? 105).map (·.size) = some ((dmR alphaS.data.toList 64).map u8c).length) := Lib.hid (by rw [List.length_map, dmR_length]; exact info105)
  clear hE hS hnl
  go_enter Tryz.func116, Tryz.ntmps116
  go_wp2_with (with_reducible refine wpList_load_mid rfl 105 (.tmp 19) rfl eb 64 rfl ((dmR alphaS.data.toList 64).map u8c) _ HMAP.out Tryz.underlying105 rfl HSZ.out ?_)
  go_loopw [3, 10, 12, 13, 14, 15] (fun s' _ _ j _ _ wr => ∃ (k : Nat) (cs : Array Value), j = .int .i64 k ∧ k ≤ n ∧ s' = .int .i64 ((si + k : Nat) : Int) ∧ cs.size = 4 ∧ wr.heap[w.heap.size]? = some (.cells cs 179 (0, 0)) ∧ Below w.heap.size w wr) (fun _ _ _ j _ _ _ => 4 - (intOf j).toNat)
  case atStart => exact ⟨0, _, rfl, Nat.zero_le _, rfl, rfl, heap_alloc_new _ _, (Below.refl _ _).alloc (Nat.le_refl _) _⟩
  case round =>
    obtain ⟨k, cs, rfl, hk, rfl, hcs, hQ, hO⟩ := hrel
    have HQ := Lib.hid hQ
    have HO := Lib.hid hO
    have hwz : w.heap.size < wr.heap.size := lt_of_block hQ
    clear hQ hO
    rcases (by omega : k = 0 ∨ k = 1 ∨ k = 2 ∨ k = 3) with rfl | rfl | rfl | rfl
    · -- letter 0
      have hp : wr.cell? ⟨eb, 320, none⟩ = some (.int .i32 61) := by rw [HO.out.cell (p := ⟨eb, 320, none⟩) helt]; exact HE.out.pad rfl
      · have hlt : si < S.length := by omega
        have hs : wr.cell? ⟨sb, si, none⟩ = some (.int .u8 (S[si].toNat : Int)) := by rw [HO.out.cell (p := ⟨sb, si, none⟩) hsl]; exact HS.out (si) hlt
        obtain ⟨h10, h13⟩ := HNL.out (si) hlt
        generalize S[si] = x at hs h10 h13
        have hdm : wr.cell? ⟨eb, 64 + x.toNat, none⟩ = some (.int .u8 ((dmV x : Nat) : Int)) := by rw [HO.out.cell (p := ⟨eb, 64 + x.toNat, none⟩) helt]; exact HE.out.dm x
        have hx256 : (x.toNat : Int) < 256 := by have := x.toNat_lt; omega
        by_cases hv : dmV x = 255
        · have hne : (((dmV x : Nat) : Int) != 255) = false := by rw [hv]; rfl
          clear hv
          by_cases h61 : x = 61
          · have hb : ((x.toNat : Int) != 61) = false := by rw [h61]; rfl
            clear h61
            go_wp2
            go_ret3
            exact ⟨_, _, rfl, HO.out⟩
          · have hb : ((x.toNat : Int) != 61) = true := by rw [bne_iff_ne]; intro e; apply h61; exact UInt8.toNat_inj.1 (by show _ = 61; omega)
            clear h61
            go_wp2
            go_ret3
            exact ⟨_, _, rfl, HO.out⟩
        · have hne : (((dmV x : Nat) : Int) != 255) = true := by rw [bne_iff_ne]; omega
          have hc := cell_some HQ.out 0 (by omega)
          obtain ⟨v0, hc⟩ := hc
          have hfr := free_row HQ.out 0
          clear hv
          go_wp2
          go_roundw
          case rel => exact ⟨1, cs.setIfInBounds 0 _, by go_num, by omega, by go_num, by simpa using hcs, row_store HQ.out 0 _, HO.out.setCell (Nat.le_refl _) _⟩
          case measure => simp [intOf]
    · -- letter 1
      have hp : wr.cell? ⟨eb, 320, none⟩ = some (.int .i32 61) := by rw [HO.out.cell (p := ⟨eb, 320, none⟩) helt]; exact HE.out.pad rfl
      by_cases hend : n = 1
      · subst hend
        go_wp2
        go_ret3
        exact ⟨_, _, rfl, HO.out⟩
      · have hlt : si + 1 < S.length := by omega
        have hs : wr.cell? ⟨sb, si + 1, none⟩ = some (.int .u8 (S[si + 1].toNat : Int)) := by rw [HO.out.cell (p := ⟨sb, si + 1, none⟩) hsl]; exact HS.out (si + 1) hlt
        obtain ⟨h10, h13⟩ := HNL.out (si + 1) hlt
        generalize S[si + 1] = x at hs h10 h13
        have hdm : wr.cell? ⟨eb, 64 + x.toNat, none⟩ = some (.int .u8 ((dmV x : Nat) : Int)) := by rw [HO.out.cell (p := ⟨eb, 64 + x.toNat, none⟩) helt]; exact HE.out.dm x
        have hx256 : (x.toNat : Int) < 256 := by have := x.toNat_lt; omega
        by_cases hv : dmV x = 255
        · have hne : (((dmV x : Nat) : Int) != 255) = false := by rw [hv]; rfl
          clear hv
          by_cases h61 : x = 61
          · have hb : ((x.toNat : Int) != 61) = false := by rw [h61]; rfl
            clear h61
            go_wp2
            go_ret3
            exact ⟨_, _, rfl, HO.out⟩
          · have hb : ((x.toNat : Int) != 61) = true := by rw [bne_iff_ne]; intro e; apply h61; exact UInt8.toNat_inj.1 (by show _ = 61; omega)
            clear h61
            go_wp2
            go_ret3
            exact ⟨_, _, rfl, HO.out⟩
        · have hne : (((dmV x : Nat) : Int) != 255) = true := by rw [bne_iff_ne]; omega
          have hc := cell_some HQ.out 1 (by omega)
          obtain ⟨v0, hc⟩ := hc
          have hfr := free_row HQ.out 1
          clear hv
          go_wp2
          go_roundw
          case rel => exact ⟨2, cs.setIfInBounds 1 _, by go_num, by omega, by go_num, by simpa using hcs, row_store HQ.out 1 _, HO.out.setCell (Nat.le_refl _) _⟩
          case measure => simp [intOf]
    · -- letter 2
      have hp : wr.cell? ⟨eb, 320, none⟩ = some (.int .i32 61) := by rw [HO.out.cell (p := ⟨eb, 320, none⟩) helt]; exact HE.out.pad rfl
      by_cases hend : n = 2
      · subst hend
        go_wp2
        go_ret3
        exact ⟨_, _, rfl, HO.out⟩
      · have hlt : si + 2 < S.length := by omega
        have hs : wr.cell? ⟨sb, si + 2, none⟩ = some (.int .u8 (S[si + 2].toNat : Int)) := by rw [HO.out.cell (p := ⟨sb, si + 2, none⟩) hsl]; exact HS.out (si + 2) hlt
        obtain ⟨h10, h13⟩ := HNL.out (si + 2) hlt
        generalize S[si + 2] = x at hs h10 h13
        have hdm : wr.cell? ⟨eb, 64 + x.toNat, none⟩ = some (.int .u8 ((dmV x : Nat) : Int)) := by rw [HO.out.cell (p := ⟨eb, 64 + x.toNat, none⟩) helt]; exact HE.out.dm x
        have hx256 : (x.toNat : Int) < 256 := by have := x.toNat_lt; omega
        by_cases hv : dmV x = 255
        · have hne : (((dmV x : Nat) : Int) != 255) = false := by rw [hv]; rfl
          clear hv
          by_cases h61 : x = 61
          · have hb : ((x.toNat : Int) != 61) = false := by rw [h61]; rfl
            clear h61
            go_wp2
            go_loop [3] (fun x => x = .int .i64 ((si + 3 : Nat) : Int)) (fun _ => 0)
            case atStart => exact congrArg (Value.int .i64) (by omega)
            case round =>
              subst hrel
              have hn3 : S.length = si + 3 := by omega
              go_wp2
              go_ret3
              exact ⟨_, _, rfl, HO.out⟩
          · have hb : ((x.toNat : Int) != 61) = true := by rw [bne_iff_ne]; intro e; apply h61; exact UInt8.toNat_inj.1 (by show _ = 61; omega)
            clear h61
            go_wp2
            go_ret3
            exact ⟨_, _, rfl, HO.out⟩
        · have hne : (((dmV x : Nat) : Int) != 255) = true := by rw [bne_iff_ne]; omega
          have hc := cell_some HQ.out 2 (by omega)
          obtain ⟨v0, hc⟩ := hc
          have hfr := free_row HQ.out 2
          clear hv
          go_wp2
          go_roundw
          case rel => exact ⟨3, cs.setIfInBounds 2 _, by go_num, by omega, by go_num, by simpa using hcs, row_store HQ.out 2 _, HO.out.setCell (Nat.le_refl _) _⟩
          case measure => simp [intOf]
    · -- letter 3
      have hp : wr.cell? ⟨eb, 320, none⟩ = some (.int .i32 61) := by rw [HO.out.cell (p := ⟨eb, 320, none⟩) helt]; exact HE.out.pad rfl
      by_cases hend : n = 3
      · subst hend
        go_wp2
        go_ret3
        exact ⟨_, _, rfl, HO.out⟩
      · exact absurd (by omega) hend

end Go.Proofs.YtinmmchjfifcgaaGreatDoor

