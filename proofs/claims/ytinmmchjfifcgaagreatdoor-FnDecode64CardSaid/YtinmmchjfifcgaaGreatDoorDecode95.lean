/- Encoding.Decode of the standard encoding: what it leaves in the destination and returns. -/
import Derived.Test.YtinmmchjfifcgaaGreatDoorDecodeSteps
import Derived.Deep.MidRow
import Derived.Deep.QuietTactic
import Derived.BigQuiet
import Derived.RegionTactic
import Derived.Deep.CutBlock
namespace Go.Proofs.YtinmmchjfifcgaaGreatDoor
open Go.RowKit
set_option maxRecDepth 100000

set_option maxHeartbeats 10000000 in
theorem decode_any (eb sb db cS : Nat) (S X : List UInt8) (w : World) (hI : DIn eb sb db S X w) (hD : Dst db X w) (h1 : 1 ≤ S.length) (hc : S.length ≤ cS) :
    Calls Tryz.prog 95 #[.pointer (some ⟨eb, 0, none⟩), .slice (some ⟨db, 0, none⟩) X.length X.length, .slice (some ⟨sb, 0, none⟩) S.length cS] w (DecodePost S db X.length w) := by
  have hL := hI.len
  have hX : S.length / 4 * 3 = X.length := hI.xl.symm
  have H0 : Hid (DSt S X db w [] X 0 w) := Lib.hid ⟨Nat.zero_le _, by simp, rfl, rfl, by simp, by cases hd : dec S <;> simp [hd], hD, Oth.refl _ _ _⟩
  have HMAP : Hid (w.rangeAt eb 64 ((dmR alphaS.data.toList 64).map u8c)) := Lib.hid (hI.enc.map rfl)
  have HSZ : Hid ((Tryz.prog.info? 105).map (·.size) = some ((dmR alphaS.data.toList 64).map u8c).length) := Lib.hid (by rw [List.length_map, dmR_length]; exact info105)
  have HI := Lib.hid hI
  clear hI hD
  go_enter Tryz.func95, Tryz.ntmps95
  go_upto_block 0 with (with_reducible refine wpList_load_mid rfl 105 (.tmp 23) rfl eb 64 rfl ((dmR alphaS.data.toList 64).map u8c) _ HMAP.out Tryz.underlying105 rfl HSZ.out ?_)
  go_cut [6, 7, 8] from 9 (fun n er si wx => ∃ (O X' : List UInt8) (k : Nat), n = .int .i64 (O.length : Nat) ∧ er = .nilIface ∧ si = .int .i64 (k : Nat) ∧ DSt S X db w O X' k wx)
  case first =>
    as_aux_lemma =>
      go_wp2_with fail
      go_loopw [6, 7, 8, 9, 10, 11, 12] (fun n er si _ _ _ _ wr => ∃ (O X' : List UInt8) (k : Nat), n = .int .i64 (O.length : Nat) ∧ er = .nilIface ∧ si = .int .i64 (k : Nat) ∧ DSt S X db w O X' k wr) (fun _ _ si _ _ _ _ _ => S.length - (intOf si).toNat)
      case atStart => exact ⟨[], X, 0, rfl, rfl, rfl, H0.out⟩
      case round =>
        as_aux_lemma =>
          obtain ⟨O, X', k, rfl, rfl, rfl, hT⟩ := hrel
          have HT := Lib.hid hT
          have hk := hT.kl
          have ho := hT.ol
          clear hT
          by_cases hA : 8 ≤ S.length - k
          · have b1 : decide ((8 : Int) ≤ (S.length : Int) - (k : Int)) = true := by simp; omega
            by_cases hB : 8 ≤ X.length - O.length
            · have b2 : decide ((8 : Int) ≤ (X.length : Int) - (O.length : Int)) = true := by simp; omega
              obtain ⟨a, b, c, d, a', b', c', d', r, hd⟩ := eight_of (S := S) (k := k) (by omega)
              have s0 : wr.cell? ⟨sb, k, none⟩ = some (.int .u8 (a.toNat : Int)) := (HT.out.letter HI.out hd (j := 0) (x := a) rfl).1
              obtain ⟨_, m0, l0⟩ := HT.out.letter HI.out hd (j := 0) (x := a) rfl
              obtain ⟨s1, m1, l1⟩ := HT.out.letter HI.out hd (j := 1) (x := b) rfl
              obtain ⟨s2, m2, l2⟩ := HT.out.letter HI.out hd (j := 2) (x := c) rfl
              obtain ⟨s3, m3, l3⟩ := HT.out.letter HI.out hd (j := 3) (x := d) rfl
              obtain ⟨s4, m4, l4⟩ := HT.out.letter HI.out hd (j := 4) (x := a') rfl
              obtain ⟨s5, m5, l5⟩ := HT.out.letter HI.out hd (j := 5) (x := b') rfl
              obtain ⟨s6, m6, l6⟩ := HT.out.letter HI.out hd (j := 6) (x := c') rfl
              obtain ⟨s7, m7, l7⟩ := HT.out.letter HI.out hd (j := 7) (x := d') rfl
              have HD := Lib.hid hd
              clear hd
              by_cases hg : dmV a = 255 ∨ dmV b = 255 ∨ dmV c = 255 ∨ dmV d = 255 ∨ dmV a' = 255 ∨ dmV b' = 255 ∨ dmV c' = 255 ∨ dmV d' = 255
              · as_aux_lemma =>
                  have HA := Lib.hid fun n => assemble64_no (dmV a) (dmV b) (dmV c) (dmV d) (dmV a') (dmV b') (dmV c') (dmV d') (wr.drewN n) (dm_256 a) (dm_256 b) (dm_256 c) (dm_256 d) (dm_256 a') (dm_256 b') (dm_256 c') (dm_256 d') hg
                  clear hg
                  go_wp2_with fail
                  go_quiet (first | (go_at_call 114; refine Calls.quiet_of_same ((HA.out _).mono fun _ _ h => ⟨h.1, h.2.symm⟩)))
                  go_wp2_with fail
                  refine (quantum_step HI.out (HT.out.drewN nq) (by omega) _ _ rfl).mono ?_
                  rintro e w' (⟨O2, X2, kk, rfl, hl, hT2⟩ | ⟨s', j, v, X2, hj, rfl, hdn, hX2, hl2, hO2⟩)
                  · have HT2 := Lib.hid hT2
                    have hkk : O.length + kk ≤ 1000 := by have := hT2.ol; have := hT2.kl; omega
                    have HL := Lib.hid hl
                    clear hT2 hl
                    go_wp2
                    go_roundw
                    case rel => exact ⟨O2, X2, k + 4, by rw [HL.out]; go_num, rfl, by go_num, HT2.out⟩
                    case measure => simp [intOf]; omega
                  · as_aux_lemma =>
                      have HX2 := Lib.hid (And.intro hdn (And.intro hX2 (And.intro hl2 hO2)))
                      clear hdn hX2 hl2 hO2
                      go_wp2
                      go_ret2
                      exact ⟨X2, HX2.out.2.1, HX2.out.2.2.1, HX2.out.2.2.2, .inr ⟨HX2.out.1, O.length + j, v, hj, by rw [Int.natCast_add]; rfl⟩⟩
              · as_aux_lemma =>
                  have g : GoodTo a b c d 4 := good4 (fun h => hg (by simp [h])) (fun h => hg (by simp [h])) (fun h => hg (by simp [h])) (fun h => hg (by simp [h]))
                  have g' : GoodTo a' b' c' d' 4 := good4 (fun h => hg (by simp [h])) (fun h => hg (by simp [h])) (fun h => hg (by simp [h])) (fun h => hg (by simp [h]))
                  have HA := Lib.hid fun n => assemble64_yes (dmV a) (dmV b) (dmV c) (dmV d) (dmV a') (dmV b') (dmV c') (dmV d') (wr.drewN n) (dm_small (g.g0 (by omega))) (dm_small (g.g1 (by omega))) (dm_small (g.g2 (by omega))) (dm_small (g.g3 (by omega))) (dm_small (g'.g0 (by omega))) (dm_small (g'.g1 (by omega))) (dm_small (g'.g2 (by omega))) (dm_small (g'.g3 (by omega)))
                  have HG := Lib.hid g
                  have HG' := Lib.hid g'
                  clear hg g g'
                  go_wp2_with fail
                  go_quiet (first | (go_at_call 114; refine Calls.quiet_of_same ((HA.out _).mono fun _ _ h => ⟨h.1, h.2.symm⟩)))
                  go_wp2_with fail
                  refine (put64_step (HT.out.drewN nq) HD.out HG.out HG'.out _ _ rfl hB).mono ?_
                  rintro e w' ⟨rfl, O2, X2, hl, hT2⟩
                  have HT2 := Lib.hid hT2
                  have HL := Lib.hid hl
                  clear hT2 hl
                  go_wp2
                  go_roundw
                  case rel => exact ⟨O2, X2, k + 8, by rw [HL.out]; go_num, rfl, by go_num, HT2.out⟩
                  case measure => simp [intOf]; omega
            · as_aux_lemma =>
                have b2 : decide ((8 : Int) ≤ (X.length : Int) - (O.length : Int)) = false := by simp; omega
                go_wp2
                go_meet
                exact ⟨O, X', k, rfl, rfl, rfl, HT.out⟩
          · as_aux_lemma =>
              have b1 : decide ((8 : Int) ≤ (S.length : Int) - (k : Int)) = false := by simp; omega
              go_wp2
              go_meet
              exact ⟨O, X', k, rfl, rfl, rfl, HT.out⟩
  case rest =>
    as_aux_lemma =>
      obtain ⟨O0, X0, k0, rfl, rfl, rfl, hT0⟩ := hcut
      have H1 := Lib.hid hT0
      have hk0 := hT0.kl
      clear hT0 H0
      go_upto_block 2 with fail
      go_cut [6, 7, 8] from 9 (fun n er si wx => ∃ (O X' : List UInt8) (k : Nat), n = .int .i64 (O.length : Nat) ∧ er = .nilIface ∧ si = .int .i64 (k : Nat) ∧ DSt S X db w O X' k wx)
      case first =>
        as_aux_lemma =>
          go_wp2_with fail
          go_loopw [6, 7, 8, 13, 14, 15, 16] (fun n er si _ _ _ _ wr => ∃ (O X' : List UInt8) (k : Nat), n = .int .i64 (O.length : Nat) ∧ er = .nilIface ∧ si = .int .i64 (k : Nat) ∧ DSt S X db w O X' k wr) (fun _ _ si _ _ _ _ _ => S.length - (intOf si).toNat)
          case atStart => exact ⟨O0, X0, k0, rfl, rfl, rfl, H1.out⟩
          case round =>
            as_aux_lemma =>
              obtain ⟨O, X', k, rfl, rfl, rfl, hT⟩ := hrel
              have HT := Lib.hid hT
              have hk := hT.kl
              have ho := hT.ol
              clear hT
              by_cases hA : 4 ≤ S.length - k
              · have b1 : decide ((4 : Int) ≤ (S.length : Int) - (k : Int)) = true := by simp; omega
                by_cases hB : 4 ≤ X.length - O.length
                · have b2 : decide ((4 : Int) ≤ (X.length : Int) - (O.length : Int)) = true := by simp; omega
                  obtain ⟨a, b, c, d, r, hd⟩ := four_of (S := S) (k := k) (by omega)
                  have s0 : wr.cell? ⟨sb, k, none⟩ = some (.int .u8 (a.toNat : Int)) := (HT.out.letter HI.out hd (j := 0) (x := a) rfl).1
                  obtain ⟨_, m0, l0⟩ := HT.out.letter HI.out hd (j := 0) (x := a) rfl
                  obtain ⟨s1, m1, l1⟩ := HT.out.letter HI.out hd (j := 1) (x := b) rfl
                  obtain ⟨s2, m2, l2⟩ := HT.out.letter HI.out hd (j := 2) (x := c) rfl
                  obtain ⟨s3, m3, l3⟩ := HT.out.letter HI.out hd (j := 3) (x := d) rfl
                  have HD := Lib.hid hd
                  clear hd
                  by_cases hg : dmV a = 255 ∨ dmV b = 255 ∨ dmV c = 255 ∨ dmV d = 255
                  · as_aux_lemma =>
                      have HA := Lib.hid fun n => assemble32_no (dmV a) (dmV b) (dmV c) (dmV d) (wr.drewN n) (dm_256 a) (dm_256 b) (dm_256 c) (dm_256 d) hg
                      clear hg
                      go_wp2_with fail
                      go_quiet (first | (go_at_call 117; refine Calls.quiet_of_same ((HA.out _).mono fun _ _ h => ⟨h.1, h.2.symm⟩)))
                      go_wp2_with fail
                      refine (quantum_step HI.out (HT.out.drewN nq) (by omega) _ _ rfl).mono ?_
                      rintro e w' (⟨O2, X2, kk, rfl, hl, hT2⟩ | ⟨s', j, v, X2, hj, rfl, hdn, hX2, hl2, hO2⟩)
                      · have HT2 := Lib.hid hT2
                        have hkk : O.length + kk ≤ 1000 := by have := hT2.ol; have := hT2.kl; omega
                        have HL := Lib.hid hl
                        clear hT2 hl
                        go_wp2
                        go_roundw
                        case rel => exact ⟨O2, X2, k + 4, by rw [HL.out]; go_num, rfl, by go_num, HT2.out⟩
                        case measure => simp [intOf]; omega
                      · as_aux_lemma =>
                          have HX2 := Lib.hid (And.intro hdn (And.intro hX2 (And.intro hl2 hO2)))
                          clear hdn hX2 hl2 hO2
                          go_wp2
                          go_ret2
                          exact ⟨X2, HX2.out.2.1, HX2.out.2.2.1, HX2.out.2.2.2, .inr ⟨HX2.out.1, O.length + j, v, hj, by rw [Int.natCast_add]; rfl⟩⟩
                  · as_aux_lemma =>
                      have g : GoodTo a b c d 4 := good4 (fun h => hg (by simp [h])) (fun h => hg (by simp [h])) (fun h => hg (by simp [h])) (fun h => hg (by simp [h]))
                      have HA := Lib.hid fun n => assemble32_yes (dmV a) (dmV b) (dmV c) (dmV d) (wr.drewN n) (dm_small (g.g0 (by omega))) (dm_small (g.g1 (by omega))) (dm_small (g.g2 (by omega))) (dm_small (g.g3 (by omega)))
                      have HG := Lib.hid g
                      clear hg g
                      go_wp2_with fail
                      go_quiet (first | (go_at_call 117; refine Calls.quiet_of_same ((HA.out _).mono fun _ _ h => ⟨h.1, h.2.symm⟩)))
                      go_wp2_with fail
                      refine (put32_step (HT.out.drewN nq) HD.out HG.out _ _ rfl hB).mono ?_
                      rintro e w' ⟨rfl, O2, X2, hl, hT2⟩
                      have HT2 := Lib.hid hT2
                      have HL := Lib.hid hl
                      clear hT2 hl
                      go_wp2
                      go_roundw
                      case rel => exact ⟨O2, X2, k + 4, by rw [HL.out]; go_num, rfl, by go_num, HT2.out⟩
                      case measure => simp [intOf]; omega
                · as_aux_lemma =>
                    have b2 : decide ((4 : Int) ≤ (X.length : Int) - (O.length : Int)) = false := by simp; omega
                    go_wp2
                    go_meet
                    exact ⟨O, X', k, rfl, rfl, rfl, HT.out⟩
              · as_aux_lemma =>
                  have b1 : decide ((4 : Int) ≤ (S.length : Int) - (k : Int)) = false := by simp; omega
                  go_wp2
                  go_meet
                  exact ⟨O, X', k, rfl, rfl, rfl, HT.out⟩
      case rest =>
        as_aux_lemma =>
          obtain ⟨O1, X1, k1, rfl, rfl, rfl, hT1⟩ := hcut
          have H2 := Lib.hid hT1
          have hk1 := hT1.kl
          clear hT1 H1
          go_wp2_with fail
          go_loopw [6, 7, 8, 17] (fun n er si _ wr => ∃ (O X' : List UInt8) (k : Nat), n = .int .i64 (O.length : Nat) ∧ er = .nilIface ∧ si = .int .i64 (k : Nat) ∧ DSt S X db w O X' k wr) (fun _ _ si _ _ => S.length - (intOf si).toNat)
          case atStart => exact ⟨O1, X1, k1, rfl, rfl, rfl, H2.out⟩
          case round =>
            as_aux_lemma =>
              obtain ⟨O, X', k, rfl, rfl, rfl, hT⟩ := hrel
              have HT := Lib.hid hT
              have hk := hT.kl
              have ho := hT.ol
              clear hT
              by_cases hlt : k < S.length
              · by_cases h4 : k + 4 ≤ S.length
                · as_aux_lemma =>
                    go_wp2_with fail
                    refine (quantum_step HI.out HT.out h4 _ _ rfl).mono ?_
                    rintro e w' (⟨O2, X2, kk, rfl, hl, hT2⟩ | ⟨s', j, v, X2, hj, rfl, hdn, hX2, hl2, hO2⟩)
                    · have HT2 := Lib.hid hT2
                      have hkk : O.length + kk ≤ 1000 := by have := hT2.ol; have := hT2.kl; omega
                      have HL := Lib.hid hl
                      clear hT2 hl
                      go_wp2
                      go_roundw
                      case rel => exact ⟨O2, X2, k + 4, by rw [HL.out]; go_num, rfl, by go_num, HT2.out⟩
                      case measure => simp [intOf]; omega
                    · as_aux_lemma =>
                        have HX2 := Lib.hid (And.intro hdn (And.intro hX2 (And.intro hl2 hO2)))
                        clear hdn hX2 hl2 hO2
                        go_wp2
                        go_ret2
                        exact ⟨X2, HX2.out.2.1, HX2.out.2.2.1, HX2.out.2.2.2, .inr ⟨HX2.out.1, O.length + j, v, hj, by rw [Int.natCast_add]; rfl⟩⟩
                · as_aux_lemma =>
                    go_wp2_with fail
                    all_goals
                      refine (short_step HI.out HT.out hlt h4 _).mono ?_
                      rintro e w' (⟨O2, X2, kk, rfl, hl, hT2⟩ | ⟨s', j, v, X2, hj, rfl, hdn, hX2, hl2, hO2⟩)
                      · have := hT2.kl; omega
                      · as_aux_lemma =>
                          have HX2 := Lib.hid (And.intro hdn (And.intro hX2 (And.intro hl2 hO2)))
                          clear hdn hX2 hl2 hO2
                          go_wp2
                          go_ret2
                          exact ⟨X2, HX2.out.2.1, HX2.out.2.2.1, HX2.out.2.2.2, .inr ⟨HX2.out.1, O.length + j, v, hj, by rw [Int.natCast_add]; rfl⟩⟩
              · as_aux_lemma =>
                  obtain rfl : k = S.length := by omega
                  go_wp2
                  go_ret2
                  exact HT.out.done (Nat.lt_irrefl _) HI.out.xl

end Go.Proofs.YtinmmchjfifcgaaGreatDoor
