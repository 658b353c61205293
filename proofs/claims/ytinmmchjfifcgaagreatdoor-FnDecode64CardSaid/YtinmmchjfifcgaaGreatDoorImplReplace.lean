/- impl.Replace returns what the plain replacing gives: for a text of at most 1000000000 bytes, an old text that is not empty, a result of at most 140737488355328 bytes. -/
import Derived.Test.YtinmmchjfifcgaaGreatDoorReplacer
namespace Go.Proofs.YtinmmchjfifcgaaGreatDoor
open Go.RowKit
set_option maxRecDepth 100000

theorem below_drewN' {B : Nat} {a w : World} (h : Below B a w) (n : Nat) : Below B a (w.drewN n) := h.trans ⟨rfl, rfl, rfl, Nat.le_refl _, fun _ _ => rfl⟩

def WsPost (R : List UInt8) (b : Nat) (w : World) (e : Ending) (w' : World) : Prop := ∃ n : Int, e = .returned (.tuple #[.int .i64 n, .nilIface]) ∧ Lib.IsBuffer 96 5 b b (Lib.byteCells R) w' ∧ Below b w w'

theorem buffer_kept {b : Nat} {w w1 : World} (h : Lib.IsBuffer 96 5 b b [] w) (hn : w.heap[b]? = some (.cells #[.slice none 0 0, .int .i64 0, .int .i8 0] 96 (0, 0))) (hB : Below w.heap.size w w1) : Lib.IsBuffer 96 5 b b [] w1 :=
  ⟨Nat.le_refl _, .slice none 0 0, 0, by rw [hB.block b h.lt]; exact hn, World.ownsRow_nil _ _ _ _, by simp [Value.ownBlock]⟩

set_option maxHeartbeats 1000000 in
theorem writeString_any (s f t : ByteArray) (p q b : Nat) (w : World) (hp : p < w.heap.size) (hq : q < w.heap.size) (hp0 : w.cell? ⟨p, 0, none⟩ = some (.slice (some ⟨q, 0, none⟩) 2 2)) (hq0 : w.cell? ⟨q, 0, none⟩ = some (.string f)) (hq1 : w.cell? ⟨q, 1, none⟩ = some (.string t))
    (hn : w.heap[b]? = some (.cells #[.slice none 0 0, .int .i64 0, .int .i8 0] 96 (0, 0)))
    (hs : s.size ≤ 1000000000) (hf : 1 ≤ f.size) (hf2 : f.size ≤ 2147483647) (ht : t.size ≤ 2147483647) (hR : (rep f.data.toList t.data.toList 0 s.data.toList).length ≤ 140737488355328) :
    Calls Tryz.prog 66 #[.pointer (some ⟨p, 0, none⟩), .pointer (some ⟨b, 0, none⟩), .string s] w (WsPost (rep f.data.toList t.data.toList 0 s.data.toList) b w) := by
  have H := Lib.hid (replacer_any s f t p q w hp hq hp0 hq0 hq1 hs hf hf2 ht hR)
  have hb : b < w.heap.size := lt_of_block hn
  have hbuf : Lib.IsBuffer 96 5 b b [] w := ⟨Nat.le_refl _, .slice none 0 0, 0, hn, World.ownsRow_nil _ _ _ _, by simp [Value.ownBlock]⟩
  have HK := Lib.hid (fun w1 => buffer_kept (w1 := w1) hbuf hn)
  have HR := Lib.hid hR
  clear hn hbuf hp0 hq0 hq1 hR
  go_enter Tryz.func66, Tryz.ntmps66
  go_wp2_with fail
  refine H.out.mono ?_
  rintro e w1 ⟨rfl, hB⟩
  have h1 := HK.out w1 hB
  have HB := Lib.hid hB
  have hsz := hB.size
  clear hB
  have HC := Lib.hid (Tryz.Buffer_WriteString b b [] ⟨(rep f.data.toList t.data.toList 0 s.data.toList).toArray⟩ w1 h1 (by omega) (by simp) (by rw [size_mk]; have := HR.out; simpa using this))
  clear h1
  unfold strV
  go_wp2_with fail
  refine HC.out.mono ?_
  rintro e w2 ⟨rfl, h2, hB2⟩
  have H2 := Lib.hid h2
  have HB2 := Lib.hid hB2
  clear h2 hB2
  go_wp2
  go_ret2
  exact ⟨_, rfl, by simpa using H2.out, (HB.out.mono (by omega)).trans HB2.out⟩

theorem newSink_any (s : ByteArray) (n : Int) (w : World) :
    Calls Tryz.prog 64 #[.string s, .int .i64 n, .nilIface] w fun e w' => e = .returned (.pointer (some ⟨w.heap.size, 0, none⟩)) ∧ w.alloc (.cells #[.slice none 0 0, .int .i64 0, .int .i8 0] 96) = w' := by
  go_enter Tryz.func64, Tryz.ntmps64
  go_wp2
  go_ret
  exact ⟨rfl, rfl⟩

theorem newReplacer_any (v : Value) (w : World) (hv : ∃ a n c, v = .slice a n c) :
    Calls Tryz.prog 65 #[v] w fun e w' => e = .returned (.pointer (some ⟨w.heap.size, 0, none⟩)) ∧ w.alloc (.cells #[v] 98) = w' := by
  obtain ⟨a, n, c, rfl⟩ := hv
  go_enter Tryz.func65, Tryz.ntmps65
  go_wp2
  go_ret
  exact ⟨rfl, rfl⟩

/-- Three operands. -/
structure Ops3 (W : World) (s f t : ByteArray) (bs t0 t1 t2 r : Nat) : Prop where
  bs_lt : bs < W.heap.size
  t0_lt : t0 < W.heap.size
  t1_lt : t1 < W.heap.size
  t2_lt : t2 < W.heap.size
  r_lt : r < W.heap.size
  hs0 : W.cell? ⟨bs, 0, none⟩ = some (.pointer (some ⟨t0, 0, none⟩))
  hs1 : W.cell? ⟨bs, 1, none⟩ = some (.pointer (some ⟨t1, 0, none⟩))
  hs2 : W.cell? ⟨bs, 2, none⟩ = some (.pointer (some ⟨t2, 0, none⟩))
  ht0 : W.cell? ⟨t0, 0, none⟩ = some (.iface 59 (.string s))
  ht1 : W.cell? ⟨t1, 0, none⟩ = some (.iface 59 (.string f))
  ht2 : W.cell? ⟨t2, 0, none⟩ = some (.iface 59 (.string t))
  hr : W.cell? ⟨r, 0, none⟩ = some (.pointer none)
  hf : W.frozen? ⟨r, 0, none⟩ = false

set_option maxHeartbeats 1000000 in
theorem bReplace (s f t : ByteArray) (hs : s.size ≤ 1000000000) (hf : 1 ≤ f.size) (hf2 : f.size ≤ 2147483647) (ht : t.size ≤ 2147483647) (hR : (rep f.data.toList t.data.toList 0 s.data.toList).length ≤ 140737488355328)
    (W : World) (bs t0 t1 t2 r : Nat) (h : Ops3 W s f t bs t0 t1 t2 r) :
    Calls Tryz.prog 51 #[.agg #[.nilIface], .slice (some ⟨bs, 0, none⟩) 3 3, .func (.func 62) #[] #[.pointer (some ⟨r, 0, none⟩)]] W (BPost ⟨(rep f.data.toList t.data.toList 0 s.data.toList).toArray⟩ W ⟨r, 0, none⟩) := by
  obtain ⟨hbs, hl0, hl1, hl2, hr', hs0, hs1, hs2, ht0, ht1, ht2, hr, hfr⟩ := h
  have HR := Lib.hid hR
  have HRr := Lib.hid (And.intro hr hfr)
  clear hR hr hfr
  go_enter Tryz.func51, Tryz.ntmps51
  go_wp2_with (first
    | (go_at_call 63; refine (operand_any _ _ _).mono ?_; rintro e w' ⟨rfl, rfl⟩)
    | (go_at_call 64; refine (newSink_any _ _ _).mono ?_; rintro e w' ⟨rfl, rfl⟩)
    | (go_at_call 65; refine (newReplacer_any _ _ ⟨_, _, _, rfl⟩).mono ?_; rintro e w' ⟨rfl, rfl⟩))
  refine (writeString_any s f t (W.heap.size + 1 + 1 + 1) (W.heap.size + 1 + 1) (W.heap.size + 1) _ (by simp) (by simp) (by go_simp) (by go_simp) (by go_simp) ?_ hs hf hf2 ht HR.out).mono ?_
  · rw [Below.heap_alloc _ _ _ (by simp), Below.heap_alloc _ _ _ (by simp)]
    simpa using heap_alloc_new (W.alloc (.cells #[.nilIface] 73)) (.cells #[.slice none 0 0, .int .i64 0, .int .i8 0] 96)
  rintro e w1 ⟨n, rfl, hbuf, hB⟩
  have hBW : Below W.heap.size W w1 := (((((Below.refl _ W).alloc (Nat.le_refl _) _).alloc (by simp) _).alloc (by simp; omega) _).alloc (by simp; omega) _).trans (hB.mono (by omega))
  obtain ⟨R, hR⟩ : ∃ R, R = rep f.data.toList t.data.toList 0 s.data.toList := ⟨_, rfl⟩
  rw [← hR] at hbuf
  have HBUF := Lib.hid hbuf
  have HE := Lib.hid hR
  have HBW := Lib.hid hBW
  obtain ⟨hr1, hf1⟩ := keep hBW hr' HRr.out.1 HRr.out.2
  have hr0 : (w1.cell? ⟨r, 0, none⟩).isSome = true := by rw [hBW.cell (p := ⟨r, 0, none⟩) hr', HRr.out.1]; rfl
  have hf0 : w1.frozen? ⟨r, 0, none⟩ = false := by rw [hBW.frozen (p := ⟨r, 0, none⟩) hr', HRr.out.2]
  have hs0' : w1.cell? ⟨bs, 0, none⟩ = some (.pointer (some ⟨t0, 0, none⟩)) := by rw [hBW.cell (p := ⟨bs, 0, none⟩) hbs]; exact hs0
  have HT0 : Hid (w1.cell? ⟨t0, 0, none⟩ = some (.iface 59 (.string s))) := Lib.hid (by rw [hBW.cell (p := ⟨t0, 0, none⟩) hl0]; exact ht0)
  clear hR hbuf hB hBW hs0 hs1 hs2 ht0 ht1 ht2
  by_cases hq : (⟨R.toArray⟩ : ByteArray) = s
  · have hq1 : (R == s.toList) = true := by rw [← hq, Lib.toList_data]; simp
    have HQ := Lib.hid hq
    clear hq
    go_wp2_with (go_at_call 67; refine (Tryz.Buffer_String _ _ R _ HBUF.out).mono ?_; rintro e w2 ⟨rfl, k, rfl⟩)
    refine (iter_any _ _ (w1.drewN k) (by simpa using hr0) (by simpa using hf0)).mono ?_
    rintro e w' ⟨rfl, rfl⟩
    go_wp2
    go_ret
    rw [← HE.out, HQ.out]
    exact bpost_old (below_drewN' HBW.out _) HT0.out
  · have hq1 : (R == s.toList) = false := by
      rw [beq_eq_false_iff_ne]; intro e; apply hq
      rw [Lib.toList_data] at e
      apply ByteArray.ext; apply Array.ext'; exact e
    clear hq
    go_wp2_with (first
      | (go_at_call 67; refine (Tryz.Buffer_String _ _ R _ HBUF.out).mono ?_; rintro e w2 ⟨rfl, k, rfl⟩)
      | (go_at_call 68; refine (interned_any _ _).mono ?_; rintro e w' ⟨rfl, rfl⟩))
    obtain ⟨hr2, hf2'⟩ := keep (below_drewN' HBW.out k) hr' HRr.out.1 HRr.out.2
    refine (iter_any _ _ _ (hr2 _) (hf2' _)).mono ?_
    rintro e w' ⟨rfl, rfl⟩
    go_wp2
    go_ret
    rw [← HE.out]
    exact bpost_new (below_drewN' HBW.out _)

theorem ops3_at (w : World) (s f t : ByteArray) : Ops3 (((((w.alloc (.cells #[.iface 59 (.string s), .pointer none] 65)).alloc (.cells #[.iface 59 (.string f), .pointer none] 65)).alloc (.cells #[.iface 59 (.string t), .pointer none] 65)).alloc (.cells #[.pointer (some ⟨w.heap.size, 0, none⟩), .pointer (some ⟨w.heap.size + 1, 0, none⟩), .pointer (some ⟨w.heap.size + 1 + 1, 0, none⟩)] 46)).alloc (.cells #[.pointer none] 46)) s f t (w.heap.size + 1 + 1 + 1) w.heap.size (w.heap.size + 1) (w.heap.size + 1 + 1) (w.heap.size + 1 + 1 + 1 + 1) :=
  ⟨by simp, (by simp; try omega), (by simp; try omega), (by simp; try omega), by simp, by go_simp, by go_simp, by go_simp, by go_simp, by go_simp, by go_simp, by go_simp, by go_simp⟩

theorem call3 (K : Nat) (s f t s' : ByteArray) (w : World) (hK : ∀ args w, (callFunc K args).run Tryz.prog w = .ok (.enter K args) w)
    (hb : ∀ W bs t0 t1 t2 r, Ops3 W s f t bs t0 t1 t2 r → Calls Tryz.prog K #[.agg #[.nilIface], .slice (some ⟨bs, 0, none⟩) 3 3, .func (.func 62) #[] #[.pointer (some ⟨r, 0, none⟩)]] W (BPost s' W ⟨r, 0, none⟩)) :
    Calls Tryz.prog 50 #[.func (.func K) #[] #[], .slice (some ⟨w.heap.size + 1 + 1 + 1, 0, none⟩) 3 3] ((((w.alloc (.cells #[.iface 59 (.string s), .pointer none] 65)).alloc (.cells #[.iface 59 (.string f), .pointer none] 65)).alloc (.cells #[.iface 59 (.string t), .pointer none] 65)).alloc (.cells #[.pointer (some ⟨w.heap.size, 0, none⟩), .pointer (some ⟨w.heap.size + 1, 0, none⟩), .pointer (some ⟨w.heap.size + 1 + 1, 0, none⟩)] 46)) (fun e w' => ∃ p, e = .returned (.tuple #[.pointer (some p), .nilIface]) ∧ Below w.heap.size w w' ∧ w'.cell? p = some (.iface 59 (.string s'))) := by
  refine (call_any K _ s' _ hK ?_).mono ?_
  · simpa using hb _ _ _ _ _ _ (ops3_at w s f t)
  rintro e w' ⟨p, he, hB, hp⟩
  exact ⟨p, he, (((((Below.refl _ w).alloc (Nat.le_refl _) _).alloc (by simp) _).alloc (by simp; omega) _).alloc (by simp; omega) _).trans (hB.mono (by simp; omega)), hp⟩

theorem replace_any (s f t : ByteArray) (w : World) (hs : s.size ≤ 1000000000) (hf : 1 ≤ f.size) (hf2 : f.size ≤ 2147483647) (ht : t.size ≤ 2147483647) (hR : (rep f.data.toList t.data.toList 0 s.data.toList).length ≤ 140737488355328) :
    Calls Tryz.prog 11 #[.string s, .string f, .string t] w fun e w' => e = .returned (.tuple #[strV (rep f.data.toList t.data.toList 0 s.data.toList), .bool true]) ∧ Below w.heap.size w w' := by
  have H := Lib.hid (call3 51 s f t ⟨(rep f.data.toList t.data.toList 0 s.data.toList).toArray⟩ w (enters_of Tryz.func51 (by kernel_rfl) rfl) (bReplace s f t hs hf hf2 ht hR))
  clear hR
  go_enter Tryz.func11, Tryz.ntmps11
  go_wp2_with (first
    | (go_at_call 35; refine (str_any _ _).mono ?_; rintro e w' ⟨rfl, rfl⟩)
    | (go_at_call 50; refine H.out.mono ?_; rintro e w' ⟨p, rfl, hB, hp⟩)
    | (go_at_call 33; refine (isString_any _ _ _ hp).mono ?_; rintro e w' ⟨rfl, rfl⟩)
    | go_in)
  go_ret2
  exact ⟨rfl, hB⟩

end Go.Proofs.YtinmmchjfifcgaaGreatDoor
