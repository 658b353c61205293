/- The small functions of the thin package and of package ast, and how a built-in function is called: each returns what its text says; nothing that was there before the call turns. No condition. -/
import Derived.Test.YtinmmchjfifcgaaGreatDoorShelf
import Derived.WalkKit
import Derived.WalkSpells
import Derived.WalkLawsBesides
import Derived.Below
import Derived.Lib.Hide
import Derived.Shelf.Abstract
namespace Go.Proofs.YtinmmchjfifcgaaGreatDoor
open Go.RowKit
set_option maxRecDepth 100000

theorem ta59 (s : ByteArray) (w : World) : Sem.run Tryz.prog (Instr.typeAssert (.iface 59 (.string s)) 62 59 true) w = .ok (.tuple #[.string s, .bool true]) w := by kernel_rfl
theorem ta69 (b : Bool) (w : World) : Sem.run Tryz.prog (Instr.typeAssert (.iface 69 (.bool b)) 62 69 true) w = .ok (.tuple #[.bool b, .bool true]) w := by kernel_rfl
theorem ta9_4 (s : ByteArray) (w : World) : Sem.run Tryz.prog (Instr.typeAssert (.iface 9 (.string s)) 20 4 true) w = .ok (.tuple #[.bool false, .bool false]) w := by kernel_rfl
theorem ta9_9 (s : ByteArray) (w : World) : Sem.run Tryz.prog (Instr.typeAssert (.iface 9 (.string s)) 20 9 true) w = .ok (.tuple #[.string s, .bool true]) w := by kernel_rfl
theorem ta4_4 (b : Bool) (w : World) : Sem.run Tryz.prog (Instr.typeAssert (.iface 4 (.bool b)) 20 4 true) w = .ok (.tuple #[.bool b, .bool true]) w := by kernel_rfl
attribute [local go_sem] ta59 ta69 ta9_4 ta9_9 ta4_4
/-- A term that holds a string. -/
abbrev tm (s : ByteArray) : Obj := .cells #[.iface 59 (.string s), .pointer none] 65

theorem str_any (s : ByteArray) (w : World) :
    Calls Tryz.prog 35 #[.string s] w fun e w' => e = .returned (.pointer (some ⟨w.heap.size, 0, none⟩)) ∧ w.alloc (.cells #[.iface 59 (.string s), .pointer none] 65) = w' := by
  go_enter Tryz.func35, Tryz.ntmps35
  go_wp2
  go_ret
  exact ⟨rfl, rfl⟩

theorem operand_any (s : ByteArray) (k : Int) (w : World) :
    Calls Tryz.prog 63 #[.iface 59 (.string s), .int .i64 k] w fun e w' => e = .returned (.tuple #[.string s, .nilIface]) ∧ w = w' := by
  go_enter Tryz.func63, Tryz.ntmps63
  go_wp2
  go_ret2
  exact ⟨rfl, rfl⟩

theorem newValue_any (s : ByteArray) (w : World) :
    Calls Tryz.prog 84 #[.string s] w fun e w' => e = .returned (.iface 59 (.string s)) ∧ w = w' := by
  go_enter Tryz.func84, Tryz.ntmps84
  go_wp2
  refine bodyPost_ret (v := .iface 59 (.string s)) (by simp [results, Tryz.results84, go_sem]) rfl ⟨rfl, rfl⟩

theorem interned_any (s : ByteArray) (w : World) :
    Calls Tryz.prog 68 #[.string s] w fun e w' => e = .returned (.pointer (some ⟨w.heap.size, 0, none⟩)) ∧ w.alloc (.cells #[.iface 59 (.string s), .pointer none] 65) = w' := by
  go_enter Tryz.func68, Tryz.ntmps68
  go_wp2_with (first | (go_at_call 84; refine (newValue_any _ _).mono ?_; rintro e w' ⟨rfl, rfl⟩) | go_in)
  go_ret
  exact ⟨rfl, rfl⟩

theorem isString_any (a : Addr) (s : ByteArray) (w : World) (h : w.cell? a = some (.iface 59 (.string s))) :
    Calls Tryz.prog 33 #[.pointer (some a), .nilIface] w fun e w' => e = .returned (.tuple #[.string s, .bool true]) ∧ w = w' := by
  go_enter Tryz.func33, Tryz.ntmps33
  go_wp2
  go_ret2
  exact ⟨rfl, rfl⟩

/-- What a builtin leaves: it has handed a term that holds s' to the closure, which has stored it at r; below nothing else has turned. -/
def BPost (s' : ByteArray) (W : World) (r : Addr) (e : Ending) (w' : World) : Prop :=
  e = .returned .nilIface ∧ ∃ W1 p, Below W.heap.size W W1 ∧ w' = W1.setCell r (.pointer (some p)) ∧ W1.cell? p = some (.iface 59 (.string s'))

/-- What a call of a builtin hands back. -/
def CPost (s' : ByteArray) (w : World) (e : Ending) (w' : World) : Prop :=
  ∃ p, e = .returned (.tuple #[.pointer (some p), .nilIface]) ∧ Below w.heap.size w w' ∧ w'.cell? p = some (.iface 59 (.string s'))

set_option maxHeartbeats 400000 in
theorem call_any (K : Nat) (ops : Value) (s' : ByteArray) (w : World)
    (hK : ∀ args w, (callFunc K args).run Tryz.prog w = .ok (.enter K args) w)
    (hb : Calls Tryz.prog K #[.agg #[.nilIface], ops, .func (.func 62) #[] #[.pointer (some ⟨w.heap.size, 0, none⟩)]] (w.alloc (.cells #[.pointer none] 46)) (BPost s' (w.alloc (.cells #[.pointer none] 46)) ⟨w.heap.size, 0, none⟩)) :
    Calls Tryz.prog 50 #[.func (.func K) #[] #[], ops] w (CPost s' w) := by
  have H := Lib.hid hb
  clear hb
  go_enter Tryz.func50, Tryz.ntmps50
  go_wp2_with fail
  refine H.out.mono ?_
  rintro e w' ⟨rfl, W1, p, hB, rfl, hp⟩
  have hs : w.heap.size + 1 ≤ W1.heap.size := by have := hB.size; simpa using this
  have hr : W1.cell? ⟨w.heap.size, 0, none⟩ = some (.pointer none) := by rw [hB.cell (p := ⟨w.heap.size, 0, none⟩) (by simp)]; simp
  have hf : W1.frozen? ⟨w.heap.size, 0, none⟩ = false := by rw [hB.frozen (p := ⟨w.heap.size, 0, none⟩) (by simp)]; simp
  go_wp2
  go_ret2
  refine ⟨p, rfl, ?_, ?_⟩
  · exact (((Below.refl _ w).alloc (Nat.le_refl _) _).trans (hB.mono (by simp))).setCell (Nat.le_refl _) _
  · have hne : p ≠ ⟨w.heap.size, 0, none⟩ := by rintro rfl; rw [hr] at hp; cases hp
    rw [World.cell?_setCell_other _ _ _ _ (Ne.symm hne)]; exact hp

theorem toUpper_a (w : World) : Calls Tryz.prog 79 #[.string ⟨#[97]⟩] w fun e w' => e = .returned (.string ⟨#[65]⟩) ∧ Below w.heap.size w w' := by
  refine (Tryz.strings_ToUpper_ascii ⟨#[97]⟩ w (by decide) ?_).mono ?_
  · intro j b hb
    match j, hb with
    | 0, hb => simp at hb; subst hb; decide
    | j + 1, hb => simp at hb
  · rintro e w' ⟨rfl, hB⟩
    have h : Lib.toUpperA [97] = [65] := by decide +kernel
    exact ⟨by show Ending.returned (.string ⟨(Lib.toUpperA [97]).toArray⟩) = _; rw [h], hB⟩

theorem iter_any (p r : Addr) (w : World) (hr : (w.cell? r).isSome = true) (hf : w.frozen? r = false) :
    Calls Tryz.prog 62 #[.pointer (some p), .pointer (some r)] w fun e w' => e = .returned .nilIface ∧ w.setCell r (.pointer (some p)) = w' := by
  obtain ⟨v, hv⟩ := Option.isSome_iff_exists.1 hr
  clear hr
  go_enter Tryz.func62, Tryz.ntmps62
  go_wp2
  go_ret
  exact ⟨rfl, rfl⟩

/-- What r holds behind a callee, whatever block is laid. -/
theorem keep {W W1 : World} {r : Nat} (hB : Below W.heap.size W W1) (hr' : r < W.heap.size) (hr : W.cell? ⟨r, 0, none⟩ = some (.pointer none)) (hf : W.frozen? ⟨r, 0, none⟩ = false) :
    (∀ o, ((W1.alloc o).cell? ⟨r, 0, none⟩).isSome = true) ∧ (∀ o, (W1.alloc o).frozen? ⟨r, 0, none⟩ = false) := by
  have h := hB.size
  refine ⟨fun o => ?_, fun o => ?_⟩
  · rw [World.cell?_alloc_lt _ _ _ (show r < _ by omega), hB.cell (p := ⟨r, 0, none⟩) hr', hr]; rfl
  · have hB2 := hB.alloc h o
    rw [hB2.frozen (p := ⟨r, 0, none⟩) hr', hf]

theorem bpost_new {s' : ByteArray} {W W1 : World} {r : Nat} (hB : Below W.heap.size W W1) :
    BPost s' W ⟨r, 0, none⟩ (.returned .nilIface) ((W1.alloc (.cells #[.iface 59 (.string s'), .pointer none] 65)).setCell ⟨r, 0, none⟩ (.pointer (some ⟨W1.heap.size, 0, none⟩))) :=
  ⟨rfl, _, _, hB.alloc (hB.size) _, rfl, by simp⟩
theorem bpost_old {s' : ByteArray} {W W1 : World} {r : Nat} {p : Addr} (hB : Below W.heap.size W W1) (hp : W1.cell? p = some (.iface 59 (.string s'))) :
    BPost s' W ⟨r, 0, none⟩ (.returned .nilIface) (W1.setCell ⟨r, 0, none⟩ (.pointer (some p))) :=
  ⟨rfl, _, _, hB, rfl, hp⟩

/-- One operand: the slice lies in block bs, the term in block t, the captured variable in block r. -/
structure Ops1 (W : World) (s : ByteArray) (bs t r : Nat) : Prop where
  bs_lt : bs < W.heap.size
  t_lt : t < W.heap.size
  r_lt : r < W.heap.size
  hs : W.cell? ⟨bs, 0, none⟩ = some (.pointer (some ⟨t, 0, none⟩))
  ht : W.cell? ⟨t, 0, none⟩ = some (.iface 59 (.string s))
  hr : W.cell? ⟨r, 0, none⟩ = some (.pointer none)
  hf : W.frozen? ⟨r, 0, none⟩ = false

theorem ops1_at (w : World) (s : ByteArray) : Ops1 (((w.alloc (.cells #[.iface 59 (.string s), .pointer none] 65)).alloc (.cells #[.pointer (some ⟨w.heap.size, 0, none⟩)] 46)).alloc (.cells #[.pointer none] 46)) s (w.heap.size + 1) w.heap.size (w.heap.size + 2) :=
  ⟨by simp, by simp; omega, by simp, by go_simp, by go_simp, by go_simp, by go_simp⟩

set_option maxHeartbeats 400000 in
theorem bUpper (W : World) (bs t r : Nat) (h : Ops1 W ⟨#[97]⟩ bs t r) :
    Calls Tryz.prog 61 #[.agg #[.nilIface], .slice (some ⟨bs, 0, none⟩) 1 1, .func (.func 62) #[] #[.pointer (some ⟨r, 0, none⟩)]] W (BPost ⟨#[65]⟩ W ⟨r, 0, none⟩) := by
  obtain ⟨hbs, ht', hr', hs, ht, hr, hf⟩ := h
  go_enter Tryz.func61, Tryz.ntmps61
  go_wp2_with (first
    | (go_at_call 63; refine (operand_any _ _ _).mono ?_; rintro e w' ⟨rfl, rfl⟩)
    | (go_at_call 79; refine (toUpper_a _).mono ?_; rintro e W1 ⟨rfl, hB⟩))
  have hB1 := (((Below.refl _ W).alloc (Nat.le_refl _) _).trans (hB.mono (by simp)))
  obtain ⟨hr1, hf1⟩ := keep hB1 hr' hr hf
  have hne : r ≠ W1.heap.size := by have := hB1.size; omega
  have HB := Lib.hid hB1
  clear hB hB1 hr hf hs ht
  go_wp2_with (first
    | (go_at_call 68; refine (interned_any _ _).mono ?_; rintro e w' ⟨rfl, rfl⟩)
    | (go_at_call 62; refine (iter_any _ _ _ (hr1 _) (hf1 _)).mono ?_; rintro e w' ⟨rfl, rfl⟩))
  go_ret
  exact bpost_new HB.out

theorem call1 (K : Nat) (s s' : ByteArray) (w : World) (hK : ∀ args w, (callFunc K args).run Tryz.prog w = .ok (.enter K args) w)
    (hb : ∀ W bs t r, Ops1 W s bs t r → Calls Tryz.prog K #[.agg #[.nilIface], .slice (some ⟨bs, 0, none⟩) 1 1, .func (.func 62) #[] #[.pointer (some ⟨r, 0, none⟩)]] W (BPost s' W ⟨r, 0, none⟩)) :
    Calls Tryz.prog 50 #[.func (.func K) #[] #[], .slice (some ⟨w.heap.size + 1, 0, none⟩) 1 1] ((w.alloc (.cells #[.iface 59 (.string s), .pointer none] 65)).alloc (.cells #[.pointer (some ⟨w.heap.size, 0, none⟩)] 46)) (fun e w' => ∃ p, e = .returned (.tuple #[.pointer (some p), .nilIface]) ∧ Below w.heap.size w w' ∧ w'.cell? p = some (.iface 59 (.string s'))) := by
  refine (call_any K _ s' _ hK ?_).mono ?_
  · simpa using hb _ _ _ _ (ops1_at w s)
  rintro e w' ⟨p, he, hB, hp⟩
  exact ⟨p, he, (((Below.refl _ w).alloc (Nat.le_refl _) _).alloc (by simp) _).trans (hB.mono (by simp; omega)), hp⟩

set_option maxHeartbeats 400000 in
theorem upper_a (w : World) : Calls Tryz.prog 32 #[.string ⟨#[97]⟩] w fun e w' => e = .returned (.tuple #[.string ⟨#[65]⟩, .bool true]) ∧ Below w.heap.size w w' := by
  have H := Lib.hid (call1 61 ⟨#[97]⟩ ⟨#[65]⟩ w (enters_of Tryz.func61 (by kernel_rfl) rfl) bUpper)
  go_enter Tryz.func32, Tryz.ntmps32
  go_wp2_with (first
    | (go_at_call 35; refine (str_any _ _).mono ?_; rintro e w' ⟨rfl, rfl⟩)
    | (go_at_call 50; refine H.out.mono ?_; rintro e w' ⟨p, rfl, hB, hp⟩)
    | (go_at_call 33; refine (isString_any _ _ _ hp).mono ?_; rintro e w' ⟨rfl, rfl⟩)
    | go_in)
  go_ret2
  exact ⟨rfl, hB⟩

theorem alive_any (w : World) : Calls Tryz.prog 10 #[] w fun e w' => e = .returned (.bool true) ∧ Below w.heap.size w w' := by
  go_enter Tryz.func10, Tryz.ntmps10
  go_wp2_with (go_at_call 32; refine (upper_a _).mono ?_; rintro e w' ⟨rfl, hB⟩)
  go_ret
  exact ⟨rfl, hB⟩

theorem is_same (s : ByteArray) (w : World) : Calls Tryz.prog 12 #[.string s, .string s, .bool true] w fun e w' => e = .returned (.bool true) ∧ w = w' := by
  go_enter Tryz.func12, Tryz.ntmps12
  go_wp2
  go_ret
  exact ⟨rfl, rfl⟩

theorem of_true (s : ByteArray) (w : World) : Calls Tryz.prog 16 #[.string s, .bool true] w fun e w' => e = .returned (.string s) ∧ w = w' := by
  go_enter Tryz.func16, Tryz.ntmps16
  go_wp2
  go_ret
  exact ⟨rfl, rfl⟩

end Go.Proofs.YtinmmchjfifcgaaGreatDoor
