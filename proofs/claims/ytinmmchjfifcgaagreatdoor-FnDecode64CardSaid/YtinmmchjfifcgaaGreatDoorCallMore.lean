/- How a built-in function is called where it hands over a term of any kind, or returns an error; terms of bool. -/
import Derived.Test.YtinmmchjfifcgaaGreatDoorWalkReplace
namespace Go.Proofs.YtinmmchjfifcgaaGreatDoor
open Go.RowKit
set_option maxRecDepth 100000
theorem ta69' (b : Bool) (w : World) : Sem.run Tryz.prog (Instr.typeAssert (.iface 69 (.bool b)) 62 69 true) w = .ok (.tuple #[.bool b, .bool true]) w := by kernel_rfl
theorem ta4_4' (b : Bool) (w : World) : Sem.run Tryz.prog (Instr.typeAssert (.iface 4 (.bool b)) 20 4 true) w = .ok (.tuple #[.bool b, .bool true]) w := by kernel_rfl
attribute [local go_sem] ta69' ta4_4'

theorem newBool_any (b : Bool) (w : World) : Calls Tryz.prog 96 #[.bool b] w fun e w' => e = .returned (.iface 69 (.bool b)) ∧ w = w' := by
  go_enter Tryz.func96, Tryz.ntmps96
  go_wp2
  refine bodyPost_ret (v := .iface 69 (.bool b)) (by simp [results, Tryz.results96, go_sem]) rfl ⟨rfl, rfl⟩
theorem internedBool_any (b : Bool) (w : World) : Calls Tryz.prog 78 #[.bool b] w fun e w' => e = .returned (.pointer (some ⟨w.heap.size, 0, none⟩)) ∧ w.alloc (.cells #[.iface 69 (.bool b), .pointer none] 65) = w' := by
  go_enter Tryz.func78, Tryz.ntmps78
  go_wp2_with (first
    | (go_at_call 96; refine (newBool_any _ _).mono ?_; rintro e w' ⟨rfl, rfl⟩)
    | go_in)
  go_ret
  exact ⟨rfl, rfl⟩
theorem isTrue_any (a : Addr) (b : Bool) (w : World) (h : w.cell? a = some (.iface 69 (.bool b))) : Calls Tryz.prog 46 #[.pointer (some a), .nilIface] w fun e w' => e = .returned (.tuple #[.bool b, .bool true]) ∧ w = w' := by
  go_enter Tryz.func46, Tryz.ntmps46
  go_wp2
  go_ret2
  exact ⟨rfl, rfl⟩
theorem isString_err (v : Value) (w : World) : Calls Tryz.prog 33 #[.pointer none, .iface 180 v] w fun e w' => e = .returned (.tuple #[.string ⟨#[]⟩, .bool false]) ∧ w = w' := by
  go_enter Tryz.func33, Tryz.ntmps33
  go_wp2
  go_ret2
  exact ⟨rfl, rfl⟩

/-- What a builtin leaves that has handed a term holding tv to the closure. -/
def VPost (tv : Value) (W : World) (r : Addr) (e : Ending) (w' : World) : Prop :=
  e = .returned .nilIface ∧ ∃ W1 p, Below W.heap.size W W1 ∧ w' = W1.setCell r (.pointer (some p)) ∧ W1.cell? p = some tv
/-- What a builtin leaves that returns an error. -/
def EPost (W : World) (e : Ending) (w' : World) : Prop := ∃ v, e = .returned (.iface 180 v) ∧ Below W.heap.size W w'

set_option maxHeartbeats 400000 in
theorem callV_any (K : Nat) (ops : Value) (tv : Value) (htv : tv ≠ .pointer none) (w : World)
    (hK : ∀ args w, (callFunc K args).run Tryz.prog w = .ok (.enter K args) w)
    (hb : Calls Tryz.prog K #[.agg #[.nilIface], ops, .func (.func 62) #[] #[.pointer (some ⟨w.heap.size, 0, none⟩)]] (w.alloc (.cells #[.pointer none] 46)) (VPost tv (w.alloc (.cells #[.pointer none] 46)) ⟨w.heap.size, 0, none⟩)) :
    Calls Tryz.prog 50 #[.func (.func K) #[] #[], ops] w fun e w' => ∃ p, e = .returned (.tuple #[.pointer (some p), .nilIface]) ∧ Below w.heap.size w w' ∧ w'.cell? p = some tv := by
  have H := Lib.hid hb
  clear hb
  go_enter Tryz.func50, Tryz.ntmps50
  go_wp2_with fail
  refine H.out.mono ?_
  rintro e w' ⟨rfl, W1, p, hB, rfl, hp⟩
  have hs : w.heap.size + 1 ≤ W1.heap.size := by have := hB.size; simpa using this
  have hr : W1.cell? ⟨w.heap.size, 0, none⟩ = some (.pointer none) := by rw [hB.cell (p := ⟨w.heap.size, 0, none⟩) (by simp)]; simp
  have hf : W1.frozen? ⟨w.heap.size, 0, none⟩ = false := by rw [hB.frozen (p := ⟨w.heap.size, 0, none⟩) (by simp)]; simp
  have HTV := Lib.hid htv
  have HP := Lib.hid hp
  clear htv hp
  go_wp2
  go_ret2
  refine ⟨p, rfl, ?_, ?_⟩
  · exact (((Below.refl _ w).alloc (Nat.le_refl _) _).trans (hB.mono (by simp))).setCell (Nat.le_refl _) _
  · have hne : p ≠ ⟨w.heap.size, 0, none⟩ := by
      rintro rfl
      have h := HP.out
      rw [hr] at h
      exact HTV.out (Option.some.inj h).symm
    rw [World.cell?_setCell_other _ _ _ _ (Ne.symm hne)]; exact HP.out

set_option maxHeartbeats 400000 in
theorem callE_any (K : Nat) (ops : Value) (w : World)
    (hK : ∀ args w, (callFunc K args).run Tryz.prog w = .ok (.enter K args) w)
    (hb : Calls Tryz.prog K #[.agg #[.nilIface], ops, .func (.func 62) #[] #[.pointer (some ⟨w.heap.size, 0, none⟩)]] (w.alloc (.cells #[.pointer none] 46)) (EPost (w.alloc (.cells #[.pointer none] 46)))) :
    Calls Tryz.prog 50 #[.func (.func K) #[] #[], ops] w fun e w' => ∃ v, e = .returned (.tuple #[.pointer none, .iface 180 v]) ∧ Below w.heap.size w w' := by
  have H := Lib.hid hb
  clear hb
  go_enter Tryz.func50, Tryz.ntmps50
  go_wp2_with fail
  refine H.out.mono ?_
  rintro e w' ⟨v, rfl, hB⟩
  have hr : w'.cell? ⟨w.heap.size, 0, none⟩ = some (.pointer none) := by rw [hB.cell (p := ⟨w.heap.size, 0, none⟩) (by simp)]; simp
  go_wp2
  go_ret2
  exact ⟨v, rfl, below_alloc hB⟩

end Go.Proofs.YtinmmchjfifcgaaGreatDoor
