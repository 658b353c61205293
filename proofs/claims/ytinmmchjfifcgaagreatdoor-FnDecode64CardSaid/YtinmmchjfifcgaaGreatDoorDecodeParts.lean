/- What Encoding.Decode is to leave, and the letters of a source. -/
import Derived.Test.YtinmmchjfifcgaaGreatDoorQuantumShort
import Derived.Test.YtinmmchjfifcgaaGreatDoorDecLen
namespace Go.Proofs.YtinmmchjfifcgaaGreatDoor
open Go.RowKit
set_option maxRecDepth 100000

theorem drop_at {S : List UInt8} {si : Nat} {l : List UInt8} (h : S.drop si = l) (j : Nat) : S[si + j]? = l[j]? := by rw [← h, List.getElem?_drop]
theorem src_cell {sb : Nat} {S : List UInt8} {w : World} (hS : ∀ j (h : j < S.length), w.cell? ⟨sb, j, none⟩ = some (.int .u8 (S[j].toNat : Int))) {j : Nat} {x : UInt8} (h : S[j]? = some x) : w.cell? ⟨sb, j, none⟩ = some (.int .u8 (x.toNat : Int)) := by
  obtain ⟨hj, rfl⟩ := List.getElem?_eq_some_iff.1 h
  exact hS j hj
theorem src_nl {S : List UInt8} (hn : ∀ j (h : j < S.length), ((S[j].toNat : Int) == 10) = false ∧ ((S[j].toNat : Int) == 13) = false) {j : Nat} {x : UInt8} (h : S[j]? = some x) : ((x.toNat : Int) == 10) = false ∧ ((x.toNat : Int) == 13) = false := by
  obtain ⟨hj, rfl⟩ := List.getElem?_eq_some_iff.1 h
  exact hn j hj
theorem qin_of {sb si : Nat} {S : List UInt8} {a b c d : UInt8} {r : List UInt8} {w : World} (h : S.drop si = a :: b :: c :: d :: r) (hS : ∀ j (h : j < S.length), w.cell? ⟨sb, j, none⟩ = some (.int .u8 (S[j].toNat : Int)))
    (hn : ∀ j (h : j < S.length), ((S[j].toNat : Int) == 10) = false ∧ ((S[j].toNat : Int) == 13) = false) : QIn sb si S a b c d r w where
  s0 := src_cell hS (by simpa using drop_at h 0)
  s1 := src_cell hS (by simpa using drop_at h 1)
  s2 := src_cell hS (by simpa using drop_at h 2)
  s3 := src_cell hS (by simpa using drop_at h 3)
  s4 := fun e r' hr => src_cell hS (by subst hr; simpa using drop_at h 4)
  len := by
    have := congrArg List.length h
    rw [List.length_drop] at this
    simp only [List.length_cons] at this; omega
  n0 := src_nl hn (by simpa using drop_at h 0)
  n1 := src_nl hn (by simpa using drop_at h 1)
  n2 := src_nl hn (by simpa using drop_at h 2)
  n3 := src_nl hn (by simpa using drop_at h 3)
  ne := fun e r' hr => src_nl hn (by subst hr; simpa using drop_at h 4)

/-- What Decode leaves. -/
def DecodePost (S : List UInt8) (db D : Nat) (w : World) (e : Ending) (w' : World) : Prop :=
  ∃ X', Dst db X' w' ∧ X'.length = D ∧ Oth w.heap.size db w w' ∧
   ((∃ R, dec S = some R ∧ R.length ≤ D ∧ e = .returned (.tuple #[.int .i64 (R.length : Int), .nilIface]) ∧ X'.take R.length = R) ∨
    (dec S = none ∧ ∃ (n : Nat) (v : Value), n ≤ D ∧ e = .returned (.tuple #[.int .i64 (n : Int), .iface 180 v])))

end Go.Proofs.YtinmmchjfifcgaaGreatDoor
