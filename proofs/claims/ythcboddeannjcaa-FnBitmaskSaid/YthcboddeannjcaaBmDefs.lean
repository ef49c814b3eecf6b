/- What the plain law of FnBitmask and FnBitmaskHalf asks at one n, immr, imms. -/
import Derived.Test.YthcboddeannjcaaHb
import Derived.Test.YthcboddeannjcaaPFnBitmaskx1
namespace Go.Proofs.Ythcboddeannjcaa.Hb
open Go.RowKit Go.Proofs.Ythcboddeannjcaa.PFnBitmask
/-- At one n, immr, imms: elements of ones alone; or both tell none; or both tell one number. -/
def same (n r s : Nat) : Bool :=
  match spec_Full.f 7 n s with
  | some true => true
  | some false => match hb 64 n s r, spec_Bitmask.f 80 n r s with
    | none, some (_, false) => true
    | some m, some (m', true) => m == m'
    | _, _ => false
  | none => false
/-- What is asked of the three answers for 32 bits. -/
def core (F : Option Bool) (H : Option Int) (S : Option (Int × Bool)) : Bool :=
  match F with
  | some true => true
  | some false => match H, S with
    | none, some (_, false) => true
    | some m, some (m', true) => decide (0 ≤ m) && decide (0 ≤ m') && m % 4294967296 == m' % 4294967296
    | _, _ => false
  | none => false
theorem core_says (F : Option Bool) (H : Option Int) (S : Option (Int × Bool)) (h : core F H S = true) :
    F = some true ∨ F = some false ∧ ((H = none ∧ ∃ m', S = some (m', false)) ∨ ∃ m m', H = some m ∧ S = some (m', true) ∧ 0 ≤ m ∧ 0 ≤ m' ∧ (m % 4294967296 == m' % 4294967296) = true) := by
  rcases F with _ | _ | _
  · exact absurd h (by simp [core])
  · refine .inr ⟨rfl, ?_⟩
    rcases H with _ | m <;> rcases S with _ | ⟨m', _ | _⟩
    · exact absurd h (by simp [core])
    · exact .inl ⟨rfl, m', rfl⟩
    · exact absurd h (by simp [core])
    · exact absurd h (by simp [core])
    · exact absurd h (by simp [core])
    · unfold core at h
      rw [Bool.and_eq_true, Bool.and_eq_true] at h
      exact .inr ⟨m, m', rfl, rfl, of_decide_eq_true h.1.1, of_decide_eq_true h.1.2, h.2⟩
  · exact .inl rfl
def sameHalf (r s : Nat) : Bool := core (spec_Full.f 7 0 s) (hb 32 0 s r) (spec_Bitmask.f 80 0 r s)
def row (n r : Nat) : Bool := (List.range 64).all fun s => same n r s
def rowHalf (r : Nat) : Bool := (List.range 64).all fun s => sameHalf r s
def rows (n a : Nat) : Bool := (List.range 16).all fun r => row n (a + r)
def rowsHalf (a : Nat) : Bool := (List.range 16).all fun r => rowHalf (a + r)
end Go.Proofs.Ythcboddeannjcaa.Hb
