import Derived.Test.Qxb6600851aNumPart
/-! The plain law: the automaton of numberPart over a list of bytes. -/
namespace Go.Proofs.Qxb6600851a.Grammar
open NumPart

/-- The part after the first k bytes; none: some byte was refused. -/
def A (zs : List Int) : Nat → Option Int
  | 0 => some 0
  | k + 1 => match A zs k with
    | none => none
    | some q => if (np q (zs.getD k 0) k).2 = true then some (np q (zs.getD k 0) k).1 else none
/-- May a number end in this part? -/
def fin (q : Int) : Bool := q != 0 && q != 3 && q != 5 && q != 6
/-- The first n bytes are a number. -/
def isNum (zs : List Int) (n : Nat) : Bool := match A zs n with
  | none => false
  | some q => fin q

theorem A_yes {zs : List Int} {k : Nat} {q q' : Int} (h : A zs k = some q) (hs : np q (zs.getD k 0) k = (q', true)) : A zs (k + 1) = some q' := by
  rw [A, h]; simp only [hs]; rfl
theorem A_no {zs : List Int} {k : Nat} {q : Int} (h : A zs k = some q) (hs : (np q (zs.getD k 0) k).2 = false) : A zs (k + 1) = none := by
  rw [A, h]; simp only [hs]; rfl
theorem A_dead {zs : List Int} {k : Nat} (h : A zs k = none) (m : Nat) : A zs (k + m) = none := by
  induction m with
  | zero => exact h
  | succ m ih => rw [← Nat.add_assoc, A, ih]
theorem isNum_dead {zs : List Int} {k n : Nat} (h : A zs k = none) (hk : k ≤ n) : isNum zs n = false := by
  obtain ⟨m, rfl⟩ : ∃ m, n = k + m := ⟨n - k, by omega⟩
  rw [isNum, A_dead h]
theorem isNum_at {zs : List Int} {n : Nat} {q : Int} (h : A zs n = some q) : isNum zs n = fin q := by
  rw [isNum, h]

/-- The byte at k is refused: no number. -/
theorem stop {zs : List Int} {k n : Nat} {q : Int} (h : A zs k = some q) (hk : k < n) (hs : (np q (zs.getD k 0) k).2 = false) : isNum zs n = false :=
  isNum_dead (A_no h hs) hk

theorem A_take {zs ys : List Int} {n : Nat} (h : ∀ i, i < n → zs.getD i 0 = ys.getD i 0) (k : Nat) (hk : k ≤ n) : A zs k = A ys k := by
  induction k with
  | zero => rfl
  | succ k ih => rw [A, A, ih (by omega), h k (by omega)]

theorem fin_no {q : Int} (h : fin q = false) : q = 0 ∨ q = 3 ∨ q = 5 ∨ q = 6 := by
  unfold fin at h
  simp only [Bool.and_eq_false_iff, bne_eq_false_iff_eq] at h
  omega

/-- A digit nought behind whatever is not yet a number: it is one then. -/
theorem pad {zs ys : List Int} {n : Nat} (h : ∀ i, i < n → zs.getD i 0 = ys.getD i 0) (hp : ys.getD n 0 = 48) : (A zs n).isSome = (isNum zs n || isNum ys (n + 1)) := by
  have e := A_take h n (Nat.le_refl _)
  cases hA : A zs n with
  | none =>
    rw [hA] at e
    have : A ys (n + 1) = none := by rw [A, ← e]
    rw [isNum, hA, isNum, this]; rfl
  | some q =>
    rw [hA] at e
    rw [isNum_at hA]
    cases hf : fin q with
    | true => rfl
    | false =>
      have hs : (isNum ys (n + 1)) = true := by
        obtain rfl | rfl | rfl | rfl := fin_no hf
        · exact isNum_at (A_yes e.symm (q' := 1) (by rw [hp]; unfold np; rw [if_neg (by omega)]; rfl))
        · exact isNum_at (A_yes e.symm (q' := 4) (by rw [hp]; rfl))
        · exact isNum_at (A_yes e.symm (q' := 7) (by rw [hp]; rfl))
        · exact isNum_at (A_yes e.symm (q' := 7) (by rw [hp]; rfl))
      rw [hs]; rfl

/-! What numberPart says, way by way. -/
theorem no0 {c p : Int} (hm : ¬ (c = 45 ∧ p = 0)) (hd : ¬ (48 ≤ c ∧ c ≤ 57)) : (np 0 c p).2 = false := by
  unfold np; repeat' split
  all_goals first | rfl | (exfalso; omega)
theorem no1 {c p : Int} (h1 : c ≠ 46) (h2 : c ≠ 101) (h3 : c ≠ 69) : (np 1 c p).2 = false := by
  unfold np; repeat' split
  all_goals first | rfl | (exfalso; omega)
theorem no2 {c p : Int} (hd : ¬ (48 ≤ c ∧ c ≤ 57)) (h1 : c ≠ 46) (h2 : c ≠ 101) (h3 : c ≠ 69) : (np 2 c p).2 = false := by
  unfold np; repeat' split
  all_goals first | rfl | (exfalso; omega)
theorem no3 {c p : Int} (hd : ¬ (48 ≤ c ∧ c ≤ 57)) : (np 3 c p).2 = false := by
  unfold np; repeat' split
  all_goals first | rfl | (exfalso; omega)
theorem no4 {c p : Int} (hd : ¬ (48 ≤ c ∧ c ≤ 57)) (h2 : c ≠ 101) (h3 : c ≠ 69) : (np 4 c p).2 = false := by
  unfold np; repeat' split
  all_goals first | rfl | (exfalso; omega)
theorem no5 {c p : Int} (hd : ¬ (48 ≤ c ∧ c ≤ 57)) (h2 : c ≠ 43) (h3 : c ≠ 45) : (np 5 c p).2 = false := by
  unfold np; repeat' split
  all_goals first | rfl | (exfalso; omega)
theorem no6 {c p : Int} (hd : ¬ (48 ≤ c ∧ c ≤ 57)) : (np 6 c p).2 = false := by
  unfold np; repeat' split
  all_goals first | rfl | (exfalso; omega)
theorem no7 {c p : Int} (hd : ¬ (48 ≤ c ∧ c ≤ 57)) : (np 7 c p).2 = false := by
  unfold np; repeat' split
  all_goals first | rfl | (exfalso; omega)
theorem yes0m : np 0 45 0 = (0, true) := rfl
theorem yes0z {p : Int} : np 0 48 p = (1, true) := by
  unfold np; repeat' split
  all_goals first | rfl | (exfalso; omega)
theorem yes0d {c p : Int} (h1 : 49 ≤ c) (h2 : c ≤ 57) : np 0 c p = (2, true) := by
  unfold np; repeat' split
  all_goals first | rfl | (exfalso; omega)
theorem yes2 {c p : Int} (h1 : 48 ≤ c) (h2 : c ≤ 57) : np 2 c p = (2, true) := by
  unfold np; repeat' split
  all_goals first | rfl | (exfalso; omega)
theorem yes3 {c p : Int} (h1 : 48 ≤ c) (h2 : c ≤ 57) : np 3 c p = (4, true) := by
  unfold np; repeat' split
  all_goals first | rfl | (exfalso; omega)
theorem yes4 {c p : Int} (h1 : 48 ≤ c) (h2 : c ≤ 57) : np 4 c p = (4, true) := by
  unfold np; repeat' split
  all_goals first | rfl | (exfalso; omega)
theorem yes5 {c p : Int} (h1 : 48 ≤ c) (h2 : c ≤ 57) : np 5 c p = (7, true) := by
  unfold np; repeat' split
  all_goals first | rfl | (exfalso; omega)
theorem yes6 {c p : Int} (h1 : 48 ≤ c) (h2 : c ≤ 57) : np 6 c p = (7, true) := by
  unfold np; repeat' split
  all_goals first | rfl | (exfalso; omega)
theorem yes7 {c p : Int} (h1 : 48 ≤ c) (h2 : c ≤ 57) : np 7 c p = (7, true) := by
  unfold np; repeat' split
  all_goals first | rfl | (exfalso; omega)
theorem yesp {q p : Int} (h : q = 1 ∨ q = 2) : np q 46 p = (3, true) := by
  rcases h with rfl | rfl <;> rfl
theorem yese {q c p : Int} (h : q = 1 ∨ q = 2 ∨ q = 4) (hc : c = 101 ∨ c = 69) : np q c p = (5, true) := by
  rcases h with rfl | rfl | rfl <;> rcases hc with rfl | rfl <;> rfl
theorem yess {c p : Int} (hc : c = 43 ∨ c = 45) : np 5 c p = (6, true) := by
  rcases hc with rfl | rfl <;> rfl
end Go.Proofs.Qxb6600851a.Grammar
