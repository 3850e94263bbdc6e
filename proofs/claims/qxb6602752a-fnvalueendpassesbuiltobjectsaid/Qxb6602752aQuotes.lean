/-! The plain law: which quote closes a string. No program in sight. -/
namespace Go.Proofs.Qxb6602752a.Quotes

/-- Is the m-th byte behind the opening quote (from place s on) free of an escape? -/
def U (zs : List Int) (s : Nat) : Nat → Bool
  | 0 => true
  | m + 1 => !(U zs s m && zs.getD (s + m) 0 == 92)
theorem U_zero (zs : List Int) (s : Nat) : U zs s 0 = true := rfl
theorem U_other {zs : List Int} {s m : Nat} (h : zs.getD (s + m) 0 ≠ 92) : U zs s (m + 1) = true := by
  rw [U, beq_eq_false_iff_ne.2 h, Bool.and_false]; rfl
theorem U_back {zs : List Int} {s m : Nat} (h : zs.getD (s + m) 0 = 92) : U zs s (m + 1) = !U zs s m := by
  rw [U, h]; simp
theorem U_escaped {zs : List Int} {s m : Nat} (h : U zs s m = false) : U zs s (m + 1) = true := by
  rw [U, h]; rfl

/-- The quote at place s + m closes the string whose bytes begin at place s. -/
def Closes (zs : List Int) (s m : Nat) : Prop := zs.getD (s + m) 0 = 34 ∧ U zs s m = true ∧ ∀ j, j < m → U zs s j = true → zs.getD (s + j) 0 ≠ 34

/-- The bytes of the content, each quote and backslash behind a backslash. -/
def body : List Int → List Int
  | [] => []
  | c :: r => (if c = 34 ∨ c = 92 then [92, c] else [c]) ++ body r
/-- The string as it is written. -/
def enc (l : List Int) : List Int := 34 :: (body l ++ [34])

theorem body_append (l r : List Int) : body (l ++ r) = body l ++ body r := by
  induction l with
  | nil => rfl
  | cons c l ih => rw [List.cons_append, body, body, ih, List.append_assoc]
theorem body_one (c : Int) : body [c] = if c = 34 ∨ c = 92 then [92, c] else [c] := by simp [body]
theorem body_le (l : List Int) : l.length ≤ (body l).length ∧ (body l).length ≤ 2 * l.length := by
  induction l with
  | nil => exact ⟨Nat.le_refl _, Nat.le_refl _⟩
  | cons c l ih =>
    rw [body, List.length_append, List.length_cons]
    split <;> simp <;> omega

theorem getD_of_drop {zs : List Int} {k : Nat} {c : Int} {r : List Int} (h : zs.drop k = c :: r) : zs.getD k 0 = c ∧ zs.drop (k + 1) = r := by
  refine ⟨?_, ?_⟩
  · rw [List.getD_eq_getElem?_getD]
    have : (zs.drop k)[0]? = some c := by rw [h]; rfl
    rw [List.getElem?_drop, Nat.add_zero] at this
    rw [this]; rfl
  · have : (zs.drop k).drop 1 = r := by rw [h]; rfl
    rwa [List.drop_drop] at this

theorem passes (zs : List Int) (s : Nat) (l : List Int) : ∀ (m : Nat) (r : List Int), zs.drop (s + m) = body l ++ r → U zs s m = true → (∀ j, j < m → U zs s j = true → zs.getD (s + j) 0 ≠ 34) →
    U zs s (m + (body l).length) = true ∧ ∀ j, j < m + (body l).length → U zs s j = true → zs.getD (s + j) 0 ≠ 34 := by
  induction l with
  | nil => intro m r h hu hj; exact ⟨hu, hj⟩
  | cons c l ih =>
    intro m r h hu hj
    by_cases hc : c = 34 ∨ c = 92
    · rw [body, if_pos hc] at h
      obtain ⟨h0, h0'⟩ := getD_of_drop (by simpa using h)
      obtain ⟨h1, h1'⟩ := getD_of_drop h0'
      have hu1 : U zs s (m + 1) = false := by rw [U_back h0, hu]; rfl
      have hu2 : U zs s (m + 2) = true := U_escaped hu1
      have e : (body (c :: l)).length = 2 + (body l).length := by rw [body, if_pos hc]; simp; omega
      have hI := ih (m + 2) r (by rw [show s + (m + 2) = s + m + 1 + 1 by omega]; simpa using h1') hu2 (fun j hjl hju => by
        by_cases e1 : j < m
        · exact hj j e1 hju
        · by_cases e2 : j = m
          · subst e2; rw [h0]; decide
          · obtain rfl : j = m + 1 := by omega
            rw [hu1] at hju; cases hju)
      rw [e, show m + (2 + (body l).length) = m + 2 + (body l).length by omega]
      exact hI
    · rw [body, if_neg hc] at h
      obtain ⟨h0, h0'⟩ := getD_of_drop (by simpa using h)
      have hu1 : U zs s (m + 1) = true := U_other (by rw [h0]; exact fun e => hc (.inr e))
      have e : (body (c :: l)).length = 1 + (body l).length := by rw [body, if_neg hc]; simp; omega
      have hI := ih (m + 1) r (by rw [show s + (m + 1) = s + m + 1 by omega]; simpa using h0') hu1 (fun j hjl hju => by
        by_cases e1 : j < m
        · exact hj j e1 hju
        · obtain rfl : j = m := by omega
          rw [h0]; exact fun e => hc (.inl e))
      rw [e, show m + (1 + (body l).length) = m + 1 + (body l).length by omega]
      exact hI

/-- A string that is written somewhere in zs is closed by its own last quote. -/
theorem enc_closes {zs : List Int} {i : Nat} {l r : List Int} (h : zs.drop i = enc l ++ r) : Closes zs (i + 1) (body l).length := by
  unfold enc at h
  obtain ⟨_, h0'⟩ := getD_of_drop (by simpa using h)
  have h1 : zs.drop (i + 1 + 0) = body l ++ (34 :: r) := by simpa using h0'
  have hp := passes zs (i + 1) l 0 (34 :: r) h1 rfl (fun j hj => absurd hj (Nat.not_lt_zero _))
  rw [Nat.zero_add] at hp
  refine ⟨?_, hp.1, hp.2⟩
  have h2 : zs.drop (i + 1 + (body l).length) = 34 :: r := by
    rw [← List.drop_drop, show zs.drop (i + 1) = body l ++ (34 :: r) from h1]; simp
  exact (getD_of_drop h2).1
theorem enc_length (l : List Int) : (enc l).length = (body l).length + 2 := by simp [enc]
end Go.Proofs.Qxb6602752a.Quotes
