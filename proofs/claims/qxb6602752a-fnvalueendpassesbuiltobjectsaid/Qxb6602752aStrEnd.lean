import Derived.Test.Qxb6602752aRows
import Derived.Test.Qxb6602752aQuotes
import Derived.Test.Qxb6602752aBy8
import Derived.WalkKit
import Derived.WalkSpells
import Derived.ProofKit
namespace Go.Proofs.Qxb6602752a.StrEnd
open Go.RowKit Quotes By8
set_option linter.unusedSimpArgs false

theorem ret_int {a b : Int} (h : a = b) : Ending.returned (.int .i64 a) = .returned (.int .i64 b) := by rw [h]

set_option maxHeartbeats 400000 in
/-- stringEnd, where the string is closed. -/
theorem stringEnd_at (b off n cap s m : Nat) (zs : List Int) (w : World) (hn : n ≤ 1000000000) (hs0 : 1 ≤ s) (hm : s + m < n) (hcl : Closes zs s m)
    (hc : ∀ i, i < n → w.cell? ⟨b, off + i, none⟩ = some (.int .u8 (zs.getD i 0))) (i : Int) (hi : i = (s : Int) - 1) :
    Calls Try.prog 19 #[.slice (some ⟨b, off, none⟩) n cap, .int .i64 i] w fun e w' => e = .returned (.int .i64 ((s : Int) + m + 1)) ∧ w' = w := by
  have HC : Hid (∀ i, i < n → w.cell? ⟨b, off + i, none⟩ = some (.int .u8 (zs.getD i 0))) := hc
  have HX : Hid (Closes zs s m) := hcl
  clear hc hcl
  obtain ⟨i0, rfl⟩ : ∃ i0 : Nat, s = i0 + 1 := ⟨s - 1, by omega⟩
  obtain rfl : i = (i0 : Int) := by omega
  clear hi
  go_enter Try.func19, Try.ntmps19
  go_wp2
  go_loop [1] (fun t => ∃ j : Nat, t = .int .i64 ((i0 + 1 + j : Nat) : Int) ∧ j ≤ m ∧ Hid (U zs (i0 + 1) j = true)) (fun t => n - (intOf t).toNat)
  case atStart => exact ⟨0, by go_num, by omega, (rfl : U zs (i0 + 1) 0 = true)⟩
  case round =>
    obtain ⟨j, rfl, hj, HU⟩ := hrel
    have hcj := HC.out (i0 + 1 + j) (by omega)
    obtain ⟨z, hz⟩ : ∃ z, z = zs.getD (i0 + 1 + j) 0 := ⟨_, rfl⟩
    rw [← hz] at hcj
    have HZ : Hid (z = zs.getD (i0 + 1 + j) 0) := hz
    clear hz
    by_cases hjm : j = m
    · subst hjm
      have hz34 : z = 34 := HZ.out.trans HX.out.1
      subst hz34
      go_wp2
      go_ret
      exact ⟨ret_int (by omega), rfl⟩
    · have hne : z ≠ 34 := by rw [HZ.out]; exact HX.out.2.2 j (by omega) HU.out
      have hb34 : (z != 34) = true := by simp [hne]
      by_cases h92 : z = 92
      · have hb92 : (z == 92) = true := beq_iff_eq.2 h92
        have HU1 : Hid (U zs (i0 + 1) (j + 1) = false) := by
          show _ = _
          rw [U_back (HZ.out.symm.trans h92), HU.out]; rfl
        have hj1 : j + 1 < m := by
          have h1 : j + 1 ≠ m := by
            intro e
            have := HX.out.2.1
            rw [← e, HU1.out] at this
            cases this
          omega
        have HU2 : Hid (U zs (i0 + 1) (j + 1 + 1) = true) := U_escaped HU1.out
        clear hne h92
        go_wp2
        go_round
        case rel => exact ⟨j + 1 + 1, by go_num, by omega, HU2⟩
        case measure => simp [intOf]; omega
      · have hb92 : (z == 92) = false := beq_eq_false_iff_ne.2 h92
        have HU1 : Hid (U zs (i0 + 1) (j + 1) = true) := U_other (by rw [← HZ.out]; exact h92)
        clear hne h92
        go_wp2
        go_round
        case rel => exact ⟨j + 1, by go_num, by omega, HU1⟩
        case measure => simp [intOf]; omega

/-- The shim. -/
theorem zzStringEnd {a : Option Addr} {n cap : Nat} {i r : Int} {w : World} (h : Calls Try.prog 19 #[.slice a n cap, .int .i64 i] w fun e w' => e = .returned (.int .i64 r) ∧ w' = w) :
    Calls Try.prog 12 #[.slice a n cap, .int .i64 i] w fun e w' => e = .returned (.int .i64 r) ∧ w' = w := by
  have H : Hid (Calls Try.prog 19 #[.slice a n cap, .int .i64 i] w fun e w' => e = .returned (.int .i64 r) ∧ w' = w) := h
  clear h
  go_enter Try.func12, Try.ntmps12
  go_wp2_with (go_at_call 19; refine H.out.mono ?_; rintro e w' ⟨rfl, rfl⟩)
  go_ret
  exact ⟨rfl, rfl⟩

set_option maxHeartbeats 400000 in
/-- docB1QuoteClose: the closing quote, or -1. -/
theorem quoteClose_any (b off n cap i0 : Nat) (zs : List Int) (w : World) (hn : n ≤ 1000000000) (hi : i0 < n)
    (hc : ∀ i, i < n → w.cell? ⟨b, off + i, none⟩ = some (.int .u8 (zs.getD i 0))) :
    Calls Try.prog 11 #[.slice (some ⟨b, off, none⟩) n cap, .int .i64 i0] w fun e w' => w' = w ∧ (e = .returned (.int .i64 (-1)) ∨ ∃ m, i0 + 1 + m < n ∧ Closes zs (i0 + 1) m ∧ e = .returned (.int .i64 ((i0 + 1 + m : Nat) : Int))) := by
  have HC : Hid (∀ i, i < n → w.cell? ⟨b, off + i, none⟩ = some (.int .u8 (zs.getD i 0))) := hc
  clear hc
  go_enter Try.func11, Try.ntmps11
  go_wp2
  go_loop [5, 6] (fun run t => ∃ j r : Nat, t = .int .i64 ((i0 + 1 + j : Nat) : Int) ∧ run = .int .i64 (r : Int) ∧ i0 + 1 + j ≤ n ∧ r ≤ j ∧ Hid (U zs (i0 + 1) j = decide (r % 2 = 0)) ∧ Hid (∀ l, l < j → U zs (i0 + 1) l = true → zs.getD (i0 + 1 + l) 0 ≠ 34)) (fun _ t => n - (intOf t).toNat)
  case atStart => exact ⟨0, 0, by go_num, rfl, by omega, Nat.le_refl _, (rfl : U zs (i0 + 1) 0 = true), fun l hl => absurd hl (Nat.not_lt_zero _)⟩
  case round =>
    obtain ⟨j, r, rfl, rfl, hj, hr, HU, HN⟩ := hrel
    by_cases hlt : i0 + 1 + j < n
    · have hcj := HC.out (i0 + 1 + j) hlt
      obtain ⟨z, hz⟩ : ∃ z, z = zs.getD (i0 + 1 + j) 0 := ⟨_, rfl⟩
      rw [← hz] at hcj
      have HZ : Hid (z = zs.getD (i0 + 1 + j) 0) := hz
      clear hz
      by_cases h34 : z = 34
      · have hb : (z == 34) = true := beq_iff_eq.2 h34
        by_cases hev : r % 2 = 0
        · have hev' : ((r : Int) % 2 == 0) = true := beq_iff_eq.2 (by omega)
          have HCl : Hid (Closes zs (i0 + 1) j) := ⟨HZ.out.symm.trans h34, by rw [HU.out, decide_eq_true hev], HN.out⟩
          clear h34 hev
          go_wp2
          go_ret
          exact ⟨rfl, .inr ⟨j, hlt, HCl.out, rfl⟩⟩
        · have hev' : ((r : Int) % 2 == 0) = false := beq_eq_false_iff_ne.2 (by omega)
          have hUf : U zs (i0 + 1) j = false := by rw [HU.out]; exact decide_eq_false hev
          have h92 : (z == 92) = false := beq_eq_false_iff_ne.2 (by omega)
          have HU1 : Hid (U zs (i0 + 1) (j + 1) = decide (0 % 2 = 0)) := U_escaped hUf
          have HN1 : Hid (∀ l, l < j + 1 → U zs (i0 + 1) l = true → zs.getD (i0 + 1 + l) 0 ≠ 34) := fun l hl hu => by
            by_cases e : l = j
            · rw [e, hUf] at hu; cases hu
            · exact HN.out l (by omega) hu
          clear h34 hev hUf
          go_wp2
          go_round
          case rel => exact ⟨j + 1, 0, by go_num, by go_num, by omega, by omega, HU1, HN1⟩
          case measure => simp [intOf]; omega
      · have hb : (z == 34) = false := beq_eq_false_iff_ne.2 h34
        have HN1 : Hid (∀ l, l < j + 1 → U zs (i0 + 1) l = true → zs.getD (i0 + 1 + l) 0 ≠ 34) := fun l hl hu => by
          by_cases e : l = j
          · rw [e, ← HZ.out]; exact h34
          · exact HN.out l (by omega) hu
        by_cases h92 : z = 92
        · have hb2 : (z == 92) = true := beq_iff_eq.2 h92
          have HU1 : Hid (U zs (i0 + 1) (j + 1) = decide ((r + 1) % 2 = 0)) := by
            show _ = _
            rw [U_back (HZ.out.symm.trans h92), HU.out]
            by_cases e : r % 2 = 0
            · rw [decide_eq_true e, decide_eq_false (by omega)]; rfl
            · rw [decide_eq_false e, decide_eq_true (by omega)]; rfl
          clear h34 h92
          go_wp2
          go_round
          case rel => exact ⟨j + 1, r + 1, by go_num, by go_num, by omega, by omega, HU1, HN1⟩
          case measure => simp [intOf]; omega
        · have hb2 : (z == 92) = false := beq_eq_false_iff_ne.2 h92
          have HU1 : Hid (U zs (i0 + 1) (j + 1) = decide (0 % 2 = 0)) := U_other (by rw [← HZ.out]; exact h92)
          clear h34 h92
          go_wp2
          go_round
          case rel => exact ⟨j + 1, 0, by go_num, by go_num, by omega, by omega, HU1, HN1⟩
          case measure => simp [intOf]; omega
    · go_wp2
      go_ret
      exact ⟨rfl, .inl rfl⟩
end Go.Proofs.Qxb6602752a.StrEnd
