import Derived.Test.Qxb6600851aGrammar
import Derived.Test.Qxb6600851aBy8
import Derived.WalkKit
import Derived.WalkSpells
import Derived.ProofKit
namespace Go.Proofs.Qxb6600851a.Grammar
open Go.RowKit NumPart By8
set_option linter.unusedSimpArgs false

theorem ret_bool' {a b : Bool} (h : b = a) : Ending.returned (.bool a) = .returned (.bool b) := by rw [h]
theorem ret_bools {a b c d : Bool} (h : c = a) (h' : d = b) : Ending.returned (.tuple #[.bool a, .bool b]) = .returned (.tuple #[.bool c, .bool d]) := by rw [h, h']

/-- zzPartIsFinal -/
theorem final_any (q : Int) (w : World) : Calls Try.prog 21 #[.int .i64 q] w fun e w' => e = .returned (.bool (fin q)) ∧ w' = w := by
  by_cases h0 : q = 0
  · subst h0
    go_enter Try.func21, Try.ntmps21
    go_wp2
    go_ret
    exact ⟨rfl, rfl⟩
  by_cases h3 : q = 3
  · subst h3
    go_enter Try.func21, Try.ntmps21
    go_wp2
    go_ret
    exact ⟨rfl, rfl⟩
  by_cases h5 : q = 5
  · subst h5
    go_enter Try.func21, Try.ntmps21
    go_wp2
    go_ret
    exact ⟨rfl, rfl⟩
  by_cases h6 : q = 6
  · subst h6
    go_enter Try.func21, Try.ntmps21
    go_wp2
    go_ret
    exact ⟨rfl, rfl⟩
  have HF : Hid (fin q = true) := by
    show fin q = true
    unfold fin
    simp [h0, h3, h5, h6]
  have b0 : (q != 0) = true := by simp [h0]
  have b3 : (q != 3) = true := by simp [h3]
  have b5 : (q != 5) = true := by simp [h5]
  have b6 : (q != 6) = true := by simp [h6]
  clear h0 h3 h5 h6
  go_enter Try.func21, Try.ntmps21
  go_wp2
  go_ret
  exact ⟨ret_bool' HF.out, rfl⟩

/-- ZZnumberPart at a known outcome. -/
theorem zz_at {part c p q : Int} {ok : Bool} (h : np part c p = (q, ok)) (w : World) :
    Calls Try.prog 17 #[.int .i64 part, .int .u8 c, .int .i64 p] w fun e w' => e = .returned (.tuple #[.int .i64 q, .bool ok]) ∧ w' = w := by
  have := zz_any part c p w
  rw [h] at this
  exact this

theorem isSome_dead {zs : List Int} {k n : Nat} (h : A zs k = none) (hk : k ≤ n) : (A zs n).isSome = false := by
  obtain ⟨m, rfl⟩ : ∃ m, n = k + m := ⟨n - k, by omega⟩
  rw [A_dead h]; rfl

set_option maxHeartbeats 400000 in
/-- zzRunNumber -/
theorem run_any (a : Option Addr) (n cap : Nat) (zs : List Int) (w : World) (hn : n ≤ 1000000000) (hs : Shows w a n zs) :
    Calls Try.prog 15 #[.slice a n cap] w fun e w' => e = .returned (.tuple #[.bool (A zs n).isSome, .bool (isNum zs n)]) ∧ w' = w := by
  have HS : Hid (Shows w a n zs) := hs
  clear hs
  go_enter Try.func15, Try.ntmps15
  go_wp2
  go_loop [4, 5] (fun part i => ∃ k : Nat, ∃ q : Int, k ≤ n ∧ i = .int .i64 k ∧ part = .int .i64 q ∧ Hid (A zs k = some q)) (fun _ i => n - (intOf i).toNat)
  case atStart => exact ⟨0, 0, by omega, rfl, rfl, (rfl : A zs 0 = some 0)⟩
  case round =>
    obtain ⟨k, q, hk, rfl, rfl, HA⟩ := hrel
    by_cases hlt : k < n
    · obtain ⟨b, off, rfl, hcs⟩ := HS.out (by omega)
      have hc := hcs k hlt
      clear hcs
      obtain ⟨z, hz⟩ : ∃ z, z = zs.getD k 0 := ⟨_, rfl⟩
      rw [← hz] at hc
      rcases hnp : np q z k with ⟨q', ok⟩
      have H1 : Hid (np q z k = (q', ok)) := hnp
      cases ok
      · have HD : Hid (A zs (k + 1) = none) := A_no HA.out (by rw [← hz, hnp])
        have HI : Hid ((A zs n).isSome = false ∧ isNum zs n = false) := ⟨isSome_dead HD.out hlt, isNum_dead HD.out hlt⟩
        clear hnp hz
        go_wp2_with fail
        refine (zz_at H1.out _).mono ?_
        rintro e w' ⟨rfl, rfl⟩
        go_wp2
        go_ret2
        exact ⟨ret_bools HI.out.1 HI.out.2, rfl⟩
      · have HN : Hid (A zs (k + 1) = some q') := A_yes HA.out (by rw [← hz, hnp])
        clear hnp hz
        go_wp2_with fail
        refine (zz_at H1.out _).mono ?_
        rintro e w' ⟨rfl, rfl⟩
        go_wp2
        go_round
        case rel => exact ⟨k + 1, q', by omega, by go_num, rfl, HN⟩
        case measure => simp [intOf]; omega
    · have hkn : k = n := by omega
      have HI : Hid ((A zs n).isSome = true ∧ isNum zs n = fin q) := by
        have h := HA.out
        rw [hkn] at h
        exact ⟨by rw [h]; rfl, isNum_at h⟩
      clear hkn
      go_wp2_with fail
      refine (final_any q _).mono ?_
      rintro e w' ⟨rfl, rfl⟩
      go_wp2
      go_ret2
      exact ⟨ret_bools HI.out.1 HI.out.2, rfl⟩
end Go.Proofs.Qxb6600851a.Grammar
