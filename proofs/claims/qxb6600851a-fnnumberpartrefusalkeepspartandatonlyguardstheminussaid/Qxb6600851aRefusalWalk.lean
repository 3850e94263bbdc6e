import Derived.Test.Qxb6600851aNumPart
import Derived.Test.Qxb6600851aByteIn
import Derived.WalkKit
import Derived.WalkSpells
import Derived.ProofKit
namespace Go.Proofs.Qxb6600851a.Refusal
open Go.RowKit
/-! ### The plain law -/
open NumPart (np zz_any byteIn_yes)

theorem np_no {part c p : Int} (h : (np part c p).2 = false) : (np part c p).1 = part := by
  revert h; unfold np; repeat' split
  all_goals simp
theorem np_yes {part c p : Int} (h : (np part c p).2 = true) : 0 ≤ part ∧ part ≤ 7 ∧ 0 ≤ (np part c p).1 ∧ (np part c p).1 ≤ 7 ∧ ((48 ≤ c ∧ c ≤ 57) ∨ c = 43 ∨ c = 45 ∨ c = 46 ∨ c = 101 ∨ c = 69) := by
  revert h; unfold np; repeat' split
  all_goals (intro h; first | (simp at h; done) | (refine ⟨?_, ?_, ?_, ?_, ?_⟩ <;> (try dsimp only) <;> omega))
theorem np_minus (p : Int) : np 0 45 p = (0, p == 0) := by
  unfold np
  by_cases h : p = 0
  · subst h; rfl
  · simp [h]
theorem np_at {part c : Int} (p p2 : Int) (h : ¬ (part = 0 ∧ c = 45)) : np part c p2 = np part c p := by
  have e1 : ∀ q : Int, ¬ (part = 0 ∧ c = 45 ∧ q = 0) := fun q hq => h ⟨hq.1, hq.2.1⟩
  unfold np
  rw [if_neg (e1 p), if_neg (e1 p2)]

def setS : ByteArray := ⟨#[48, 49, 50, 51, 52, 53, 54, 55, 56, 57, 43, 45, 46, 101, 69]⟩
theorem set_in {c : Int} (h : (48 ≤ c ∧ c ≤ 57) ∨ c = 43 ∨ c = 45 ∨ c = 46 ∨ c = 101 ∨ c = 69) : ∃ j : Nat, ∃ h : j < setS.size, ((setS[j].toNat : Nat) : Int) = c := by
  obtain rfl | rfl | rfl | rfl | rfl | rfl | rfl | rfl | rfl | rfl | rfl | rfl | rfl | rfl | rfl : c = 48 ∨ c = 49 ∨ c = 50 ∨ c = 51 ∨ c = 52 ∨ c = 53 ∨ c = 54 ∨ c = 55 ∨ c = 56 ∨ c = 57 ∨ c = 43 ∨ c = 45 ∨ c = 46 ∨ c = 101 ∨ c = 69 := by omega
  · exact ⟨0, by decide, rfl⟩
  · exact ⟨1, by decide, rfl⟩
  · exact ⟨2, by decide, rfl⟩
  · exact ⟨3, by decide, rfl⟩
  · exact ⟨4, by decide, rfl⟩
  · exact ⟨5, by decide, rfl⟩
  · exact ⟨6, by decide, rfl⟩
  · exact ⟨7, by decide, rfl⟩
  · exact ⟨8, by decide, rfl⟩
  · exact ⟨9, by decide, rfl⟩
  · exact ⟨10, by decide, rfl⟩
  · exact ⟨11, by decide, rfl⟩
  · exact ⟨12, by decide, rfl⟩
  · exact ⟨13, by decide, rfl⟩
  · exact ⟨14, by decide, rfl⟩

/-- The shim's contract at a known outcome. -/
theorem zz_at {part c p q : Int} {ok : Bool} (h : np part c p = (q, ok)) (w : World) :
    Calls Try.prog 17 #[.int .i64 part, .int .u8 c, .int .i64 p] w fun e w' => e = .returned (.tuple #[.int .i64 q, .bool ok]) ∧ w' = w := by
  have := zz_any part c p w
  rw [h] at this
  exact this

/-! ### The walk, by cases -/
set_option maxHeartbeats 400000 in
theorem walk_minus (p p2 : Int) (w : World) :
    Calls Try.prog 7 #[.int .i64 0, .int .u8 45, .int .i64 p, .int .i64 p2] w fun e w' => e = .returned (.bool true) ∧ Grown w w' := by
  by_cases hp : p = 0
  · subst hp
    have H : Hid (np 0 45 0 = (0, true)) := (rfl : np 0 45 0 = (0, true))
    go_enter Try.func7, Try.ntmps7
    go_wp2_with fail
    refine (zz_at H.out _).mono ?_
    rintro e w' ⟨rfl, rfl⟩
    go_wp2_with fail
    refine (byteIn_yes setS 45 _ (by decide) (set_in (by omega))).mono ?_
    rintro e w' ⟨rfl, rfl⟩
    go_wp2
    go_ret
    exact ⟨rfl, Grown.refl _⟩
  · have hb : (p == 0) = false := beq_eq_false_iff_ne.2 hp
    have H : Hid (np 0 45 p = (0, false)) := (show np 0 45 p = (0, false) by rw [np_minus, hb])
    clear hp
    go_enter Try.func7, Try.ntmps7
    go_wp2_with fail
    refine (zz_at H.out _).mono ?_
    rintro e w' ⟨rfl, rfl⟩
    go_wp2
    go_ret
    exact ⟨rfl, Grown.refl _⟩

set_option maxHeartbeats 400000 in
theorem walk_no (part c p p2 : Int) (w : World) (hm : ¬ (part = 0 ∧ c = 45)) (H1 : Hid (np part c p = (part, false))) (H2 : Hid (np part c p2 = (part, false))) :
    Calls Try.prog 7 #[.int .i64 part, .int .u8 c, .int .i64 p, .int .i64 p2] w fun e w' => e = .returned (.bool true) ∧ Grown w w' := by
  by_cases h0 : part = 0
  · subst h0
    have hc : (c == 45) = false := beq_eq_false_iff_ne.2 (fun e => hm ⟨rfl, e⟩)
    clear hm
    go_enter Try.func7, Try.ntmps7
    go_wp2_with fail
    refine (zz_at H1.out _).mono ?_
    rintro e w' ⟨rfl, rfl⟩
    go_wp2_with fail
    refine (zz_at H2.out _).mono ?_
    rintro e w' ⟨rfl, rfl⟩
    go_wp2
    go_ret
    exact ⟨rfl, Grown.refl _⟩
  · have hb : (part == 0) = false := beq_eq_false_iff_ne.2 h0
    clear hm h0
    go_enter Try.func7, Try.ntmps7
    go_wp2_with fail
    refine (zz_at H1.out _).mono ?_
    rintro e w' ⟨rfl, rfl⟩
    go_wp2_with fail
    refine (zz_at H2.out _).mono ?_
    rintro e w' ⟨rfl, rfl⟩
    go_wp2
    go_ret
    exact ⟨rfl, Grown.refl _⟩

set_option maxHeartbeats 400000 in
theorem walk_yes (part c p p2 q : Int) (w : World) (hm : ¬ (part = 0 ∧ c = 45)) (H1 : Hid (np part c p = (q, true))) (H2 : Hid (np part c p2 = (q, true)))
    (g1 : 0 ≤ part) (g2 : part ≤ 7) (g3 : 0 ≤ q) (g4 : q ≤ 7) (HS : Hid (∃ j : Nat, ∃ h : j < setS.size, ((setS[j].toNat : Nat) : Int) = c)) :
    Calls Try.prog 7 #[.int .i64 part, .int .u8 c, .int .i64 p, .int .i64 p2] w fun e w' => e = .returned (.bool true) ∧ Grown w w' := by
  by_cases h0 : part = 0
  · subst h0
    have hc : (c == 45) = false := beq_eq_false_iff_ne.2 (fun e => hm ⟨rfl, e⟩)
    clear hm g1 g2
    go_enter Try.func7, Try.ntmps7
    go_wp2_with fail
    refine (zz_at H1.out _).mono ?_
    rintro e w' ⟨rfl, rfl⟩
    go_wp2_with fail
    refine (byteIn_yes setS c _ (by decide) HS.out).mono ?_
    rintro e w' ⟨rfl, rfl⟩
    go_wp2_with fail
    refine (zz_at H2.out _).mono ?_
    rintro e w' ⟨rfl, rfl⟩
    go_wp2
    go_ret
    exact ⟨rfl, Grown.refl _⟩
  · have hb : (part == 0) = false := beq_eq_false_iff_ne.2 h0
    clear hm h0
    go_enter Try.func7, Try.ntmps7
    go_wp2_with fail
    refine (zz_at H1.out _).mono ?_
    rintro e w' ⟨rfl, rfl⟩
    go_wp2_with fail
    refine (byteIn_yes setS c _ (by decide) HS.out).mono ?_
    rintro e w' ⟨rfl, rfl⟩
    go_wp2_with fail
    refine (zz_at H2.out _).mono ?_
    rintro e w' ⟨rfl, rfl⟩
    go_wp2
    go_ret
    exact ⟨rfl, Grown.refl _⟩

theorem walk_all (part c p p2 : Int) (w : World) :
    Calls Try.prog 7 #[.int .i64 part, .int .u8 c, .int .i64 p, .int .i64 p2] w fun e w' => e = .returned (.bool true) ∧ Grown w w' := by
  by_cases hm : part = 0 ∧ c = 45
  · obtain ⟨rfl, rfl⟩ := hm
    exact walk_minus p p2 w
  have h2 := np_at p p2 hm
  rcases hnp : np part c p with ⟨q, ok⟩
  rw [hnp] at h2
  have hq : q = (np part c p).1 := by rw [hnp]
  have hok : ok = (np part c p).2 := by rw [hnp]
  cases ok
  · have hqp : q = part := by rw [hq]; exact np_no hok.symm
    subst hqp
    exact walk_no q c p p2 w hm hnp h2
  · obtain ⟨g1, g2, g3, g4, g5⟩ := np_yes hok.symm
    rw [← hq] at g3 g4
    exact walk_yes part c p p2 q w hm hnp h2 g1 g2 g3 g4 (set_in g5)

end Go.Proofs.Qxb6600851a.Refusal
