import Derived.Test.Qxb6600851aNumPart
import Derived.WalkKit
import Derived.WalkSpells
import Derived.ProofKit
namespace Go.Proofs.Qxb6600851a.NumPart
open Go.RowKit
set_option linter.unusedSimpArgs false

set_option maxHeartbeats 400000 in
/-- zzByteIn at a byte that the string holds: true. -/
theorem byteIn_yes (s : ByteArray) (c : Int) (w : World) (hs : s.size ≤ maxLen) (hin : ∃ j : Nat, ∃ h : j < s.size, ((s[j].toNat : Nat) : Int) = c) :
    Calls Try.prog 18 #[.int .u8 c, .string s] w fun e w' => e = .returned (.bool true) ∧ w' = w := by
  unfold maxLen at hs
  have HI : Hid (∃ j : Nat, ∃ h : j < s.size, ((s[j].toNat : Nat) : Int) = c) := hin
  clear hin
  go_enter Try.func18, Try.ntmps18
  go_wp2
  go_loop [5] (fun i => ∃ k : Nat, k ≤ s.size ∧ i = .int .i64 k ∧ Hid (∀ j (h : j < s.size), j < k → ¬ ((s[j].toNat : Nat) : Int) = c)) (fun i => s.size - (intOf i).toNat)
  case atStart => exact ⟨0, Nat.zero_le _, rfl, fun j h hj => absurd hj (Nat.not_lt_zero _)⟩
  case round =>
    obtain ⟨k, hk, rfl, H⟩ := hrel
    by_cases hlt : k < s.size
    · go_wp2
      · go_ret
        exact ⟨rfl, rfl⟩
      · have hne : (((s[k].toNat : Nat) : Int) == c) = false := by assumption
        go_round
        case rel =>
          refine ⟨k + 1, by omega, by go_num, fun j h hj => ?_⟩
          by_cases hjk : j = k
          · subst hjk; exact beq_eq_false_iff_ne.1 hne
          · exact H.out j h (by omega)
        case measure => simp [intOf]; omega
    · exfalso
      obtain ⟨j, h, e⟩ := HI.out
      exact H.out j h (by omega) e
end Go.Proofs.Qxb6600851a.NumPart
