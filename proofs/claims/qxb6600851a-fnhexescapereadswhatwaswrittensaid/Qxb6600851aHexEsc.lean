import Derived.Test.Qxb6600851aPutHex
namespace Go.Proofs.Qxb6600851a.Hex
open Go.RowKit
set_option linter.unusedSimpArgs false

/-- c is a hex digit that writes d. -/
def HexD (c d : Int) : Prop := (48 ≤ c ∧ c ≤ 57 ∧ d = c - 48) ∨ (97 ≤ c ∧ c ≤ 102 ∧ d = c - 87) ∨ (65 ≤ c ∧ c ≤ 70 ∧ d = c - 55)
theorem hexD_ch (up : Bool) (d : Int) (h0 : 0 ≤ d) (h1 : d < 16) : HexD (hexCh up d) d := by
  unfold HexD hexCh
  cases up <;> by_cases h : d < 10 <;> simp [h] <;> omega

/-- The number that the first k digits write. -/
def hv (ds : Nat → Int) : Nat → Int
  | 0 => 0
  | k + 1 => hv ds k * 16 + ds k
theorem hv_bd (ds : Nat → Int) (h : ∀ k, k < 4 → 0 ≤ ds k ∧ ds k < 16) (k : Nat) (hk : k ≤ 4) : 0 ≤ hv ds k ∧ hv ds k < 16 ^ k := by
  induction k with
  | zero => exact ⟨Int.le_refl 0, Int.zero_lt_one⟩
  | succ k ih =>
    obtain ⟨a, b⟩ := ih (by omega)
    obtain ⟨c, d⟩ := h k (by omega)
    rw [hv, Int.pow_succ]
    omega
theorem hv_lt {ds : Nat → Int} (h : ∀ k, k < 4 → 0 ≤ ds k ∧ ds k < 16) {k : Nat} (hk : k < 4) : 0 ≤ hv ds k ∧ hv ds k < 4096 := by
  obtain ⟨a, b⟩ := hv_bd ds h k (by omega)
  refine ⟨a, Int.lt_of_lt_of_le b ?_⟩
  obtain rfl | rfl | rfl | rfl : k = 0 ∨ k = 1 ∨ k = 2 ∨ k = 3 := by omega
  all_goals decide
theorem hexD_bd {c d : Int} (h : HexD c d) : 0 ≤ d ∧ d < 16 := by
  unfold HexD at h; omega

/-- Too short: nothing, and not whole. -/
theorem hexEscape_short (a : Option Addr) (n cap : Nat) (w : World) (hn : n < 6) :
    Calls Try.prog 20 #[.slice a n cap] w fun e w' => e = .returned (.tuple #[.int .i32 0, .bool false, .bool false]) ∧ w' = w := by
  go_enter Try.func20, Try.ntmps20
  go_wp2
  go_ret3
  exact ⟨rfl, rfl⟩

set_option maxHeartbeats 400000 in
/-- Four hex digits: their number. -/
theorem hexEscape_digits (b off n cap : Nat) (cs ds : Nat → Int) (w : World) (hn : 6 ≤ n) (hn2 : n ≤ 1000000000) (hcap : n ≤ cap) (hcap2 : cap ≤ maxLen)
    (hd : ∀ k, k < 4 → HexD (cs k) (ds k)) (hc : ∀ k, k < 4 → w.cell? ⟨b, off + 2 + k, none⟩ = some (.int .u8 (cs k))) :
    Calls Try.prog 20 #[.slice (some ⟨b, off, none⟩) n cap] w fun e w' => e = .returned (.tuple #[.int .i32 (hv ds 4), .bool true, .bool true]) ∧ w' = w := by
  unfold maxLen at hcap2
  have HD : Hid (∀ k, k < 4 → HexD (cs k) (ds k)) := hd
  have HC : Hid (∀ k, k < 4 → w.cell? ⟨b, off + 2 + k, none⟩ = some (.int .u8 (cs k))) := hc
  clear hd hc
  go_enter Try.func20, Try.ntmps20
  go_wp2
  go_loop [2, 13] (fun r i => ∃ k : Nat, k ≤ 4 ∧ i = .int .i64 k ∧ r = .int .i32 (hv ds k)) (fun _ i => 4 - (intOf i).toNat)
  case atStart => exact ⟨0, by omega, rfl, rfl⟩
  case round =>
    obtain ⟨k, hk, rfl, rfl⟩ := hrel
    by_cases hlt : k < 4
    · have hcell := HC.out k hlt
      obtain ⟨hv0, hv1⟩ := hv_lt (fun k h => hexD_bd (HD.out k h)) hlt
      have hdk := HD.out k hlt
      have HV : Hid (hv ds (k + 1) = hv ds k * 16 + ds k) := (rfl : hv ds (k + 1) = hv ds k * 16 + ds k)
      unfold HexD at hdk
      generalize hv ds k = r at *
      generalize cs k = c at *
      generalize ds k = d at *
      rcases hdk with ⟨g1, g2, g3⟩ | ⟨g1, g2, g3⟩ | ⟨g1, g2, g3⟩
      · have hor := i32_or4 (r * 16) (c - 48) (by omega) (by omega) (by omega) (by omega) (by omega)
        have HG : Hid (d = c - 48) := g3
        clear g3
        go_wp2
        go_round
        case rel => exact ⟨k + 1, by omega, by go_num, by rw [HV.out, HG.out]⟩
        case measure => simp [intOf]; omega
      · have hor := i32_or4 (r * 16) (c - 87) (by omega) (by omega) (by omega) (by omega) (by omega)
        have HG : Hid (d = c - 87) := g3
        clear g3
        go_wp2
        go_round
        case rel => exact ⟨k + 1, by omega, by go_num, by rw [HV.out, HG.out]⟩
        case measure => simp [intOf]; omega
      · have hor := i32_or4 (r * 16) (c - 55) (by omega) (by omega) (by omega) (by omega) (by omega)
        have HG : Hid (d = c - 55) := g3
        clear g3
        go_wp2
        go_round
        case rel => exact ⟨k + 1, by omega, by go_num, by rw [HV.out, HG.out]⟩
        case measure => simp [intOf]; omega
    · obtain rfl : k = 4 := by omega
      go_wp2
      go_ret3
      exact ⟨rfl, rfl⟩
end Go.Proofs.Qxb6600851a.Hex
