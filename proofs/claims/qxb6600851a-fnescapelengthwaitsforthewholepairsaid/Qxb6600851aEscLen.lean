import Derived.Test.Qxb6600851aHexEsc
namespace Go.Proofs.Qxb6600851a.Hex
open Go.RowKit
set_option linter.unusedSimpArgs false

/-- escapeLength: fewer than two bytes. -/
theorem esc_short (a : Option Addr) (n cap : Nat) (w : World) (hn : n < 2) :
    Calls Try.prog 19 #[.slice a n cap] w fun e w' => e = .returned (.tuple #[.int .i64 0, .bool false]) ∧ w' = w := by
  go_enter Try.func19, Try.ntmps19
  go_wp2
  go_ret2
  exact ⟨rfl, rfl⟩

/-- A begun \u escape whose digits are not all there. -/
theorem esc_begun (b off n cap : Nat) (w : World) (hn : 2 ≤ n) (hn2 : n < 6) (h1 : w.cell? ⟨b, off + 1, none⟩ = some (.int .u8 117)) :
    Calls Try.prog 19 #[.slice (some ⟨b, off, none⟩) n cap] w fun e w' => e = .returned (.tuple #[.int .i64 0, .bool false]) ∧ w' = w := by
  go_enter Try.func19, Try.ntmps19
  go_wp2_with (go_at_call 20; refine (hexEscape_short _ _ _ _ (by omega)).mono ?_; rintro e w' ⟨rfl, rfl⟩)
  go_ret2
  exact ⟨rfl, rfl⟩

set_option maxHeartbeats 400000 in
/-- A whole \u escape that is no first half. -/
theorem esc_lone (b off n cap : Nat) (cs ds : Nat → Int) (w : World) (hn : 6 ≤ n) (hn2 : n ≤ 1000000000) (hcap : n ≤ cap) (hcap2 : cap ≤ maxLen)
    (h1 : w.cell? ⟨b, off + 1, none⟩ = some (.int .u8 117))
    (hd : ∀ k, k < 4 → HexD (cs k) (ds k)) (hc : ∀ k, k < 4 → w.cell? ⟨b, off + 2 + k, none⟩ = some (.int .u8 (cs k))) (hr : 56320 ≤ hv ds 4) :
    Calls Try.prog 19 #[.slice (some ⟨b, off, none⟩) n cap] w fun e w' => e = .returned (.tuple #[.int .i64 6, .bool true]) ∧ w' = w := by
  have C := hexEscape_digits b off n cap cs ds w hn hn2 hcap hcap2 hd hc
  have HC : Hid (Calls Try.prog 20 #[.slice (some ⟨b, off, none⟩) n cap] w fun e w' => e = .returned (.tuple #[.int .i32 (hv ds 4), .bool true, .bool true]) ∧ w' = w) := C
  clear C hd hc
  generalize hv ds 4 = r at *
  have hr' : ¬ r < 55296 := by omega
  go_enter Try.func19, Try.ntmps19
  go_wp2_with (go_at_call 20; refine (HC.out).mono ?_; rintro e w' ⟨rfl, rfl⟩)
  go_ret2
  exact ⟨rfl, rfl⟩

set_option maxHeartbeats 400000 in
/-- A first half, and nothing, or the begun escape behind it: it waits. -/
theorem esc_waits (b off n cap : Nat) (cs ds : Nat → Int) (w : World) (hn : 6 ≤ n) (hn2 : n < 12) (hcap : n ≤ cap) (hcap2 : cap ≤ maxLen)
    (h1 : w.cell? ⟨b, off + 1, none⟩ = some (.int .u8 117))
    (hd : ∀ k, k < 4 → HexD (cs k) (ds k)) (hc : ∀ k, k < 4 → w.cell? ⟨b, off + 2 + k, none⟩ = some (.int .u8 (cs k))) (hr : 55296 ≤ hv ds 4) (hr2 : hv ds 4 < 56320)
    (h6 : 6 < n → w.cell? ⟨b, off + 6, none⟩ = some (.int .u8 92)) (h7 : 7 < n → w.cell? ⟨b, off + 6 + 1, none⟩ = some (.int .u8 117)) :
    Calls Try.prog 19 #[.slice (some ⟨b, off, none⟩) n cap] w fun e w' => e = .returned (.tuple #[.int .i64 0, .bool false]) ∧ w' = w := by
  have C := hexEscape_digits b off n cap cs ds w hn (by omega) hcap hcap2 hd hc
  have HC : Hid (Calls Try.prog 20 #[.slice (some ⟨b, off, none⟩) n cap] w fun e w' => e = .returned (.tuple #[.int .i32 (hv ds 4), .bool true, .bool true]) ∧ w' = w) := C
  clear C hd hc
  generalize hv ds 4 = r at *
  unfold maxLen at hcap2
  by_cases hn6 : n = 6
  · subst hn6
    go_enter Try.func19, Try.ntmps19
    go_wp2_with (go_at_call 20; refine (HC.out).mono ?_; rintro e w' ⟨rfl, rfl⟩)
    all_goals
      go_ret2
      exact ⟨rfl, rfl⟩
  · have g6 := h6 (by omega)
    clear h6
    by_cases hn7 : n = 7
    · subst hn7
      go_enter Try.func19, Try.ntmps19
      go_wp2_with (go_at_call 20; refine (HC.out).mono ?_; rintro e w' ⟨rfl, rfl⟩)
      go_ret2
      exact ⟨rfl, rfl⟩
    · have g7 := h7 (by omega)
      have hn8 : 8 ≤ n := by omega
      clear h7 hn6 hn7
      go_enter Try.func19, Try.ntmps19
      go_wp2_with (go_at_call 20; refine (HC.out).mono ?_; rintro e w' ⟨rfl, rfl⟩)
      go_ret2
      exact ⟨rfl, rfl⟩

set_option maxHeartbeats 400000 in
/-- A first half with six bytes behind it. -/
theorem esc_pair (b off n cap : Nat) (cs ds : Nat → Int) (w : World) (hn : 12 ≤ n) (hn2 : n ≤ 1000000000) (hcap : n ≤ cap) (hcap2 : cap ≤ maxLen)
    (h1 : w.cell? ⟨b, off + 1, none⟩ = some (.int .u8 117))
    (hd : ∀ k, k < 4 → HexD (cs k) (ds k)) (hc : ∀ k, k < 4 → w.cell? ⟨b, off + 2 + k, none⟩ = some (.int .u8 (cs k))) (hr : 55296 ≤ hv ds 4) (hr2 : hv ds 4 < 56320) :
    Calls Try.prog 19 #[.slice (some ⟨b, off, none⟩) n cap] w fun e w' => e = .returned (.tuple #[.int .i64 6, .bool true]) ∧ w' = w := by
  have C := hexEscape_digits b off n cap cs ds w (by omega) (by omega) hcap hcap2 hd hc
  have HC : Hid (Calls Try.prog 20 #[.slice (some ⟨b, off, none⟩) n cap] w fun e w' => e = .returned (.tuple #[.int .i32 (hv ds 4), .bool true, .bool true]) ∧ w' = w) := C
  clear C hd hc
  generalize hv ds 4 = r at *
  unfold maxLen at hcap2
  go_enter Try.func19, Try.ntmps19
  go_wp2_with (go_at_call 20; refine (HC.out).mono ?_; rintro e w' ⟨rfl, rfl⟩)
  go_ret2
  exact ⟨rfl, rfl⟩
end Go.Proofs.Qxb6600851a.Hex
