import Derived.Test.Qxb6600851aEscLen
import Derived.RowKit3
namespace Go.Proofs.Qxb6600851a.Hex
open Go.RowKit
set_option linter.unusedSimpArgs false

/-- The shim hands on. -/
theorem zzEsc {a : Option Addr} {n cap : Nat} {i : Int} {b : Bool} {w : World} (h : Calls Try.prog 19 #[.slice a n cap] w fun e w' => e = .returned (.tuple #[.int .i64 i, .bool b]) ∧ w' = w) :
    Calls Try.prog 10 #[.slice a n cap] w fun e w' => e = .returned (.tuple #[.int .i64 i, .bool b]) ∧ w' = w := by
  have H : Hid (Calls Try.prog 19 #[.slice a n cap] w fun e w' => e = .returned (.tuple #[.int .i64 i, .bool b]) ∧ w' = w) := h
  clear h
  go_enter Try.func10, Try.ntmps10
  go_wp2_with (go_at_call 19; refine H.out.mono ?_; rintro e w' ⟨rfl, rfl⟩)
  go_ret2
  exact ⟨rfl, rfl⟩

/-- zzPutHex4 into a block of twelve that was just made, at 2 and at 8. -/
theorem putHex_2 (w : World) (v : Int) (up : Bool) (h0 : 0 ≤ v) (h1 : v < 65536) (x0 x1 x2 x3 x4 x5 x6 x7 x8 x9 x10 x11 : Value) :
    Calls Try.prog 11 #[.slice (some ⟨w.heap.size, 0, none⟩) 12 12, .int .i64 2, .int .i64 v, .bool up] (w.alloc (.cells #[x0, x1, x2, x3, x4, x5, x6, x7, x8, x9, x10, x11] 5)) fun e w' => e = .returned (.tuple #[]) ∧
      w' = w.alloc (.cells #[x0, x1, .int .u8 (hexCh up (nib v 0)), .int .u8 (hexCh up (nib v 1)), .int .u8 (hexCh up (nib v 2)), .int .u8 (hexCh up (nib v 3)), x6, x7, x8, x9, x10, x11] 5) := by
  refine (putHex_any w.heap.size 0 12 12 2 v up _ h0 h1 (by omega) (by omega) ?_ ?_).mono ?_
  · intro k hk
    obtain rfl | rfl | rfl | rfl : k = 0 ∨ k = 1 ∨ k = 2 ∨ k = 3 := by omega
    all_goals exact ⟨_, by simp [go_sem]; rfl⟩
  · intro k hk
    obtain rfl | rfl | rfl | rfl : k = 0 ∨ k = 1 ∨ k = 2 ∨ k = 3 := by omega
    all_goals simp [go_sem]
  · rintro e w' ⟨rfl, rfl⟩
    refine ⟨rfl, ?_⟩
    simp only [put]
    simp [go_sem]

theorem putHex_8 (w : World) (v : Int) (up : Bool) (h0 : 0 ≤ v) (h1 : v < 65536) (x0 x1 x2 x3 x4 x5 x6 x7 x8 x9 x10 x11 : Value) :
    Calls Try.prog 11 #[.slice (some ⟨w.heap.size, 0, none⟩) 12 12, .int .i64 8, .int .i64 v, .bool up] (w.alloc (.cells #[x0, x1, x2, x3, x4, x5, x6, x7, x8, x9, x10, x11] 5)) fun e w' => e = .returned (.tuple #[]) ∧
      w' = w.alloc (.cells #[x0, x1, x2, x3, x4, x5, x6, x7, .int .u8 (hexCh up (nib v 0)), .int .u8 (hexCh up (nib v 1)), .int .u8 (hexCh up (nib v 2)), .int .u8 (hexCh up (nib v 3))] 5) := by
  refine (putHex_any w.heap.size 0 12 12 8 v up _ h0 h1 (by omega) (by omega) ?_ ?_).mono ?_
  · intro k hk
    obtain rfl | rfl | rfl | rfl : k = 0 ∨ k = 1 ∨ k = 2 ∨ k = 3 := by omega
    all_goals exact ⟨_, by simp [go_sem]; rfl⟩
  · intro k hk
    obtain rfl | rfl | rfl | rfl : k = 0 ∨ k = 1 ∨ k = 2 ∨ k = 3 := by omega
    all_goals simp [go_sem]
  · rintro e w' ⟨rfl, rfl⟩
    refine ⟨rfl, ?_⟩
    simp only [put]
    simp [go_sem]

theorem hv_nib (v : Int) (h0 : 0 ≤ v) (h1 : v < 65536) : hv (nib v) 4 = v := by
  simp only [hv, nib]; omega

/-- The twelve bytes of a pair of escapes. -/
abbrev pairW (w : World) (up : Bool) (hi lo : Int) : World := w.alloc (.cells #[.int .u8 92, .int .u8 117,
  .int .u8 (hexCh up (nib hi 0)), .int .u8 (hexCh up (nib hi 1)), .int .u8 (hexCh up (nib hi 2)), .int .u8 (hexCh up (nib hi 3)), .int .u8 92, .int .u8 117,
  .int .u8 (hexCh up (nib lo 0)), .int .u8 (hexCh up (nib lo 1)), .int .u8 (hexCh up (nib lo 2)), .int .u8 (hexCh up (nib lo 3))] 5)

theorem pair_cuts (w : World) (up : Bool) (hi lo : Int) (a0 : 55296 ≤ hi) (a1 : hi < 56320) (k : Nat) (hk : k < 12) :
    Calls Try.prog 10 #[.slice (some ⟨w.heap.size, 0, none⟩) k 12] (pairW w up hi lo) fun e w' => e = .returned (.tuple #[.int .i64 0, .bool false]) ∧ w' = pairW w up hi lo := by
  refine zzEsc ?_
  by_cases h2 : k < 2
  · exact esc_short _ _ _ _ h2
  by_cases h6 : k < 6
  · exact esc_begun _ _ _ _ _ (by omega) h6 (by simp [go_sem])
  · refine esc_waits _ _ _ _ (fun j => hexCh up (nib hi j)) (nib hi) _ (by omega) hk (by omega) (by decide) (by simp [go_sem]) (fun j _ => hexD_ch up _ (nib_bd hi j).1 (nib_bd hi j).2) ?_ ?_ ?_ ?_ ?_
    · intro j hj
      obtain rfl | rfl | rfl | rfl : j = 0 ∨ j = 1 ∨ j = 2 ∨ j = 3 := by omega
      all_goals simp [go_sem]
    · rw [hv_nib hi (by omega) (by omega)]; exact a0
    · rw [hv_nib hi (by omega) (by omega)]; exact a1
    · intro _; simp [go_sem]
    · intro _; simp [go_sem]

theorem pair_whole (w : World) (up : Bool) (hi lo : Int) (a0 : 55296 ≤ hi) (a1 : hi < 56320) :
    Calls Try.prog 10 #[.slice (some ⟨w.heap.size, 0, none⟩) 12 12] (pairW w up hi lo) fun e w' => e = .returned (.tuple #[.int .i64 6, .bool true]) ∧ w' = pairW w up hi lo := by
  refine zzEsc ?_
  refine esc_pair _ _ _ _ (fun j => hexCh up (nib hi j)) (nib hi) _ (by omega) (by omega) (by omega) (by decide) (by simp [go_sem]) (fun j _ => hexD_ch up _ (nib_bd hi j).1 (nib_bd hi j).2) ?_ ?_ ?_
  · intro j hj
    obtain rfl | rfl | rfl | rfl : j = 0 ∨ j = 1 ∨ j = 2 ∨ j = 3 := by omega
    all_goals simp [go_sem]
  · rw [hv_nib hi (by omega) (by omega)]; exact a0
  · rw [hv_nib hi (by omega) (by omega)]; exact a1

theorem pair_rest (w : World) (up : Bool) (hi lo : Int) (a0 : 56320 ≤ lo) (a1 : lo < 57344) :
    Calls Try.prog 10 #[.slice (some ⟨w.heap.size, 6, none⟩) 6 6] (pairW w up hi lo) fun e w' => e = .returned (.tuple #[.int .i64 6, .bool true]) ∧ w' = pairW w up hi lo := by
  refine zzEsc ?_
  refine esc_lone _ _ _ _ (fun j => hexCh up (nib lo j)) (nib lo) _ (by omega) (by omega) (by omega) (by decide) (by simp [go_sem]) (fun j _ => hexD_ch up _ (nib_bd lo j).1 (nib_bd lo j).2) ?_ ?_
  · intro j hj
    obtain rfl | rfl | rfl | rfl : j = 0 ∨ j = 1 ∨ j = 2 ∨ j = 3 := by omega
    all_goals simp [go_sem]
  · rw [hv_nib lo (by omega) (by omega)]; exact a0

set_option maxHeartbeats 400000 in
theorem waits_out (r : Int) (up : Bool) (w : World) (h : r < 65536 ∨ 1114111 < r) :
    Calls Try.prog 4 #[.int .i32 r, .bool up] w fun e w' => e = .returned (.bool true) ∧ Grown w w' := by
  rcases h with h | h
  · go_enter Try.func4, Try.ntmps4
    go_wp2
    go_ret
    exact ⟨rfl, Grown.refl _⟩
  · have h' : ¬ r < 65536 := by omega
    go_enter Try.func4, Try.ntmps4
    go_wp2
    go_ret
    exact ⟨rfl, Grown.refl _⟩

set_option maxHeartbeats 400000 in
theorem waits_in (r : Int) (up : Bool) (w : World) (h0 : 65536 ≤ r) (h1 : r ≤ 1114111) :
    Calls Try.prog 4 #[.int .i32 r, .bool up] w fun e w' => e = .returned (.bool true) ∧ Grown w w' := by
  have hmk : ∀ w, (Instr.makeSlice 22 (.int .i64 12) (.int .i64 12)).run Try.prog w = .ok (.slice (some ⟨w.heap.size, 0, none⟩) 12 12) (w.alloc (.cells #[.int .u8 0, .int .u8 0, .int .u8 0, .int .u8 0, .int .u8 0, .int .u8 0, .int .u8 0, .int .u8 0, .int .u8 0, .int .u8 0, .int .u8 0, .int .u8 0] 5)) := fun _ => by kernel_rfl
  have hand := i64_and1023 (r - 65536) (by omega) (by omega)
  have d0 : decide (r < 65536) = false := decide_eq_false (by omega)
  have d1 : decide (1114111 < r) = false := decide_eq_false (by omega)
  go_enter Try.func4, Try.ntmps4
  go_wp2_with fail
  refine (putHex_2 w _ up ?_ ?_ _ _ _ _ _ _ _ _ _ _ _ _).mono ?_
  · omega
  · omega
  rintro e w' ⟨rfl, rfl⟩
  go_wp2_with fail
  refine (putHex_8 w _ up ?_ ?_ _ _ _ _ _ _ _ _ _ _ _ _).mono ?_
  · omega
  · omega
  rintro e w' ⟨rfl, rfl⟩
  go_wp2_with fail
  have HA : Hid (∀ k : Nat, k < 12 → Calls Try.prog 10 #[.slice (some ⟨w.heap.size, 0, none⟩) k 12] (pairW w up (55296 + (r - 65536) / 1024) (56320 + (r - 65536) % 1024)) fun e w' => e = .returned (.tuple #[.int .i64 0, .bool false]) ∧ w' = pairW w up (55296 + (r - 65536) / 1024) (56320 + (r - 65536) % 1024)) := fun k hk => pair_cuts w up _ _ (by omega) (by omega) k hk
  have HB : Hid (Calls Try.prog 10 #[.slice (some ⟨w.heap.size, 0, none⟩) 12 12] (pairW w up (55296 + (r - 65536) / 1024) (56320 + (r - 65536) % 1024)) fun e w' => e = .returned (.tuple #[.int .i64 6, .bool true]) ∧ w' = pairW w up (55296 + (r - 65536) / 1024) (56320 + (r - 65536) % 1024)) := pair_whole w up _ _ (by omega) (by omega)
  have HE : Hid (Calls Try.prog 10 #[.slice (some ⟨w.heap.size, 6, none⟩) 6 6] (pairW w up (55296 + (r - 65536) / 1024) (56320 + (r - 65536) % 1024)) fun e w' => e = .returned (.tuple #[.int .i64 6, .bool true]) ∧ w' = pairW w up (55296 + (r - 65536) / 1024) (56320 + (r - 65536) % 1024)) := pair_rest w up _ _ (by omega) (by omega)
  have HG : Hid (Grown w (pairW w up (55296 + (r - 65536) / 1024) (56320 + (r - 65536) % 1024))) := (Grown.refl _).alloc _ _
  clear hmk hand
  generalize hW : pairW w up (55296 + (r - 65536) / 1024) (56320 + (r - 65536) % 1024) = W at *
  unfold pairW at hW
  rw [hW]
  clear hW
  go_loop [9] (fun i => ∃ k : Nat, k ≤ 12 ∧ i = .int .i64 k) (fun i => 12 - (intOf i).toNat)
  case atStart => exact ⟨0, by omega, rfl⟩
  case round =>
    obtain ⟨k, hk, rfl⟩ := hrel
    by_cases hlt : k < 12
    · go_wp2_with fail
      refine (HA.out k hlt).mono ?_
      rintro e w' ⟨rfl, rfl⟩
      go_wp2
      go_round
      case rel => exact ⟨k + 1, by omega, by go_num⟩
      case measure => simp [intOf]; omega
    · obtain rfl : k = 12 := by omega
      go_wp2_with fail
      refine HB.out.mono ?_
      rintro e w' ⟨rfl, rfl⟩
      go_wp2_with fail
      refine HE.out.mono ?_
      rintro e w' ⟨rfl, rfl⟩
      go_wp2
      go_ret
      exact ⟨rfl, HG.out⟩

theorem waits_all (r : Int) (up : Bool) (w : World) :
    Calls Try.prog 4 #[.int .i32 r, .bool up] w fun e w' => e = .returned (.bool true) ∧ Grown w w' := by
  by_cases h : r < 65536 ∨ 1114111 < r
  · exact waits_out r up w h
  · exact waits_in r up w (by omega) (by omega)
end Go.Proofs.Qxb6600851a.Hex
