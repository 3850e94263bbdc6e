import Derived.Test.Qxb6602752aRows
import Derived.Test.Qxb6602752aBy8
import Derived.WalkKit
import Derived.WalkSpells
import Derived.ProofKit
namespace Go.Proofs.Qxb6602752a.By8
open Go.RowKit
set_option linter.unusedSimpArgs false

theorem info5 : (Try.prog.info? 5).map (fun i => (i.zero, i.size, i.bytes)) = some (some (.int .u8 0), 1, 1) := by kernel_rfl

/-- make([]byte, n) -/
theorem mk_run (n : Nat) (hn : n ≤ 1000000000) (w : World) : (Instr.makeSlice 24 (.int .i64 (n : Int)) (.int .i64 (n : Int))).run Try.prog w = .ok (.slice (some ⟨w.heap.size, 0, none⟩) n n) (w.alloc (.cells (by8 (List.replicate n 0)) 5)) := by
  obtain ⟨i, hi, hz0, hz1, hz2⟩ := info_parts info5
  have h := run_make (P := Try.prog) w 24 5 i (.int .u8 0) Try.underlying24 hi hz0 .i64 .i64 n n (by omega) (by omega) (by rw [hz2]; omega) (by omega)
  rw [h, hz1]
  simp [Value.cells, made_by8]

set_option maxHeartbeats 400000 in
theorem copy_some (x : Addr) (n cap : Nat) (zs : List Int) (w : World) (hn : n ≤ 1000000000) (hs : Shows w (some x) n zs) (hz : n ≤ zs.length) :
    Calls Try.prog 10 #[.slice (some x) n cap] w fun e w' => e = .returned (.slice (some ⟨w.heap.size, 0, none⟩) n n) ∧ w' = w.alloc (.cells (by8 (zs.take n)) 5) := by
  have he := fun w => Lib.run_eql_slice_nil (P := Try.prog) w 24 5 (some x) n cap 0 0 Try.underlying24
  have hmk := mk_run n hn
  have HS : Hid (Shows w (some x) n zs) := hs
  clear hs
  go_enter Try.func10, Try.ntmps10
  go_wp2
  clear he hmk
  go_loopw [4] (fun i wr => ∃ k : Nat, k ≤ n ∧ i = .int .i64 k ∧ wr = w.alloc (.cells (by8 (zs.take k ++ List.replicate (n - k) 0)) 5)) (fun i _ => n - (intOf i).toNat)
  case atStart => exact ⟨0, by omega, rfl, by simp⟩
  case round =>
    obtain ⟨k, hk, rfl, rfl⟩ := hrel
    by_cases hlt : k < n
    · obtain ⟨b, off, hx, hcs⟩ := HS.out (by omega)
      obtain rfl : x = ⟨b, off, none⟩ := by simpa using hx
      have hc0 := hcs k hlt
      have hbl := lt_of_cell hc0
      simp at hbl
      have hc : (w.alloc (.cells (by8 (zs.take k ++ List.replicate (n - k) 0)) 5)).cell? ⟨b, off + k, none⟩ = some (.int .u8 (zs.getD k 0)) := by rw [World.cell?_alloc_past _ _ _ hbl]; exact hc0
      have hd := cell_new w (zs.take k ++ List.replicate (n - k) 0) k (by simp; omega)
      have hf : (w.alloc (.cells (by8 (zs.take k ++ List.replicate (n - k) 0)) 5)).frozen? ⟨w.heap.size, k, none⟩ = false := World.frozen?_alloc_at _ _ _ _ rfl
      have HP : Hid ((w.alloc (.cells (by8 (zs.take k ++ List.replicate (n - k) 0)) 5)).setCell ⟨w.heap.size, k, none⟩ (.int .u8 (zs.getD k 0)) = w.alloc (.cells (by8 (zs.take (k + 1) ++ List.replicate (n - (k + 1)) 0)) 5)) := by
        show _ = _
        rw [set_new, take_set zs k n hlt (by omega)]
      clear hx hcs hc0
      generalize w.alloc (.cells (by8 (zs.take k ++ List.replicate (n - k) 0)) 5) = W at *
      generalize zs.getD k 0 = z at *
      generalize (zs.take k ++ List.replicate (n - k) 0).getD k 0 = z' at *
      go_wp2
      go_roundw
      case rel => exact ⟨k + 1, by omega, by go_num, HP.out⟩
      case measure => simp [intOf]; omega
    · go_wp2
      go_ret
      obtain rfl : k = n := by omega
      exact ⟨rfl, by simp⟩
theorem copy_nil (w : World) : Calls Try.prog 10 #[.slice none 0 0] w fun e w' => e = .returned (.slice none 0 0) ∧ w' = w := by
  have he := fun w => Lib.run_eql_slice_nil (P := Try.prog) w 24 5 none 0 0 0 0 Try.underlying24
  go_enter Try.func10, Try.ntmps10
  go_wp2
  go_ret
  exact ⟨rfl, rfl⟩

/-- Any row that came in, copied. -/
theorem clone_any (a : Option Addr) (n cap : Nat) (zs : List Int) (w : World) (hn : n ≤ 1000000000)
    (h : (a = none ∧ n = 0 ∧ cap = 0) ∨ ((∃ x, a = some x) ∧ n ≤ zs.length ∧ Shows w a n zs)) :
    Calls Try.prog 10 #[.slice a n cap] w fun e w' => ∃ a', e = .returned (.slice a' n n) ∧ Below w.heap.size w w' ∧ Shows w' a' n zs := by
  rcases h with ⟨rfl, rfl, rfl⟩ | ⟨⟨x, rfl⟩, hz, hs⟩
  · refine (copy_nil w).mono ?_
    rintro e w' ⟨rfl, rfl⟩
    exact ⟨none, rfl, Below.refl _ _, fun h => absurd h (by omega)⟩
  · refine (copy_some x n cap zs w hn hs hz).mono ?_
    rintro e w' ⟨rfl, rfl⟩
    refine ⟨_, rfl, (Below.refl _ _).alloc (Nat.le_refl _) _, fun h => ⟨_, _, rfl, fun i hi => ?_⟩⟩
    rw [Nat.zero_add, cell_new w (zs.take n) i (by simp; omega)]
    simp [List.getElem?_take, hi]

/-- What a slice shows, it shows in every world that is as it was below. -/
theorem Shows.below {w w' : World} {a : Option Addr} {n : Nat} {zs : List Int} (h : Shows w a n zs) (hb : Below w.heap.size w w') : Shows w' a n zs := by
  intro h0
  obtain ⟨b, off, ha, hc⟩ := h h0
  exact ⟨b, off, ha, fun i hi => by rw [hb.cell (lt_of_cell (hc i hi))]; exact hc i hi⟩
end Go.Proofs.Qxb6602752a.By8
