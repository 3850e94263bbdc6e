import Derived.Test.Qxb6602752aStrEnd
import Derived.LoopN
namespace Go.Proofs.Qxb6602752a.ValEnd
open Go.RowKit By8 Quotes StrEnd
set_option linter.unusedSimpArgs false

set_option maxHeartbeats 1000000 in
/-- valueEnd over an object of one string key and an array of one string, a comma behind it. -/
theorem valueEnd_obj (b off n cap i0 m1 i1 m2 i2 : Nat) (zs : List Int) (w : World) (hn : n ≤ 1000000000) (hlt : i2 + 1 + 1 < n)
    (hc : ∀ i, i < n → w.cell? ⟨b, off + i, none⟩ = some (.int .u8 (zs.getD i 0)))
    (e0 : zs.getD i0 0 = 123) (e1 : zs.getD (i0 + 1) 0 = 34) (hx1 : Closes zs (i0 + 1 + 1) m1) (hi1 : i0 + 1 + 1 + m1 + 1 = i1)
    (e2 : zs.getD i1 0 = 58) (e3 : zs.getD (i1 + 1) 0 = 91) (e4 : zs.getD (i1 + 1 + 1) 0 = 34) (hx2 : Closes zs (i1 + 1 + 1 + 1) m2) (hi2 : i1 + 1 + 1 + 1 + m2 + 1 = i2)
    (e5 : zs.getD i2 0 = 93) (e6 : zs.getD (i2 + 1) 0 = 125) (e7 : zs.getD (i2 + 1 + 1) 0 = 44) :
    Calls Try.prog 20 #[.slice (some ⟨b, off, none⟩) n cap, .int .i64 i0] w fun e w' => e = .returned (.int .i64 ((i2 : Int) + 1 + 1)) ∧ w' = w := by
  have c0 := hc i0 (by omega)
  have c1 := hc (i0 + 1) (by omega)
  have c2 := hc i1 (by omega)
  have c3 := hc (i1 + 1) (by omega)
  have c4 := hc (i1 + 1 + 1) (by omega)
  have c5 := hc i2 (by omega)
  have c6 := hc (i2 + 1) (by omega)
  have c7 := hc (i2 + 1 + 1) (by omega)
  rw [e0] at c0
  rw [e1] at c1
  rw [e2] at c2
  rw [e3] at c3
  rw [e4] at c4
  rw [e5] at c5
  rw [e6] at c6
  rw [e7] at c7
  have HE1 : Hid (Calls Try.prog 19 #[.slice (some ⟨b, off, none⟩) n cap, .int .i64 ((i0 : Int) + 1)] w fun e w' => e = .returned (.int .i64 (i1 : Int)) ∧ w' = w) := by
    have := stringEnd_at b off n cap (i0 + 1 + 1) m1 zs w hn (by omega) (by omega) hx1 hc ((i0 : Int) + 1) (by omega)
    rw [show ((i0 + 1 + 1 : Nat) : Int) + (m1 : Int) + 1 = (i1 : Int) by omega] at this
    exact this
  have HE2 : Hid (Calls Try.prog 19 #[.slice (some ⟨b, off, none⟩) n cap, .int .i64 ((i1 : Int) + 1 + 1)] w fun e w' => e = .returned (.int .i64 (i2 : Int)) ∧ w' = w) := by
    have := stringEnd_at b off n cap (i1 + 1 + 1 + 1) m2 zs w hn (by omega) (by omega) hx2 hc ((i1 : Int) + 1 + 1) (by omega)
    rw [show ((i1 + 1 + 1 + 1 : Nat) : Int) + (m2 : Int) + 1 = (i2 : Int) by omega] at this
    exact this
  have b0 : i0 < n := by omega
  have b1 : i0 + 1 < n := by omega
  have b2 : i1 + 1 + 1 < n := by omega
  clear hc e0 e1 e2 e3 e4 e5 e6 e7 hx1 hx2 hi1 hi2
  go_enter Try.func20, Try.ntmps20
  go_wp2
  refine wp_loop_rounds 7 ?_
  rw [rounds_succ]
  go_wp2
  rw [rounds_succ]
  go_wp2_with fail
  refine HE1.out.mono ?_
  rintro e w1 ⟨rfl, rfl⟩
  go_wp2
  rw [rounds_succ]
  go_wp2
  rw [rounds_succ]
  go_wp2
  rw [rounds_succ]
  go_wp2_with fail
  refine HE2.out.mono ?_
  rintro e w2 ⟨rfl, rfl⟩
  go_wp2
  rw [rounds_succ]
  go_wp2
  rw [rounds_succ]
  go_wp2
  go_ret
  exact ⟨rfl, rfl⟩

/-- The shim. -/
theorem zzValueEnd {a : Option Addr} {n cap : Nat} {i r : Int} {w : World} (h : Calls Try.prog 20 #[.slice a n cap, .int .i64 i] w fun e w' => e = .returned (.int .i64 r) ∧ w' = w) :
    Calls Try.prog 17 #[.slice a n cap, .int .i64 i] w fun e w' => e = .returned (.int .i64 r) ∧ w' = w := by
  have H : Hid (Calls Try.prog 20 #[.slice a n cap, .int .i64 i] w fun e w' => e = .returned (.int .i64 r) ∧ w' = w) := h
  clear h
  go_enter Try.func17, Try.ntmps17
  go_wp2_with (go_at_call 20; refine H.out.mono ?_; rintro e w' ⟨rfl, rfl⟩)
  go_ret
  exact ⟨rfl, rfl⟩
end Go.Proofs.Qxb6602752a.ValEnd
