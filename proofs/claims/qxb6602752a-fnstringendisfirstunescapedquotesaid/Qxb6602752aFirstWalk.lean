import Derived.Test.Qxb6602752aStrEnd
import Derived.Test.Qxb6602752aClone
namespace Go.Proofs.Qxb6602752a.First
open Go.RowKit Quotes By8 StrEnd
set_option linter.unusedSimpArgs false

/-- The size guard. -/
theorem guard_any (a : Option Addr) (n cap : Nat) (i : Int) (w : World) :
    Calls Try.prog 9 #[.slice a n cap, .int .i64 i] w fun e w' => e = .returned (.bool (decide (n ≤ 1048576))) ∧ w' = w := by
  by_cases h : n ≤ 1048576
  · go_enter Try.func9, Try.ntmps9
    go_wp2
    go_ret
    exact ⟨by simp [h], rfl⟩
  · go_enter Try.func9, Try.ntmps9
    go_wp2
    go_ret
    exact ⟨by simp [h], rfl⟩

theorem first_long (a : Option Addr) (n cap : Nat) (i : Int) (w : World) (hn : ¬ n ≤ 1048576) :
    Calls Try.prog 4 #[.slice a n cap, .int .i64 i] w fun e w' => e = .returned (.bool true) ∧ Below w.heap.size w w' := by
  have HGd : Hid (Calls Try.prog 9 #[.slice a n cap, .int .i64 i] w fun e w' => e = .returned (.bool false) ∧ w' = w) := by
    have := guard_any a n cap i w
    simp only [hn, decide_false] at this
    exact this
  go_enter Try.func4, Try.ntmps4
  go_wp2_with fail
  refine HGd.out.mono ?_
  rintro e w' ⟨rfl, rfl⟩
  go_wp2
  go_ret
  exact ⟨rfl, Below.refl _ _⟩

theorem first_off (a : Option Addr) (n cap : Nat) (i : Int) (w : World) (hn : n ≤ 1048576) (hi : i < 0 ∨ (n : Int) ≤ i) :
    Calls Try.prog 4 #[.slice a n cap, .int .i64 i] w fun e w' => e = .returned (.bool true) ∧ Below w.heap.size w w' := by
  have HGd : Hid (Calls Try.prog 9 #[.slice a n cap, .int .i64 i] w fun e w' => e = .returned (.bool true) ∧ w' = w) := by
    have := guard_any a n cap i w
    simp only [hn, decide_true] at this
    exact this
  rcases hi with hi | hi
  · go_enter Try.func4, Try.ntmps4
    go_wp2_with fail
    refine HGd.out.mono ?_
    rintro e w' ⟨rfl, rfl⟩
    go_wp2
    go_ret
    exact ⟨rfl, Below.refl _ _⟩
  · have hi' : ¬ i < 0 := by omega
    go_enter Try.func4, Try.ntmps4
    go_wp2_with fail
    refine HGd.out.mono ?_
    rintro e w' ⟨rfl, rfl⟩
    go_wp2
    go_ret
    exact ⟨rfl, Below.refl _ _⟩

set_option maxHeartbeats 400000 in
theorem first_in (a : Option Addr) (n cap i0 : Nat) (zs : List Int) (w : World) (hn : n ≤ 1048576) (hi : i0 < n)
    (h : (a = none ∧ n = 0 ∧ cap = 0) ∨ ((∃ x, a = some x) ∧ n ≤ zs.length ∧ Shows w a n zs)) :
    Calls Try.prog 4 #[.slice a n cap, .int .i64 i0] w fun e w' => e = .returned (.bool true) ∧ Below w.heap.size w w' := by
  have HGd : Hid (Calls Try.prog 9 #[.slice a n cap, .int .i64 i0] w fun e w' => e = .returned (.bool true) ∧ w' = w) := by
    have := guard_any a n cap i0 w
    simp only [hn, decide_true] at this
    exact this
  have HC : Hid (Calls Try.prog 10 #[.slice a n cap] w fun e w' => ∃ a', e = .returned (.slice a' n n) ∧ Below w.heap.size w w' ∧ Shows w' a' n zs) := clone_any a n cap zs w (by omega) h
  clear h
  go_enter Try.func4, Try.ntmps4
  go_wp2_with fail
  refine HGd.out.mono ?_
  rintro e w' ⟨rfl, rfl⟩
  go_wp2_with fail
  refine HC.out.mono ?_
  rintro e w1 ⟨a', rfl, hb, hs⟩
  obtain ⟨b, off, rfl, hcs⟩ := hs (by omega)
  have HB : Hid (Below w'.heap.size w' w1) := hb
  have HCs : Hid (∀ i, i < n → w1.cell? ⟨b, off + i, none⟩ = some (.int .u8 (zs.getD i 0))) := hcs
  clear hb hs hcs
  go_wp2_with fail
  refine (quoteClose_any b off n n i0 zs w1 (by omega) hi HCs.out).mono ?_
  rintro e w2 ⟨rfl, rfl | ⟨m, hm, hcl, rfl⟩⟩
  · go_wp2
    go_ret
    exact ⟨rfl, HB.out⟩
  · have HX : Hid (Closes zs (i0 + 1) m) := hcl
    clear hcl
    go_wp2_with fail
    refine (zzStringEnd (stringEnd_at b off n n (i0 + 1) m zs _ (by omega) (by omega) hm HX.out HCs.out i0 (by omega))).mono ?_
    rintro e w3 ⟨rfl, rfl⟩
    go_wp2
    go_ret
    exact ⟨rfl, HB.out⟩

theorem first_all (a : Option Addr) (n cap : Nat) (zs : List Int) (i : Int) (w : World)
    (h : (a = none ∧ n = 0 ∧ cap = 0 ∧ zs = []) ∨ ∃ x, a = some x ∧ n ≤ cap ∧ cap ≤ maxLen ∧ zs.length = cap ∧ (∀ i, i < zs.length → w.cell? (x.add i) = some (.int .u8 (zs.getD i 0))) ∧ ∀ m ∈ zs, (Lit.int .u8 m).wf = true) :
    Calls Try.prog 4 #[.slice a n cap, .int .i64 i] w fun e w' => e = .returned (.bool true) ∧ Below w.heap.size w w' := by
  by_cases hn : n ≤ 1048576
  · by_cases hi : i < 0 ∨ (n : Int) ≤ i
    · exact first_off a n cap i w hn hi
    · obtain ⟨i0, rfl⟩ : ∃ i0 : Nat, i = i0 := ⟨i.toNat, by omega⟩
      refine first_in a n cap i0 zs w hn (by omega) ?_
      rcases h with ⟨ha, hb, hc, _⟩ | ⟨x, rfl, hb, _, hd, he, _⟩
      · exact .inl ⟨ha, hb, hc⟩
      · exact .inr ⟨⟨x, rfl⟩, by omega, shows_of_cells hb hd he⟩
  · exact first_long a n cap i w hn
end Go.Proofs.Qxb6602752a.First
