import Derived.Test.Qxb6600851aIsNumWalk
import Derived.Test.Qxb6600851aRunWalk
import Derived.Test.Qxb6600851aCopy
namespace Go.Proofs.Qxb6600851a.Grammar
open Go.RowKit NumPart By8
set_option linter.unusedSimpArgs false

/-- Any row that came in, copied. -/
theorem copy_any (a : Option Addr) (n cap : Nat) (zs : List Int) (w : World) (hn : n ≤ 1000000000)
    (h : (a = none ∧ n = 0 ∧ cap = 0) ∨ ((∃ x, a = some x) ∧ n ≤ zs.length ∧ Shows w a n zs)) :
    Calls Try.prog 9 #[.slice a n cap] w fun e w' => ∃ a', e = .returned (.slice a' n n) ∧ Below w.heap.size w w' ∧ Shows w' a' n zs := by
  rcases h with ⟨rfl, rfl, rfl⟩ | ⟨⟨x, rfl⟩, hz, hs⟩
  · refine (copy_nil w).mono ?_
    rintro e w' ⟨rfl, rfl⟩
    exact ⟨none, rfl, Below.refl _ _, fun h => absurd h (by omega)⟩
  · refine (copy_some x n cap zs w hn hs hz).mono ?_
    rintro e w' ⟨rfl, rfl⟩
    refine ⟨_, rfl, (Below.refl _ _).alloc (Nat.le_refl _) _, fun h => ⟨_, _, rfl, fun i hi => ?_⟩⟩
    rw [Nat.zero_add, cell_new w (zs.take n) i (by simp; omega)]
    simp [List.getElem?_take, hi]

/-- zzIsNumber, any slice. -/
theorem isNum_any (a : Option Addr) (n cap : Nat) (zs : List Int) (w : World) (hn : n ≤ 1000000000) (hs : Shows w a n zs) :
    Calls Try.prog 16 #[.slice a n cap] w fun e w' => e = .returned (.bool (isNum zs n)) ∧ w' = w := by
  by_cases h0 : 0 < n
  · obtain ⟨b, off, rfl, hc⟩ := hs h0
    exact isNum_some b off n cap zs w hn h0 hc
  · obtain rfl : n = 0 := by omega
    exact isNum_empty a cap zs w

/-- The size guard. -/
theorem guard_any (a : Option Addr) (n cap : Nat) (w : World) :
    Calls Try.prog 14 #[.slice a n cap] w fun e w' => e = .returned (.bool (decide (n ≤ 1048576))) ∧ w' = w := by
  by_cases h : n ≤ 1048576
  · go_enter Try.func14, Try.ntmps14
    go_wp2
    go_ret
    exact ⟨by simp [h], rfl⟩
  · go_enter Try.func14, Try.ntmps14
    go_wp2
    go_ret
    exact ⟨by simp [h], rfl⟩

/-- 'padded' behind k rounds. -/
def pd (zs : List Int) (n k : Nat) : List Int := zs.take k ++ List.replicate (n + 1 - k) 0
theorem pd_length {zs : List Int} {n k : Nat} (hz : n ≤ zs.length) (hk : k ≤ n) : (pd zs n k).length = n + 1 := by
  simp [pd]; omega
theorem pd_set {zs : List Int} {n k : Nat} (hz : n ≤ zs.length) (hk : k < n) : (pd zs n k).set k (zs.getD k 0) = pd zs n (k + 1) :=
  take_set zs k (n + 1) (by omega) (by omega)
theorem pd_zero (zs : List Int) (n : Nat) : pd zs n 0 = List.replicate (n + 1) 0 := by simp [pd]
theorem pd_last {zs : List Int} {n : Nat} (hz : n ≤ zs.length) : (pd zs n n).set n 48 = zs.take n ++ [48] := by
  have e : n + 1 - n = 1 := by omega
  have hl : (zs.take n).length = n := by simp; omega
  rw [pd, e, List.set_append_right _ _ (by omega), hl, Nat.sub_self]
  rfl
theorem ys_low {zs : List Int} {n : Nat} (hz : n ≤ zs.length) (i : Nat) (hi : i < n) : zs.getD i 0 = (zs.take n ++ [48]).getD i 0 := by
  simp only [List.getD_eq_getElem?_getD]
  rw [List.getElem?_append_left (by simp; omega), List.getElem?_take, if_pos hi]
theorem ys_last {zs : List Int} {n : Nat} (hz : n ≤ zs.length) : (zs.take n ++ [48]).getD n 0 = (48 : Int) := by
  have hl : (zs.take n).length = n := by simp; omega
  simp only [List.getD_eq_getElem?_getD]
  rw [List.getElem?_append_right (by omega), hl, Nat.sub_self]
  rfl

theorem mk1 (n : Nat) (hn : n ≤ 1048576) (zs : List Int) (w : World) : (Instr.makeSlice 22 (.int .i64 ((n : Int) + 1)) (.int .i64 ((n : Int) + 1))).run Try.prog w = .ok (.slice (some ⟨w.heap.size, 0, none⟩) (n + 1) (n + 1)) (w.alloc (.cells (by8 (pd zs n 0)) 5)) := by
  have h := mk_run (n + 1) (by omega) w
  have e : (((n + 1 : Nat)) : Int) = (n : Int) + 1 := by omega
  rw [e] at h
  rw [pd_zero]
  exact h

set_option maxHeartbeats 1000000 in
theorem match_in (a : Option Addr) (n cap : Nat) (zs : List Int) (w : World) (hn : n ≤ 1048576) (hz : n ≤ zs.length)
    (h : (a = none ∧ n = 0 ∧ cap = 0) ∨ ((∃ x, a = some x) ∧ n ≤ zs.length ∧ Shows w a n zs)) :
    Calls Try.prog 6 #[.slice a n cap] w fun e w' => e = .returned (.bool true) ∧ Below w.heap.size w w' := by
  have HC : Hid (Calls Try.prog 9 #[.slice a n cap] w fun e w' => ∃ a', e = .returned (.slice a' n n) ∧ Below w.heap.size w w' ∧ Shows w' a' n zs) := copy_any a n cap zs w (by omega) h
  have HGd : Hid (Calls Try.prog 14 #[.slice a n cap] w fun e w' => e = .returned (.bool true) ∧ w' = w) := by
    have := guard_any a n cap w
    simp only [hn, decide_true] at this
    exact this
  have HZ : Hid (n ≤ zs.length) := hz
  have HP : Hid ((A zs n).isSome = (isNum zs n || isNum (zs.take n ++ [48]) (n + 1))) := pad (fun i hi => ys_low hz i hi) (ys_last hz)
  obtain ⟨f, hf⟩ : ∃ f, isNum zs n = f := ⟨_, rfl⟩
  obtain ⟨g, hg⟩ : ∃ g, isNum (zs.take n ++ [48]) (n + 1) = g := ⟨_, rfl⟩
  obtain ⟨r, hr⟩ : ∃ r, (A zs n).isSome = r := ⟨_, rfl⟩
  have HPr : Hid (r = (f || g)) := by rw [← hr, ← hf, ← hg]; exact HP.out
  have HF : Hid (isNum zs n = f) := hf
  have HG : Hid (isNum (zs.take n ++ [48]) (n + 1) = g) := hg
  have HR : Hid ((A zs n).isSome = r) := hr
  have hmk := mk1 n hn zs
  have d1 : decide ((1048576 : Int) < (n : Int)) = false := decide_eq_false (by omega)
  clear h hf hg hr hz HP
  go_enter Try.func6, Try.ntmps6
  go_wp2_with fail
  refine HGd.out.mono ?_
  rintro e w' ⟨rfl, rfl⟩
  go_wp2_with fail
  refine HC.out.mono ?_
  rintro e w1 ⟨a', rfl, hb, hs⟩
  have HB : Hid (Below w'.heap.size w' w1) := hb
  have HS : Hid (Shows w1 a' n zs) := hs
  have HRun : Hid (Calls Try.prog 15 #[.slice a' n n] w1 fun e w' => e = .returned (.tuple #[.bool r, .bool f]) ∧ w' = w1) := by
    have := run_any a' n n zs w1 (by omega) hs
    rw [HF.out, HR.out] at this
    exact this
  clear hb hs
  go_wp2_with fail
  refine HRun.out.mono ?_
  rintro e w2 ⟨rfl, rfl⟩
  go_wp2_with fail
  clear hmk
  go_loopw [6] (fun i wr => ∃ k : Nat, k ≤ n ∧ i = .int .i64 k ∧ wr = w2.alloc (.cells (by8 (pd zs n k)) 5)) (fun i _ => n - (intOf i).toNat)
  case atStart => exact ⟨0, by omega, rfl, rfl⟩
  case round =>
    obtain ⟨k, hk, rfl, rfl⟩ := hrel
    by_cases hlt : k < n
    · obtain ⟨b, off, rfl, hcs⟩ := HS.out (by omega)
      have hc0 := hcs k hlt
      have hbl := lt_of_cell hc0
      simp at hbl
      have hlen := pd_length HZ.out hk
      have hc : (w2.alloc (.cells (by8 (pd zs n k)) 5)).cell? ⟨b, off + k, none⟩ = some (.int .u8 (zs.getD k 0)) := by rw [World.cell?_alloc_past _ _ _ hbl]; exact hc0
      have hd := cell_new w2 (pd zs n k) k (by omega)
      have hf : (w2.alloc (.cells (by8 (pd zs n k)) 5)).frozen? ⟨w2.heap.size, k, none⟩ = false := World.frozen?_alloc_at _ _ _ _ rfl
      have HP : Hid ((w2.alloc (.cells (by8 (pd zs n k)) 5)).setCell ⟨w2.heap.size, k, none⟩ (.int .u8 (zs.getD k 0)) = w2.alloc (.cells (by8 (pd zs n (k + 1))) 5)) := by
        show _ = _
        rw [set_new, pd_set HZ.out hlt]
      clear hcs hc0 hlen
      generalize w2.alloc (.cells (by8 (pd zs n k)) 5) = W at *
      generalize zs.getD k 0 = z at *
      generalize (pd zs n k).getD k 0 = z' at *
      go_wp2
      go_roundw
      case rel => exact ⟨k + 1, by omega, by go_num, HP.out⟩
      case measure => simp [intOf]; omega
    · obtain rfl : k = n := by omega
      have hd := cell_new w2 (pd zs k k) k (by rw [pd_length HZ.out hk]; omega)
      have hfz : (w2.alloc (.cells (by8 (pd zs k k)) 5)).frozen? ⟨w2.heap.size, k, none⟩ = false := World.frozen?_alloc_at _ _ _ _ rfl
      have hst : (w2.alloc (.cells (by8 (pd zs k k)) 5)).setCell ⟨w2.heap.size, k, none⟩ (.int .u8 48) = w2.alloc (.cells (by8 (zs.take k ++ [48])) 5) := by rw [set_new, pd_last HZ.out]
      have HB2 : Hid (Below w'.heap.size w' (w2.alloc (.cells (by8 (zs.take k ++ [48])) 5))) := HB.out.trans ((Below.refl _ _).alloc HB.out.size _)
      have HN1 : Hid (Calls Try.prog 16 #[.slice a' k k] (w2.alloc (.cells (by8 (zs.take k ++ [48])) 5)) fun e w' => e = .returned (.bool f) ∧ w' = w2.alloc (.cells (by8 (zs.take k ++ [48])) 5)) := by
        have := isNum_any a' k k zs (w2.alloc (.cells (by8 (zs.take k ++ [48])) 5)) (by omega) (fun h0 => by
          obtain ⟨b, off, ha, hcs⟩ := HS.out h0
          refine ⟨b, off, ha, fun i hi => ?_⟩
          have hc0 := hcs i hi
          rw [World.cell?_alloc_past _ _ _ (lt_of_cell hc0)]
          exact hc0)
        rw [HF.out] at this
        exact this
      have HN2 : Hid (Calls Try.prog 16 #[.slice (some ⟨w2.heap.size, 0, none⟩) (k + 1) (k + 1)] (w2.alloc (.cells (by8 (zs.take k ++ [48])) 5)) fun e w' => e = .returned (.bool g) ∧ w' = w2.alloc (.cells (by8 (zs.take k ++ [48])) 5)) := by
        have := isNum_any (some ⟨w2.heap.size, 0, none⟩) (k + 1) (k + 1) (zs.take k ++ [48]) (w2.alloc (.cells (by8 (zs.take k ++ [48])) 5)) (by omega) (fun h0 => ⟨_, _, rfl, fun i hi => by
          have hzz := HZ.out
          rw [Nat.zero_add]
          exact cell_new w2 _ i (by simp; omega)⟩)
        rw [HG.out] at this
        exact this
      have HW : Hid ((w2.alloc (.cells (by8 (pd zs k k)) 5)).setCell ⟨w2.heap.size, k, none⟩ (.int .u8 48) = w2.alloc (.cells (by8 (zs.take k ++ [48])) 5)) := hst
      clear hst
      generalize w2.alloc (.cells (by8 (zs.take k ++ [48])) 5) = W2 at *
      generalize w2.alloc (.cells (by8 (pd zs k k)) 5) = W at *
      go_wp2_with fail
      rw [HW.out]
      refine HN1.out.mono ?_
      rintro e w3 ⟨rfl, rfl⟩
      have HB3 := HB2.out
      have HB4 : Hid (Below w'.heap.size w' w3) := HB3
      clear HB3
      cases f
      · cases g
        · obtain rfl : r = false := HPr.out
          go_wp2_with fail
          refine HN2.out.mono ?_
          rintro e w4 ⟨rfl, rfl⟩
          go_wp2
          go_ret
          exact ⟨rfl, HB4.out⟩
        · obtain rfl : r = true := HPr.out
          go_wp2_with fail
          refine HN2.out.mono ?_
          rintro e w4 ⟨rfl, rfl⟩
          go_wp2
          go_ret
          exact ⟨rfl, HB4.out⟩
      · obtain rfl : r = true := HPr.out
        go_wp2
        go_ret
        exact ⟨rfl, HB4.out⟩

theorem match_out (a : Option Addr) (n cap : Nat) (w : World) (hn : ¬ n ≤ 1048576) :
    Calls Try.prog 6 #[.slice a n cap] w fun e w' => e = .returned (.bool true) ∧ Below w.heap.size w w' := by
  have HGd : Hid (Calls Try.prog 14 #[.slice a n cap] w fun e w' => e = .returned (.bool false) ∧ w' = w) := by
    have := guard_any a n cap w
    simp only [hn, decide_false] at this
    exact this
  go_enter Try.func6, Try.ntmps6
  go_wp2_with fail
  refine HGd.out.mono ?_
  rintro e w' ⟨rfl, rfl⟩
  go_wp2
  go_ret
  exact ⟨rfl, Below.refl _ _⟩

theorem match_all (a : Option Addr) (n cap : Nat) (zs : List Int) (w : World)
    (h : (a = none ∧ n = 0 ∧ cap = 0 ∧ zs = []) ∨ ∃ x, a = some x ∧ n ≤ cap ∧ cap ≤ maxLen ∧ zs.length = cap ∧ (∀ i, i < zs.length → w.cell? (x.add i) = some (.int .u8 (zs.getD i 0))) ∧ ∀ m ∈ zs, (Lit.int .u8 m).wf = true) :
    Calls Try.prog 6 #[.slice a n cap] w fun e w' => e = .returned (.bool true) ∧ Below w.heap.size w w' := by
  by_cases hn : n ≤ 1048576
  · rcases h with ⟨ha, hb, hc, _⟩ | ⟨x, rfl, hb, _, hd, he, _⟩
    · exact match_in a n cap zs w hn (by omega) (.inl ⟨ha, hb, hc⟩)
    · exact match_in (some x) n cap zs w hn (by omega) (.inr ⟨⟨x, rfl⟩, by omega, shows_of_cells hb hd he⟩)
  · exact match_out a n cap w hn
end Go.Proofs.Qxb6600851a.Grammar
