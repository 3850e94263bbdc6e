import Derived.Test.Qxb6600851aCopy
import Derived.Test.Qxb6600851aHexEsc
import Derived.OpenShut
namespace Go.Proofs.Qxb6600851a.Reads
open Go.RowKit By8 Hex
set_option linter.unusedSimpArgs false

/-- Any row that came in, copied. -/
theorem copy_any (a : Option Addr) (n cap : Nat) (zs : List Int) (w : World) (hn : n ≤ 1000000000)
    (h : (a = none ∧ n = 0 ∧ cap = 0) ∨ ((∃ x, a = some x) ∧ n ≤ zs.length ∧ Shows w a n zs)) :
    Calls Try.prog 9 #[.slice a n cap] w fun e w' => ∃ a', e = .returned (.slice a' n n) ∧ Below w.heap.size w w' ∧ Shows w' a' n zs := by
  rcases h with ⟨rfl, rfl, rfl⟩ | ⟨⟨x, rfl⟩, hz, hs⟩
  · refine (copy_nil w).mono ?_
    rintro e w' ⟨rfl, rfl⟩
    exact ⟨none, rfl, Below.refl _ _, fun h => absurd h (by omega)⟩
  · refine (copy_some x n cap zs w hn hs hz).mono ?_
    rintro e w' ⟨rfl, rfl⟩
    refine ⟨_, rfl, (Below.refl _ _).alloc (Nat.le_refl _) _, fun h => ⟨_, _, rfl, fun i hi => ?_⟩⟩
    rw [Nat.zero_add, cell_new w (zs.take n) i (by simp; omega)]
    simp [List.getElem?_take, hi]

/-- The size guard. -/
theorem guard_any (v : Int) (up : Bool) (a : Option Addr) (n cap : Nat) (w : World) :
    Calls Try.prog 12 #[.int .u16 v, .bool up, .slice a n cap] w fun e w' => e = .returned (.bool (decide (n ≤ 1048576))) ∧ w' = w := by
  by_cases h : n ≤ 1048576
  · go_enter Try.func12, Try.ntmps12
    go_wp2
    go_ret
    exact ⟨by simp [h], rfl⟩
  · go_enter Try.func12, Try.ntmps12
    go_wp2
    go_ret
    exact ⟨by simp [h], rfl⟩

/-- The shim ZZhexEscape. -/
theorem zzHex {a : Option Addr} {n cap : Nat} {i : Int} {b c : Bool} {w : World} (h : Calls Try.prog 20 #[.slice a n cap] w fun e w' => e = .returned (.tuple #[.int .i32 i, .bool b, .bool c]) ∧ w' = w) :
    Calls Try.prog 13 #[.slice a n cap] w fun e w' => e = .returned (.tuple #[.int .i32 i, .bool b, .bool c]) ∧ w' = w := by
  have H : Hid (Calls Try.prog 20 #[.slice a n cap] w fun e w' => e = .returned (.tuple #[.int .i32 i, .bool b, .bool c]) ∧ w' = w) := h
  clear h
  go_enter Try.func13, Try.ntmps13
  go_wp2_with (go_at_call 20; refine H.out.mono ?_; rintro e w' ⟨rfl, rfl⟩)
  go_ret3
  exact ⟨rfl, rfl⟩

theorem hv_nib (v : Int) (h0 : 0 ≤ v) (h1 : v < 65536) : hv (nib v) 4 = v := by
  simp only [hv, nib]; omega

/-- n zeros, under a name. -/
def zer (n : Nat) : List Int := List.replicate n 0
theorem zer_length (n : Nat) : (zer n).length = n := by simp [zer]
/-- The list behind zzPutHex4's stores. -/
def putL (l : List Int) (at_ : Nat) (up : Bool) (v : Int) : Nat → List Int
  | 0 => l
  | k + 1 => (putL l at_ up v k).set (at_ + k) (hexCh up (nib v k))
theorem putL_length (l : List Int) (at_ : Nat) (up : Bool) (v : Int) (k : Nat) : (putL l at_ up v k).length = l.length := by
  induction k with
  | zero => rfl
  | succ k ih => rw [putL, List.length_set, ih]
theorem put_block (w : World) (l : List Int) (at_ : Nat) (up : Bool) (v : Int) (k : Nat) :
    put w.heap.size 0 at_ up v (w.alloc (.cells (by8 l) 5)) k = w.alloc (.cells (by8 (putL l at_ up v k)) 5) := by
  induction k with
  | zero => rfl
  | succ k ih => rw [put, ih, Nat.zero_add, set_new, putL]
/-- The list behind k rounds of the copying loop. -/
def cpL (l zs : List Int) : Nat → List Int
  | 0 => l
  | k + 1 => (cpL l zs k).set (6 + k) (zs.getD k 0)
theorem cpL_length (l zs : List Int) (k : Nat) : (cpL l zs k).length = l.length := by
  induction k with
  | zero => rfl
  | succ k ih => rw [cpL, List.length_set, ih]
theorem cpL_low (l zs : List Int) (k j : Nat) (h : j < 6) : (cpL l zs k).getD j 0 = l.getD j 0 := by
  induction k with
  | zero => rfl
  | succ k ih =>
    rw [cpL, ← ih]
    simp only [List.getD_eq_getElem?_getD]
    rw [List.getElem?_set_ne (by omega)]

/-- The text ahead of the copying loop. -/
def head (n : Nat) (up : Bool) (v : Int) : List Int := putL (((zer (6 + n)).set 0 92).set 1 117) 2 up v 4
theorem head_length (n : Nat) (up : Bool) (v : Int) : (head n up v).length = 6 + n := by simp [head, putL_length, zer_length]
theorem head_digit (n : Nat) (up : Bool) (v : Int) (k : Nat) (hk : k < 4) : (head n up v).getD (2 + k) 0 = hexCh up (nib v k) := by
  have hl : 6 ≤ (zer (6 + n)).length := by rw [zer_length]; omega
  obtain ⟨a, b, c, d, e, f, r, hr⟩ : ∃ a b c d e f r, zer (6 + n) = a :: b :: c :: d :: e :: f :: r := by
    match zer (6 + n), hl with
    | a :: b :: c :: d :: e :: f :: r, _ => exact ⟨a, b, c, d, e, f, r, rfl⟩
  unfold head
  rw [hr]
  obtain rfl | rfl | rfl | rfl : k = 0 ∨ k = 1 ∨ k = 2 ∨ k = 3 := by omega
  all_goals rfl

theorem mk6 (n : Nat) (hn : n ≤ 1048576) (w : World) : (Instr.makeSlice 22 (.int .i64 (6 + (n : Int))) (.int .i64 (6 + (n : Int)))).run Try.prog w = .ok (.slice (some ⟨w.heap.size, 0, none⟩) (6 + n) (6 + n)) (w.alloc (.cells (by8 (zer (6 + n))) 5)) := by
  have h := mk_run (6 + n) (by omega) w
  have e : (((6 + n : Nat)) : Int) = 6 + (n : Int) := by omega
  rw [e] at h
  exact h

set_option maxHeartbeats 400000 in
theorem reads_in (v : Int) (up : Bool) (a : Option Addr) (n cap : Nat) (zs : List Int) (w : World) (h0 : 0 ≤ v) (h1 : v < 65536) (hn : n ≤ 1048576)
    (h : (a = none ∧ n = 0 ∧ cap = 0) ∨ ((∃ x, a = some x) ∧ n ≤ zs.length ∧ Shows w a n zs)) :
    Calls Try.prog 5 #[.int .u16 v, .bool up, .slice a n cap] w fun e w' => e = .returned (.bool true) ∧ Below w.heap.size w w' := by
  have HC : Hid (Calls Try.prog 9 #[.slice a n cap] w fun e w' => ∃ a', e = .returned (.slice a' n n) ∧ Below w.heap.size w w' ∧ Shows w' a' n zs) := copy_any a n cap zs w (by omega) h
  have HGd : Hid (Calls Try.prog 12 #[.int .u16 v, .bool up, .slice a n cap] w fun e w' => e = .returned (.bool true) ∧ w' = w) := by
    have := guard_any v up a n cap w
    simp only [hn, decide_true] at this
    exact this
  have hmk := mk6 n hn
  have g0 : (by8 (zer (6 + n)))[0]? = some (.int .u8 ((zer (6 + n)).getD 0 0)) := by8_get _ _ (by rw [zer_length]; omega)
  have g1 : ((by8 (zer (6 + n))).setIfInBounds 0 (.int .u8 92))[1]? = some (.int .u8 (((zer (6 + n)).set 0 92).getD 1 0)) := by rw [by8_set]; exact by8_get _ _ (by rw [List.length_set, zer_length]; omega)
  have d1 : decide ((1048576 : Int) < (n : Int)) = false := decide_eq_false (by omega)
  clear h
  go_enter Try.func5, Try.ntmps5
  go_wp2_with fail
  refine HGd.out.mono ?_
  rintro e w' ⟨rfl, rfl⟩
  go_wp2_with fail
  refine HC.out.mono ?_
  rintro e w1 ⟨a', rfl, hb, hs⟩
  have HB : Hid (Below w'.heap.size w' w1) := hb
  have HS : Hid (Shows w1 a' n zs) := hs
  clear hb hs
  go_wp2_with fail
  clear hmk g0 g1
  rw [by8_set, by8_set]
  refine (putHex_any w1.heap.size 0 (6 + n) (6 + n) 2 v up _ h0 h1 (by omega) (by omega) ?_ ?_).mono ?_
  · intro k hk
    exact ⟨_, by rw [Nat.zero_add]; exact cell_new w1 _ _ (by rw [List.length_set, List.length_set, zer_length]; omega)⟩
  · intro k hk
    exact World.frozen?_alloc_at _ _ _ _ rfl
  rintro e w2 ⟨rfl, rfl⟩
  rw [put_block]
  have hhd : putL (((zer (6 + n)).set 0 92).set 1 117) 2 up v 4 = head n up v := rfl
  rw [hhd]
  clear hhd
  go_wp2_with fail
  go_loopw [8] (fun i wr => ∃ k : Nat, k ≤ n ∧ i = .int .i64 k ∧ wr = w1.alloc (.cells (by8 (cpL (head n up v) zs k)) 5)) (fun i _ => n - (intOf i).toNat)
  case atStart => exact ⟨0, by omega, rfl, rfl⟩
  case round =>
    obtain ⟨k, hk, rfl, rfl⟩ := hrel
    by_cases hlt : k < n
    · obtain ⟨b, off, rfl, hcs⟩ := HS.out (by omega)
      have hc0 := hcs k hlt
      have hbl := lt_of_cell hc0
      simp at hbl
      have hlen : (cpL (head n up v) zs k).length = 6 + n := by rw [cpL_length, head_length]
      have hc : (w1.alloc (.cells (by8 (cpL (head n up v) zs k)) 5)).cell? ⟨b, off + k, none⟩ = some (.int .u8 (zs.getD k 0)) := by rw [World.cell?_alloc_past _ _ _ hbl]; exact hc0
      have hd := cell_new w1 (cpL (head n up v) zs k) (6 + k) (by omega)
      have hf : (w1.alloc (.cells (by8 (cpL (head n up v) zs k)) 5)).frozen? ⟨w1.heap.size, 6 + k, none⟩ = false := World.frozen?_alloc_at _ _ _ _ rfl
      have HP : Hid ((w1.alloc (.cells (by8 (cpL (head n up v) zs k)) 5)).setCell ⟨w1.heap.size, 6 + k, none⟩ (.int .u8 (zs.getD k 0)) = w1.alloc (.cells (by8 (cpL (head n up v) zs (k + 1))) 5)) := by
        show _ = _
        rw [set_new, cpL]
      clear hcs hc0 hlen
      generalize w1.alloc (.cells (by8 (cpL (head n up v) zs k)) 5) = W at *
      generalize zs.getD k 0 = z at *
      generalize (cpL (head n up v) zs k).getD (6 + k) 0 = z' at *
      go_wp2
      go_roundw
      case rel => exact ⟨k + 1, by omega, by go_num, HP.out⟩
      case measure => simp [intOf]; omega
    · obtain rfl : k = n := by omega
      have HF : Hid (Below w'.heap.size w' (w1.alloc (.cells (by8 (cpL (head k up v) zs k)) 5))) := HB.out.trans ((Below.refl _ _).alloc HB.out.size _)
      have HD : Hid (Calls Try.prog 13 #[.slice (some ⟨w1.heap.size, 0, none⟩) (6 + k) (6 + k)] (w1.alloc (.cells (by8 (cpL (head k up v) zs k)) 5)) fun e w' => e = .returned (.tuple #[.int .i32 v, .bool true, .bool true]) ∧ w' = w1.alloc (.cells (by8 (cpL (head k up v) zs k)) 5)) := by
        have hlen : (cpL (head k up v) zs k).length = 6 + k := by rw [cpL_length, head_length]
        have := hexEscape_digits w1.heap.size 0 (6 + k) (6 + k) (fun j => hexCh up (nib v j)) (nib v) (w1.alloc (.cells (by8 (cpL (head k up v) zs k)) 5)) (by omega) (by omega) (by omega) (by unfold maxLen; omega) (fun j _ => hexD_ch up _ (nib_bd v j).1 (nib_bd v j).2) (fun j hj => by
          rw [show 0 + 2 + j = 2 + j by omega, cell_new w1 _ (2 + j) (by omega), cpL_low _ _ _ _ (by omega), head_digit _ _ _ _ hj])
        rw [hv_nib v h0 h1] at this
        exact zzHex this
      generalize w1.alloc (.cells (by8 (cpL (head k up v) zs k)) 5) = W at *
      go_wp2_with fail
      clear d1 hk hlt
      go_loop [9] (fun i => ∃ j : Nat, j ≤ 6 ∧ i = .int .i64 j) (fun i => 6 - (intOf i).toNat)
      case atStart => exact ⟨0, by omega, rfl⟩
      case round =>
        obtain ⟨j, hj, rfl⟩ := hrel
        by_cases hjl : j < 6
        · have hjk : j ≤ 6 + k := by omega
          go_wp2_with fail
          refine (zzHex (hexEscape_short _ _ _ _ hjl)).mono ?_
          rintro e w3 ⟨rfl, rfl⟩
          go_wp2
          go_round
          case rel => exact ⟨j + 1, by omega, by go_num⟩
          case measure => simp [intOf]; omega
        · go_wp2_with fail
          refine HD.out.mono ?_
          rintro e w3 ⟨rfl, rfl⟩
          go_wp2
          go_ret
          exact ⟨rfl, HF.out⟩

theorem reads_out (v : Int) (up : Bool) (a : Option Addr) (n cap : Nat) (w : World) (hn : ¬ n ≤ 1048576) :
    Calls Try.prog 5 #[.int .u16 v, .bool up, .slice a n cap] w fun e w' => e = .returned (.bool true) ∧ Below w.heap.size w w' := by
  have HGd : Hid (Calls Try.prog 12 #[.int .u16 v, .bool up, .slice a n cap] w fun e w' => e = .returned (.bool false) ∧ w' = w) := by
    have := guard_any v up a n cap w
    simp only [hn, decide_false] at this
    exact this
  go_enter Try.func5, Try.ntmps5
  go_wp2_with fail
  refine HGd.out.mono ?_
  rintro e w' ⟨rfl, rfl⟩
  go_wp2
  go_ret
  exact ⟨rfl, Below.refl _ _⟩

theorem reads_all (v : Int) (up : Bool) (a : Option Addr) (n cap : Nat) (zs : List Int) (w : World) (hv : (Lit.int .u16 v).wf = true)
    (h : (a = none ∧ n = 0 ∧ cap = 0 ∧ zs = []) ∨ ∃ x, a = some x ∧ n ≤ cap ∧ cap ≤ maxLen ∧ zs.length = cap ∧ (∀ i, i < zs.length → w.cell? (x.add i) = some (.int .u8 (zs.getD i 0))) ∧ ∀ m ∈ zs, (Lit.int .u8 m).wf = true) :
    Calls Try.prog 5 #[.int .u16 v, .bool up, .slice a n cap] w fun e w' => e = .returned (.bool true) ∧ Below w.heap.size w w' := by
  by_cases hn : n ≤ 1048576
  · obtain ⟨h0, h1⟩ := bounds_u16 hv
    refine reads_in v up a n cap zs w (by omega) (by omega) hn ?_
    rcases h with ⟨ha, hb, hc, _⟩ | ⟨x, rfl, hb, _, hd, he, _⟩
    · exact .inl ⟨ha, hb, hc⟩
    · exact .inr ⟨⟨x, rfl⟩, by omega, shows_of_cells hb hd he⟩
  · exact reads_out v up a n cap w hn
end Go.Proofs.Qxb6600851a.Reads
