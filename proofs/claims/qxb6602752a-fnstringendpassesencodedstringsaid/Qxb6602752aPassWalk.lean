import Derived.Test.Qxb6602752aEncode
import Derived.Test.Qxb6602752aStrEnd
namespace Go.Proofs.Qxb6602752a.Pass
open Go.RowKit By8 Quotes App StrEnd
set_option linter.unusedSimpArgs false

/-- What the form says of a slice that came in. -/
abbrev RowIn (w : World) (a : Option Addr) (n cap : Nat) (zs : List Int) : Prop :=
  (a = none ∧ n = 0 ∧ cap = 0) ∨ ((∃ x, a = some x) ∧ n ≤ zs.length ∧ Shows w a n zs)
theorem RowIn.below {w w' : World} {a : Option Addr} {n cap : Nat} {zs : List Int} (h : RowIn w a n cap zs) (hb : Below w.heap.size w w') : RowIn w' a n cap zs := by
  rcases h with h | ⟨h1, h2, h3⟩
  · exact .inl h
  · exact .inr ⟨h1, h2, h3.below hb⟩
theorem RowIn.len {w : World} {a : Option Addr} {n cap : Nat} {zs : List Int} (h : RowIn w a n cap zs) : n ≤ zs.length := by
  rcases h with ⟨_, h, _⟩ | ⟨_, h, _⟩
  · omega
  · exact h
theorem rowIn_of {w : World} {a : Option Addr} {n cap : Nat} {zs : List Int}
    (h : (a = none ∧ n = 0 ∧ cap = 0 ∧ zs = []) ∨ ∃ x, a = some x ∧ n ≤ cap ∧ cap ≤ maxLen ∧ zs.length = cap ∧ (∀ i, i < zs.length → w.cell? (x.add i) = some (.int .u8 (zs.getD i 0))) ∧ ∀ m ∈ zs, (Lit.int .u8 m).wf = true) : RowIn w a n cap zs := by
  rcases h with ⟨ha, hb, hc, _⟩ | ⟨x, rfl, hb, _, hd, he, _⟩
  · exact .inl ⟨ha, hb, hc⟩
  · exact .inr ⟨⟨x, rfl⟩, by omega, shows_of_cells hb hd he⟩

/-- The size guard. -/
theorem guard_yes (a0 a1 a2 : Option Addr) (n0 c0 n1 c1 n2 c2 : Nat) (w : World) (h : n0 + n1 + n2 ≤ 1048576) :
    Calls Try.prog 13 #[.slice a0 n0 c0, .slice a1 n1 c1, .slice a2 n2 c2] w fun e w' => e = .returned (.bool true) ∧ w' = w := by
  go_enter Try.func13, Try.ntmps13
  go_wp2
  go_ret
  exact ⟨rfl, rfl⟩
theorem guard_no (a0 a1 a2 : Option Addr) (n0 c0 n1 c1 n2 c2 : Nat) (w : World) (h : ¬ n0 + n1 + n2 ≤ 1048576) :
    Calls Try.prog 13 #[.slice a0 n0 c0, .slice a1 n1 c1, .slice a2 n2 c2] w fun e w' => e = .returned (.bool false) ∧ w' = w := by
  go_enter Try.func13, Try.ntmps13
  go_wp2
  all_goals
    go_ret
    exact ⟨rfl, rfl⟩

theorem pass_out (a0 a1 a2 : Option Addr) (n0 c0 n1 c1 n2 c2 : Nat) (w : World) (h : ¬ n0 + n1 + n2 ≤ 1048576) :
    Calls Try.prog 5 #[.slice a0 n0 c0, .slice a1 n1 c1, .slice a2 n2 c2] w fun e w' => e = .returned (.bool true) ∧ Below w.heap.size w w' := by
  have HGd : Hid (Calls Try.prog 13 #[.slice a0 n0 c0, .slice a1 n1 c1, .slice a2 n2 c2] w fun e w' => e = .returned (.bool false) ∧ w' = w) := guard_no a0 a1 a2 n0 c0 n1 c1 n2 c2 w h
  go_enter Try.func5, Try.ntmps5
  go_wp2_with fail
  refine HGd.out.mono ?_
  rintro e w' ⟨rfl, rfl⟩
  go_wp2
  go_ret
  exact ⟨rfl, Below.refl _ _⟩

set_option maxHeartbeats 1000000 in
theorem pass_in (a0 a1 a2 : Option Addr) (n0 c0 n1 c1 n2 c2 : Nat) (z0 z1 z2 : List Int) (w : World) (h : n0 + n1 + n2 ≤ 1048576)
    (h0 : RowIn w a0 n0 c0 z0) (h1 : RowIn w a1 n1 c1 z1) (h2 : RowIn w a2 n2 c2 z2) :
    Calls Try.prog 5 #[.slice a0 n0 c0, .slice a1 n1 c1, .slice a2 n2 c2] w fun e w' => e = .returned (.bool true) ∧ Below w.heap.size w w' := by
  have HGd : Hid (Calls Try.prog 13 #[.slice a0 n0 c0, .slice a1 n1 c1, .slice a2 n2 c2] w fun e w' => e = .returned (.bool true) ∧ w' = w) := guard_yes a0 a1 a2 n0 c0 n1 c1 n2 c2 w h
  have H0 : Hid (RowIn w a0 n0 c0 z0) := h0
  have H1 : Hid (RowIn w a1 n1 c1 z1) := h1
  have H2 : Hid (RowIn w a2 n2 c2 z2) := h2
  clear h0 h1 h2
  go_enter Try.func5, Try.ntmps5
  go_wp2_with fail
  refine HGd.out.mono ?_
  rintro e w' ⟨rfl, rfl⟩
  go_wp2_with fail
  refine (clone_any a0 n0 c0 z0 _ (by omega) H0.out).mono ?_
  rintro e w1 ⟨b0, rfl, hb1, hs0⟩
  have HB1 : Hid (Below w'.heap.size w' w1) := hb1
  have HS0 : Hid (Shows w1 b0 n0 z0) := hs0
  clear hb1 hs0
  go_wp2_with fail
  refine (clone_any a1 n1 c1 z1 _ (by omega) (H1.out.below HB1.out)).mono ?_
  rintro e w2 ⟨b1, rfl, hb2, hs1⟩
  have HB2 : Hid (Below w1.heap.size w1 w2) := hb2
  have HS1 : Hid (Shows w2 b1 n1 z1) := hs1
  clear hb2 hs1
  have HBw2 : Hid (Below w'.heap.size w' w2) := HB1.out.trans (HB2.out.mono HB1.out.size)
  go_wp2_with fail
  refine (clone_any a2 n2 c2 z2 _ (by omega) (H2.out.below HBw2.out)).mono ?_
  rintro e w3 ⟨b2, rfl, hb3, hs2⟩
  have HB3 : Hid (Below w2.heap.size w2 w3) := hb3
  have HS2 : Hid (Shows w3 b2 n2 z2) := hs2
  clear hb3 hs2
  go_wp2_with fail
  refine (encode_any b1 n1 n1 z1 w3 (by omega) (HS1.out.below HB3.out) H1.out.len).mono ?_
  rintro e w4 ⟨L, rfl, ho, hb4⟩
  have hL : L = (body (z1.take n1)).length + 2 := by rw [← enc_length, ho.length]
  have hLle : L ≤ 2 * n1 + 2 := by
    have := (body_le (z1.take n1)).2
    have h2 : (z1.take n1).length ≤ n1 := by simp; omega
    omega
  have HL : Hid (L = (body (z1.take n1)).length + 2) := hL
  have HO4 : Hid (Own w4 w3.heap.size L L (enc (z1.take n1))) := ho
  have HB4 : Hid (Below w3.heap.size w3 w4) := hb4
  clear hL ho hb4
  have hmk := mk0_run (n0 + L + n2) (by omega) w4
  rw [show ((n0 + L + n2 : Nat) : Int) = (n0 : Int) + (L : Int) + (n2 : Int) by omega] at hmk
  go_wp2_with fail
  clear hmk
  have HO5 : Hid (Own (w4.alloc (.cells (by8 (List.replicate (n0 + L + n2) 0)) 5)) w4.heap.size 0 (n0 + L + n2) []) := Own.made w4 _ (by omega)
  have HB5 : Hid (Below w4.heap.size w4 (w4.alloc (.cells (by8 (List.replicate (n0 + L + n2) 0)) 5))) := (Below.refl _ _).alloc (Nat.le_refl _) _
  have HW4 : Hid (Below w'.heap.size w' w4) := HBw2.out.trans ((HB3.out.mono HBw2.out.size).trans (HB4.out.mono (Nat.le_trans HBw2.out.size HB3.out.size)))
  have HT0 : Hid (Shows w4 b0 n0 z0) := ((HS0.out.below HB2.out).below HB3.out).below HB4.out
  have HT2 : Hid (Shows w4 b2 n2 z2) := HS2.out.below HB4.out
  have HT1 : Hid (Shows w4 (some ⟨w3.heap.size, 0, none⟩) L (enc (z1.take n1))) := HO4.out.shows
  have HLe : Hid (L ≤ (enc (z1.take n1)).length) := by
    show _ ≤ _
    rw [HO4.out.length]; exact Nat.le_refl _
  generalize w4.alloc (.cells (by8 (List.replicate (n0 + L + n2) 0)) 5) = W5 at *
  refine (appendBytes_any w4 W5 w4.heap.size 0 (n0 + L + n2) n0 n0 [] z0 b0 (by omega) (Nat.le_refl _) HB5.out HT0.out HO5.out (by omega) H0.out.len).mono ?_
  rintro e w6 ⟨rfl, ho6, hb6⟩
  simp only [Nat.zero_add, List.nil_append] at ho6
  have HO6 : Hid (Own w6 w4.heap.size n0 (n0 + L + n2) (z0.take n0)) := ho6
  have HB6 : Hid (Below w4.heap.size w4 w6) := hb6
  clear ho6 hb6 HO5 HB5
  go_wp2_with fail
  refine (appendBytes_any w4 w6 w4.heap.size n0 (n0 + L + n2) L L (z0.take n0) (enc (z1.take n1)) (some ⟨w3.heap.size, 0, none⟩) (by omega) (Nat.le_refl _) HB6.out HT1.out HO6.out (by omega) HLe.out).mono ?_
  rintro e w7 ⟨rfl, ho7, hb7⟩
  have HO7 : Hid (Own w7 w4.heap.size (n0 + L) (n0 + L + n2) (z0.take n0 ++ enc (z1.take n1))) := by
    rw [List.take_of_length_le (show (enc (z1.take n1)).length ≤ L by rw [HO4.out.length]; exact Nat.le_refl _)] at ho7
    exact ho7
  have HB7 : Hid (Below w4.heap.size w4 w7) := hb7
  clear ho7 hb7 HO6 HB6
  go_wp2_with fail
  refine (appendBytes_any w4 w7 w4.heap.size (n0 + L) (n0 + L + n2) n2 n2 (z0.take n0 ++ enc (z1.take n1)) z2 b2 (by omega) (Nat.le_refl _) HB7.out HT2.out HO7.out (by omega) H2.out.len).mono ?_
  rintro e w8 ⟨rfl, ho8, hb8⟩
  have HO8 : Hid (Own w8 w4.heap.size (n0 + L + n2) (n0 + L + n2) (z0.take n0 ++ enc (z1.take n1) ++ z2.take n2)) := ho8
  have HB8 : Hid (Below w4.heap.size w4 w8) := hb8
  clear ho8 hb8 HO7 HB7
  have HE : Hid (Calls Try.prog 12 #[.slice (some ⟨w4.heap.size, 0, none⟩) (n0 + L + n2) (n0 + L + n2), .int .i64 (n0 : Int)] w8 fun e w' => e = .returned (.int .i64 ((n0 : Int) + (L : Int))) ∧ w' = w8) := by
    have hl0 : (z0.take n0).length = n0 := by have := H0.out.len; simp; omega
    have hdrop : (z0.take n0 ++ enc (z1.take n1) ++ z2.take n2).drop n0 = enc (z1.take n1) ++ z2.take n2 := by
      rw [List.append_assoc, List.drop_append_of_le_length (by omega), List.drop_of_length_le (by omega), List.nil_append]
    have hLL := HL.out
    have := zzStringEnd (stringEnd_at w4.heap.size 0 (n0 + L + n2) (n0 + L + n2) (n0 + 1) (body (z1.take n1)).length _ w8 (by omega) (by omega) (by omega) (enc_closes hdrop) (fun i hi => by rw [Nat.zero_add]; exact HO8.out.cells i hi) (n0 : Int) (by omega))
    rw [show ((n0 + 1 : Nat) : Int) + ((body (z1.take n1)).length : Int) + 1 = (n0 : Int) + (L : Int) by omega] at this
    exact this
  go_wp2_with fail
  refine HE.out.mono ?_
  rintro e w9 ⟨rfl, rfl⟩
  go_wp2
  go_ret
  exact ⟨rfl, HW4.out.trans (HB8.out.mono HW4.out.size)⟩

theorem pass_all (a0 a1 a2 : Option Addr) (n0 c0 n1 c1 n2 c2 : Nat) (z0 z1 z2 : List Int) (w : World)
    (h0 : (a0 = none ∧ n0 = 0 ∧ c0 = 0 ∧ z0 = []) ∨ ∃ x, a0 = some x ∧ n0 ≤ c0 ∧ c0 ≤ maxLen ∧ z0.length = c0 ∧ (∀ i, i < z0.length → w.cell? (x.add i) = some (.int .u8 (z0.getD i 0))) ∧ ∀ m ∈ z0, (Lit.int .u8 m).wf = true)
    (h1 : (a1 = none ∧ n1 = 0 ∧ c1 = 0 ∧ z1 = []) ∨ ∃ x, a1 = some x ∧ n1 ≤ c1 ∧ c1 ≤ maxLen ∧ z1.length = c1 ∧ (∀ i, i < z1.length → w.cell? (x.add i) = some (.int .u8 (z1.getD i 0))) ∧ ∀ m ∈ z1, (Lit.int .u8 m).wf = true)
    (h2 : (a2 = none ∧ n2 = 0 ∧ c2 = 0 ∧ z2 = []) ∨ ∃ x, a2 = some x ∧ n2 ≤ c2 ∧ c2 ≤ maxLen ∧ z2.length = c2 ∧ (∀ i, i < z2.length → w.cell? (x.add i) = some (.int .u8 (z2.getD i 0))) ∧ ∀ m ∈ z2, (Lit.int .u8 m).wf = true) :
    Calls Try.prog 5 #[.slice a0 n0 c0, .slice a1 n1 c1, .slice a2 n2 c2] w fun e w' => e = .returned (.bool true) ∧ Below w.heap.size w w' := by
  by_cases h : n0 + n1 + n2 ≤ 1048576
  · exact pass_in a0 a1 a2 n0 c0 n1 c1 n2 c2 z0 z1 z2 w h (rowIn_of h0) (rowIn_of h1) (rowIn_of h2)
  · exact pass_out a0 a1 a2 n0 c0 n1 c1 n2 c2 w h
end Go.Proofs.Qxb6602752a.Pass
