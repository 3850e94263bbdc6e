import Derived.Test.Qxb6602752aEncode
import Derived.Test.Qxb6602752aValEnd
import Derived.Deep.DeepCutAuto
namespace Go.Proofs.Qxb6602752a.Obj
open Go.RowKit By8 Quotes App StrEnd ValEnd
set_option linter.unusedSimpArgs false

/-! ### Plain -/
theorem obj_facts {R K V S : List Int} {i : Nat} (h : R.drop i = 123 :: (enc K ++ 58 :: 91 :: (enc V ++ 93 :: 125 :: 44 :: S))) :
    R.getD i 0 = 123 ∧ R.getD (i + 1) 0 = 34 ∧ Closes R (i + 1 + 1) (body K).length ∧
    R.getD (i + 1 + (enc K).length) 0 = 58 ∧ R.getD (i + 1 + (enc K).length + 1) 0 = 91 ∧ R.getD (i + 1 + (enc K).length + 1 + 1) 0 = 34 ∧ Closes R (i + 1 + (enc K).length + 1 + 1 + 1) (body V).length ∧
    R.getD (i + 1 + (enc K).length + 1 + 1 + (enc V).length) 0 = 93 ∧ R.getD (i + 1 + (enc K).length + 1 + 1 + (enc V).length + 1) 0 = 125 ∧ R.getD (i + 1 + (enc K).length + 1 + 1 + (enc V).length + 1 + 1) 0 = 44 := by
  obtain ⟨a0, h1⟩ := getD_of_drop h
  have a1 : R.getD (i + 1) 0 = 34 := (getD_of_drop (show R.drop (i + 1) = 34 :: _ from h1)).1
  have x1 := enc_closes h1
  have h2 : R.drop (i + 1 + (enc K).length) = 58 :: 91 :: (enc V ++ 93 :: 125 :: 44 :: S) := by
    rw [← List.drop_drop, h1]; simp
  obtain ⟨a2, h3⟩ := getD_of_drop h2
  obtain ⟨a3, h4⟩ := getD_of_drop h3
  have a4 : R.getD (i + 1 + (enc K).length + 1 + 1) 0 = 34 := (getD_of_drop (show R.drop (i + 1 + (enc K).length + 1 + 1) = 34 :: _ from h4)).1
  have x2 := enc_closes h4
  have h5 : R.drop (i + 1 + (enc K).length + 1 + 1 + (enc V).length) = 93 :: 125 :: 44 :: S := by
    rw [← List.drop_drop, h4]; simp
  obtain ⟨a5, h6⟩ := getD_of_drop h5
  obtain ⟨a6, h7⟩ := getD_of_drop h6
  obtain ⟨a7, _⟩ := getD_of_drop h7
  exact ⟨a0, a1, x1, a2, a3, a4, x2, a5, a6, a7⟩

/-- What the form says of a slice that came in. -/
abbrev RowIn (w : World) (a : Option Addr) (n cap : Nat) (zs : List Int) : Prop :=
  (a = none ∧ n = 0 ∧ cap = 0) ∨ ((∃ x, a = some x) ∧ n ≤ zs.length ∧ Shows w a n zs)
theorem RowIn.below {w w' : World} {a : Option Addr} {n cap : Nat} {zs : List Int} (h : RowIn w a n cap zs) (hb : Below w.heap.size w w') : RowIn w' a n cap zs := by
  rcases h with h | ⟨h1, h2, h3⟩
  · exact .inl h
  · exact .inr ⟨h1, h2, h3.below hb⟩
theorem RowIn.len {w : World} {a : Option Addr} {n cap : Nat} {zs : List Int} (h : RowIn w a n cap zs) : n ≤ zs.length := by
  rcases h with ⟨_, h, _⟩ | ⟨_, h, _⟩
  · omega
  · exact h
theorem rowIn_of {w : World} {a : Option Addr} {n cap : Nat} {zs : List Int}
    (h : (a = none ∧ n = 0 ∧ cap = 0 ∧ zs = []) ∨ ∃ x, a = some x ∧ n ≤ cap ∧ cap ≤ maxLen ∧ zs.length = cap ∧ (∀ i, i < zs.length → w.cell? (x.add i) = some (.int .u8 (zs.getD i 0))) ∧ ∀ m ∈ zs, (Lit.int .u8 m).wf = true) : RowIn w a n cap zs := by
  rcases h with ⟨ha, hb, hc, _⟩ | ⟨x, rfl, hb, _, hd, he, _⟩
  · exact .inl ⟨ha, hb, hc⟩
  · exact .inr ⟨⟨x, rfl⟩, by omega, shows_of_cells hb hd he⟩

/-! ### The laws on append, the new length under a fresh name -/
theorem append1' (wr : World) {ops : Array Oper} {rest : List Oper} {o : Oper} {a : Act} {Q : Exit → Act → World → Prop}
    (hg : o.guard = none) (s x : Operand) (hop : o.op = Op.call { callee := Callee.builtin Builtin.append, args := #[s, x], argTypes := #[24, 24] })
    (g k cap : Nat) (l : List Int) (z : Int) (hs : a.eval s = .slice (some ⟨g, 0, none⟩) k cap) (hx : a.eval x = .slice (some ⟨wr.heap.size, 0, none⟩) 1 1)
    (ho : Own wr g k cap l) (hfit : k + 1 ≤ cap) (wB : World) (hB : Below wB.heap.size wB wr) (hgB : wB.heap.size ≤ g)
    (hK : ∀ K w', Hid (K = k + 1) → Hid (Own w' g K cap (l ++ [z])) → Hid (Below wB.heap.size wB w') → wpList Try.prog ops Q rest (a.put o.dst (.slice (some ⟨g, 0, none⟩) K cap)) w') :
    wpList Try.prog ops Q (o :: rest) a (wr.alloc (.cells #[.int .u8 z] 5)) :=
  append1 wr hg s x hop g k cap l z hs hx ho hfit wB hB hgB (fun w' h1 h2 => hK (k + 1) w' rfl h1 h2)
theorem appendBytes' (wB w : World) (g k cap m c : Nat) (l ys : List Int) (a : Option Addr) (hcap : cap ≤ 1000000000) (hgB : wB.heap.size ≤ g)
    (hb : Below wB.heap.size wB w) (hs : Shows wB a m ys) (ho : Own w g k cap l) (hfit : k + m ≤ cap) (hy : m ≤ ys.length) :
    Calls Try.prog 15 #[.slice (some ⟨g, 0, none⟩) k cap, .slice a m c] w fun e w' => ∃ K, e = .returned (.slice (some ⟨g, 0, none⟩) K cap) ∧ Hid (K = k + m) ∧ Hid (Own w' g K cap (l ++ ys.take m)) ∧ Hid (Below wB.heap.size wB w') := by
  refine (appendBytes_any wB w g k cap m c l ys a hcap hgB hb hs ho hfit hy).mono ?_
  rintro e w' ⟨rfl, h1, h2⟩
  exact ⟨k + m, rfl, rfl, h1, h2⟩

/-! ### The size guard -/
theorem guard_yes (a0 a1 a2 a3 : Option Addr) (n0 c0 n1 c1 n2 c2 n3 c3 : Nat) (w : World) (h : n0 + n1 + n2 + n3 ≤ 1048576) :
    Calls Try.prog 16 #[.slice a0 n0 c0, .slice a1 n1 c1, .slice a2 n2 c2, .slice a3 n3 c3] w fun e w' => e = .returned (.bool true) ∧ w' = w := by
  go_enter Try.func16, Try.ntmps16
  go_wp2
  go_ret
  exact ⟨rfl, rfl⟩
theorem guard_no (a0 a1 a2 a3 : Option Addr) (n0 c0 n1 c1 n2 c2 n3 c3 : Nat) (w : World) (h : ¬ n0 + n1 + n2 + n3 ≤ 1048576) :
    Calls Try.prog 16 #[.slice a0 n0 c0, .slice a1 n1 c1, .slice a2 n2 c2, .slice a3 n3 c3] w fun e w' => e = .returned (.bool false) ∧ w' = w := by
  go_enter Try.func16, Try.ntmps16
  go_wp2
  all_goals
    go_ret
    exact ⟨rfl, rfl⟩
theorem obj_out (a0 a1 a2 a3 : Option Addr) (n0 c0 n1 c1 n2 c2 n3 c3 : Nat) (w : World) (h : ¬ n0 + n1 + n2 + n3 ≤ 1048576) :
    Calls Try.prog 6 #[.slice a0 n0 c0, .slice a1 n1 c1, .slice a2 n2 c2, .slice a3 n3 c3] w fun e w' => e = .returned (.bool true) ∧ Below w.heap.size w w' := by
  have HGd : Hid (Calls Try.prog 16 #[.slice a0 n0 c0, .slice a1 n1 c1, .slice a2 n2 c2, .slice a3 n3 c3] w fun e w' => e = .returned (.bool false) ∧ w' = w) := guard_no a0 a1 a2 a3 n0 c0 n1 c1 n2 c2 n3 c3 w h
  go_enter Try.func6, Try.ntmps6
  go_wp2_with fail
  refine HGd.out.mono ?_
  rintro e w' ⟨rfl, rfl⟩
  go_wp2
  go_ret
  exact ⟨rfl, Below.refl _ _⟩

set_option maxHeartbeats 4000000 in
theorem obj_in (a0 a1 a2 a3 : Option Addr) (n0 c0 n1 c1 n2 c2 n3 c3 : Nat) (z0 z1 z2 z3 : List Int) (w : World) (h : n0 + n1 + n2 + n3 ≤ 1048576)
    (h0 : RowIn w a0 n0 c0 z0) (h1 : RowIn w a1 n1 c1 z1) (h2 : RowIn w a2 n2 c2 z2) (h3 : RowIn w a3 n3 c3 z3) :
    Calls Try.prog 6 #[.slice a0 n0 c0, .slice a1 n1 c1, .slice a2 n2 c2, .slice a3 n3 c3] w fun e w' => e = .returned (.bool true) ∧ Below w.heap.size w w' := by
  have HGd : Hid (Calls Try.prog 16 #[.slice a0 n0 c0, .slice a1 n1 c1, .slice a2 n2 c2, .slice a3 n3 c3] w fun e w' => e = .returned (.bool true) ∧ w' = w) := guard_yes a0 a1 a2 a3 n0 c0 n1 c1 n2 c2 n3 c3 w h
  have H0 : Hid (RowIn w a0 n0 c0 z0) := h0
  have H1 : Hid (RowIn w a1 n1 c1 z1) := h1
  have H2 : Hid (RowIn w a2 n2 c2 z2) := h2
  have H3 : Hid (RowIn w a3 n3 c3 z3) := h3
  clear h0 h1 h2 h3
  go_enter Try.func6, Try.ntmps6
  go_wp2_with fail
  refine HGd.out.mono ?_
  rintro e w' ⟨rfl, rfl⟩
  -- the four copies
  go_wp2_with fail
  refine (clone_any a0 n0 c0 z0 _ (by omega) H0.out).mono ?_
  rintro e w1 ⟨b0, rfl, hb1, hs0⟩
  have HB1 : Hid (Below w'.heap.size w' w1) := hb1
  have HS0 : Hid (Shows w1 b0 n0 z0) := hs0
  clear hb1 hs0 HGd
  go_wp2_with fail
  refine (clone_any a1 n1 c1 z1 _ (by omega) (H1.out.below HB1.out)).mono ?_
  rintro e w2 ⟨b1, rfl, hb2, hs1⟩
  have HB2 : Hid (Below w'.heap.size w' w2) := HB1.out.trans (hb2.mono HB1.out.size)
  have HS1 : Hid (Shows w2 b1 n1 z1) := hs1
  have HT0 : Hid (Shows w2 b0 n0 z0) := HS0.out.below hb2
  clear hb2 hs1 HS0 HB1
  go_wp2_with fail
  refine (clone_any a2 n2 c2 z2 _ (by omega) (H2.out.below HB2.out)).mono ?_
  rintro e w3 ⟨b2, rfl, hb3, hs2⟩
  have HB3 : Hid (Below w'.heap.size w' w3) := HB2.out.trans (hb3.mono HB2.out.size)
  have HS2 : Hid (Shows w3 b2 n2 z2) := hs2
  have HU0 : Hid (Shows w3 b0 n0 z0) := HT0.out.below hb3
  have HU1 : Hid (Shows w3 b1 n1 z1) := HS1.out.below hb3
  clear hb3 hs2 HT0 HS1 HB2
  go_wp2_with fail
  refine (clone_any a3 n3 c3 z3 _ (by omega) (H3.out.below HB3.out)).mono ?_
  rintro e w4 ⟨b3, rfl, hb4, hs3⟩
  have HB4 : Hid (Below w'.heap.size w' w4) := HB3.out.trans (hb4.mono HB3.out.size)
  have HV0 : Hid (Shows w4 b0 n0 z0) := HU0.out.below hb4
  have HV1 : Hid (Shows w4 b1 n1 z1) := HU1.out.below hb4
  have HV2 : Hid (Shows w4 b2 n2 z2) := HS2.out.below hb4
  have HV3 : Hid (Shows w4 b3 n3 z3) := hs3
  clear hb4 hs3 HU0 HU1 HS2 HB3
  -- the two strings
  go_wp2_with fail
  refine (encode_any b1 n1 n1 z1 w4 (by omega) HV1.out H1.out.len).mono ?_
  rintro e w5 ⟨LK, rfl, ho5, hb5⟩
  have hLK : LK ≤ 2 * n1 + 2 := by
    have e1 := ho5.length
    rw [enc_length] at e1
    have := (body_le (z1.take n1)).2
    have h2 : (z1.take n1).length ≤ n1 := by simp; omega
    omega
  have HO5 : Hid (Own w5 w4.heap.size LK LK (enc (z1.take n1))) := ho5
  have HB5 : Hid (Below w4.heap.size w4 w5) := hb5
  clear ho5 hb5
  go_wp2_with fail
  refine (encode_any b2 n2 n2 z2 w5 (by omega) (HV2.out.below HB5.out) H2.out.len).mono ?_
  rintro e w6 ⟨LV, rfl, ho6, hb6⟩
  have hLV : LV ≤ 2 * n2 + 2 := by
    have e1 := ho6.length
    rw [enc_length] at e1
    have := (body_le (z2.take n2)).2
    have h2 : (z2.take n2).length ≤ n2 := by simp; omega
    omega
  have HO6 : Hid (Own w6 w5.heap.size LV LV (enc (z2.take n2))) := ho6
  have HB6 : Hid (Below w5.heap.size w5 w6) := hb6
  clear ho6 hb6
  have HTK : Hid (Shows w6 (some ⟨w4.heap.size, 0, none⟩) LK (enc (z1.take n1))) := HO5.out.shows.below HB6.out
  have HTV : Hid (Shows w6 (some ⟨w5.heap.size, 0, none⟩) LV (enc (z2.take n2))) := HO6.out.shows
  have HX0 : Hid (Shows w6 b0 n0 z0) := (HV0.out.below HB5.out).below HB6.out
  have HX3 : Hid (Shows w6 b3 n3 z3) := (HV3.out.below HB5.out).below HB6.out
  have HW6 : Hid (Below w'.heap.size w' w6) := HB4.out.trans ((HB5.out.mono HB4.out.size).trans (HB6.out.mono (Nat.le_trans HB4.out.size HB5.out.size)))
  have HlK : Hid ((enc (z1.take n1)).length = LK) := HO5.out.length
  have HlV : Hid ((enc (z2.take n2)).length = LV) := HO6.out.length
  clear HV0 HV1 HV2 HV3 HB4 HO5 HB5 HO6 HB6
  -- the object
  have hmk := mk0_run (LK + LV + 5) (by omega) w6
  rw [show ((LK + LV + 5 : Nat) : Int) = (LK : Int) + (LV : Int) + 5 by omega] at hmk
  go_upto_region 14 with fail
  clear hmk
  have HO : Hid (Own (w6.alloc (.cells (by8 (List.replicate (LK + LV + 5) 0)) 5)) w6.heap.size 0 (LK + LV + 5) []) := Own.made w6 _ (by omega)
  have HB : Hid (Below w6.heap.size w6 (w6.alloc (.cells (by8 (List.replicate (LK + LV + 5) 0)) 5))) := (Below.refl _ _).alloc (Nat.le_refl _) _
  generalize w6.alloc (.cells (by8 (List.replicate (LK + LV + 5) 0)) 5) = W at *
  obtain ⟨M, hM⟩ : ∃ M, M = LK + LV + 5 := ⟨_, rfl⟩
  rw [← hM] at HO
  rw [← hM]
  have HM : Hid (M = LK + LV + 5) := hM
  clear hM
  go_wp2_with (at_builtin; refine append1' W rfl (.tmp 68) (.tmp 69) rfl w6.heap.size 0 M [] 123 rfl rfl HO.out (by have := HM.out; omega) w6 HB.out (Nat.le_refl _) ?_; intro K1 w7 HK1 HO7 HB7)
  refine (appendBytes' w6 w7 w6.heap.size K1 M LK LK ([] ++ [123]) (enc (z1.take n1)) (some ⟨w4.heap.size, 0, none⟩) (by have := HM.out; omega) (Nat.le_refl _) HB7.out HTK.out HO7.out (by have := HM.out; have := HK1.out; omega) (by rw [HlK.out]; exact Nat.le_refl _)).mono ?_
  rintro e w8 ⟨K2, rfl, HK2, HO8, HB8⟩
  clear HO HB HO7 HB7
  go_upto_region 17 with (at_builtin; refine append1' w8 rfl (.tmp 74) (.tmp 75) rfl w6.heap.size K2 M _ 58 rfl rfl HO8.out (by have := HM.out; have := HK1.out; have := HK2.out; omega) w6 HB8.out (Nat.le_refl _) ?_; intro K3 w9 HK3 HO9 HB9)
  clear HO8 HB8
  go_upto_region 18 with (at_builtin; refine append1' w9 rfl (.tmp 77) (.tmp 78) rfl w6.heap.size K3 M _ 91 rfl rfl HO9.out (by have := HM.out; have := HK1.out; have := HK2.out; have := HK3.out; omega) w6 HB9.out (Nat.le_refl _) ?_; intro K4 w10 HK4 HO10 HB10)
  clear HO9 HB9
  go_wp2_with fail
  refine (appendBytes' w6 w10 w6.heap.size K4 M LV LV _ (enc (z2.take n2)) (some ⟨w5.heap.size, 0, none⟩) (by have := HM.out; omega) (Nat.le_refl _) HB10.out HTV.out HO10.out (by have := HM.out; have := HK1.out; have := HK2.out; have := HK3.out; have := HK4.out; omega) (by rw [HlV.out]; exact Nat.le_refl _)).mono ?_
  rintro e w11 ⟨K5, rfl, HK5, HO11, HB11⟩
  clear HO10 HB10
  go_upto_region 20 with (at_builtin; refine append1' w11 rfl (.tmp 83) (.tmp 84) rfl w6.heap.size K5 M _ 93 rfl rfl HO11.out (by have := HM.out; have := HK1.out; have := HK2.out; have := HK3.out; have := HK4.out; have := HK5.out; omega) w6 HB11.out (Nat.le_refl _) ?_; intro K6 w12 HK6 HO12 HB12)
  clear HO11 HB11
  go_upto_region 21 with (at_builtin; refine append1' w12 rfl (.tmp 86) (.tmp 87) rfl w6.heap.size K6 M _ 125 rfl rfl HO12.out (by have := HM.out; have := HK1.out; have := HK2.out; have := HK3.out; have := HK4.out; have := HK5.out; have := HK6.out; omega) w6 HB12.out (Nat.le_refl _) ?_; intro K7 w13 HK7 HO13 HB13)
  clear HO12 HB12
  have HKM : Hid (K7 = LK + LV + 5) := by
    show _ = _
    have := HK1.out; have := HK2.out; have := HK3.out; have := HK4.out; have := HK5.out; have := HK6.out; have := HK7.out; omega
  have hK7 : K7 ≤ 5000000 := by have := HKM.out; omega
  clear HK1 HK2 HK3 HK4 HK5 HK6 HK7
  have HY0 : Hid (Shows w13 b0 n0 z0) := HX0.out.below HB13.out
  have HY3 : Hid (Shows w13 b3 n3 z3) := HX3.out.below HB13.out
  have HW13 : Hid (Below w'.heap.size w' w13) := HW6.out.trans (HB13.out.mono HW6.out.size)
  obtain ⟨ob, hob⟩ : ∃ ob, ob = [] ++ [123] ++ (enc (z1.take n1)).take LK ++ [58] ++ [91] ++ (enc (z2.take n2)).take LV ++ [93] ++ [125] := ⟨_, rfl⟩
  rw [← hob] at HO13
  have HOB : Hid (ob = 123 :: (enc (z1.take n1) ++ 58 :: 91 :: (enc (z2.take n2) ++ [93, 125]))) := by
    show _ = _
    rw [hob, List.take_of_length_le (show (enc (z1.take n1)).length ≤ LK by rw [HlK.out]; exact Nat.le_refl _), List.take_of_length_le (show (enc (z2.take n2)).length ≤ LV by rw [HlV.out]; exact Nat.le_refl _)]
    simp
  clear hob
  have HTO : Hid (Shows w13 (some ⟨w6.heap.size, 0, none⟩) K7 ob) := HO13.out.shows
  have HlO : Hid (ob.length = K7) := HO13.out.length
  clear HX0 HX3 HTK HTV HW6 HB13 HO13
  -- the whole text
  have hmk := mk0_run (n0 + K7 + 1 + n3) (by omega) w13
  rw [show ((n0 + K7 + 1 + n3 : Nat) : Int) = (n0 : Int) + (K7 : Int) + 1 + (n3 : Int) by omega] at hmk
  go_upto_region 22 with fail
  clear hmk
  have HO : Hid (Own (w13.alloc (.cells (by8 (List.replicate (n0 + K7 + 1 + n3) 0)) 5)) w13.heap.size 0 (n0 + K7 + 1 + n3) []) := Own.made w13 _ (by omega)
  have HB : Hid (Below w13.heap.size w13 (w13.alloc (.cells (by8 (List.replicate (n0 + K7 + 1 + n3) 0)) 5))) := (Below.refl _ _).alloc (Nat.le_refl _) _
  generalize w13.alloc (.cells (by8 (List.replicate (n0 + K7 + 1 + n3) 0)) 5) = W2 at *
  obtain ⟨Rc, hRc⟩ : ∃ M, M = n0 + K7 + 1 + n3 := ⟨_, rfl⟩
  rw [← hRc] at HO
  rw [← hRc]
  have HRc : Hid (Rc = n0 + K7 + 1 + n3) := hRc
  clear hRc
  go_wp2_with fail
  refine (appendBytes' w13 W2 w13.heap.size 0 Rc n0 n0 [] z0 b0 (by have := HRc.out; omega) (Nat.le_refl _) HB.out HY0.out HO.out (by have := HRc.out; omega) H0.out.len).mono ?_
  rintro e w14 ⟨K8, rfl, HK8, HO14, HB14⟩
  clear HO HB
  go_wp2_with fail
  refine (appendBytes' w13 w14 w13.heap.size K8 Rc K7 M _ ob (some ⟨w6.heap.size, 0, none⟩) (by have := HRc.out; omega) (Nat.le_refl _) HB14.out HTO.out HO14.out (by have := HRc.out; have := HK8.out; omega) (by rw [HlO.out]; exact Nat.le_refl _)).mono ?_
  rintro e w15 ⟨K9, rfl, HK9, HO15, HB15⟩
  clear HO14 HB14
  go_upto_region 25 with (at_builtin; refine append1' w15 rfl (.tmp 105) (.tmp 106) rfl w13.heap.size K9 Rc _ 44 rfl rfl HO15.out (by have := HRc.out; have := HK8.out; have := HK9.out; omega) w13 HB15.out (Nat.le_refl _) ?_; intro K10 w16 HK10 HO16 HB16)
  clear HO15 HB15
  go_wp2_with fail
  refine (appendBytes' w13 w16 w13.heap.size K10 Rc n3 n3 _ z3 b3 (by have := HRc.out; omega) (Nat.le_refl _) HB16.out HY3.out HO16.out (by have := HRc.out; have := HK8.out; have := HK9.out; have := HK10.out; omega) H3.out.len).mono ?_
  rintro e w17 ⟨K11, rfl, HK11, HO17, HB17⟩
  clear HO16 HB16
  have HE : Hid (Calls Try.prog 17 #[.slice (some ⟨w13.heap.size, 0, none⟩) K11 Rc, .int .i64 (n0 : Int)] w17 fun e w' => e = .returned (.int .i64 ((n0 : Int) + (K7 : Int))) ∧ w' = w17) := by
    have hl0 : (z0.take n0).length = n0 := by have := H0.out.len; simp; omega
    have hK11 : K11 = n0 + K7 + 1 + n3 := by have := HK8.out; have := HK9.out; have := HK10.out; have := HK11.out; omega
    obtain ⟨R, hR⟩ : ∃ R, R = [] ++ z0.take n0 ++ ob.take K7 ++ [44] ++ z3.take n3 := ⟨_, rfl⟩
    have ho := HO17.out
    rw [← hR] at ho
    have hdrop : R.drop n0 = 123 :: (enc (z1.take n1) ++ 58 :: 91 :: (enc (z2.take n2) ++ 93 :: 125 :: 44 :: z3.take n3)) := by
      rw [hR, List.take_of_length_le (show ob.length ≤ K7 by rw [HlO.out]; exact Nat.le_refl _), List.nil_append, List.append_assoc, List.append_assoc, List.drop_append_of_le_length (by omega), List.drop_of_length_le (by omega), HOB.out]
      simp
    obtain ⟨f0, f1, f2, f3, f4, f5, f6, f7, f8, f9⟩ := obj_facts hdrop
    have hlk := HlK.out
    have hlv := HlV.out
    have hek := enc_length (z1.take n1)
    have hev := enc_length (z2.take n2)
    have hkm := HKM.out
    have := zzValueEnd (valueEnd_obj w13.heap.size 0 K11 Rc n0 (body (z1.take n1)).length (n0 + 1 + (enc (z1.take n1)).length) (body (z2.take n2)).length (n0 + 1 + (enc (z1.take n1)).length + 1 + 1 + (enc (z2.take n2)).length) R w17 (by omega) (by omega) (fun i hi => by rw [Nat.zero_add]; exact ho.cells i hi) f0 f1 f2 (by omega) f3 f4 f5 f6 (by omega) f7 f8 f9)
    rw [show ((n0 + 1 + (enc (z1.take n1)).length + 1 + 1 + (enc (z2.take n2)).length : Nat) : Int) + 1 + 1 = (n0 : Int) + (K7 : Int) by omega] at this
    exact this
  clear HO17 HK8 HK9 HK10 HK11 HlO HTO HY0 HY3 HOB
  go_wp2_with fail
  refine HE.out.mono ?_
  rintro e w18 ⟨rfl, rfl⟩
  go_wp2
  go_ret
  exact ⟨rfl, HW13.out.trans (HB17.out.mono HW13.out.size)⟩

theorem obj_all (a0 a1 a2 a3 : Option Addr) (n0 c0 n1 c1 n2 c2 n3 c3 : Nat) (z0 z1 z2 z3 : List Int) (w : World)
    (h0 : (a0 = none ∧ n0 = 0 ∧ c0 = 0 ∧ z0 = []) ∨ ∃ x, a0 = some x ∧ n0 ≤ c0 ∧ c0 ≤ maxLen ∧ z0.length = c0 ∧ (∀ i, i < z0.length → w.cell? (x.add i) = some (.int .u8 (z0.getD i 0))) ∧ ∀ m ∈ z0, (Lit.int .u8 m).wf = true)
    (h1 : (a1 = none ∧ n1 = 0 ∧ c1 = 0 ∧ z1 = []) ∨ ∃ x, a1 = some x ∧ n1 ≤ c1 ∧ c1 ≤ maxLen ∧ z1.length = c1 ∧ (∀ i, i < z1.length → w.cell? (x.add i) = some (.int .u8 (z1.getD i 0))) ∧ ∀ m ∈ z1, (Lit.int .u8 m).wf = true)
    (h2 : (a2 = none ∧ n2 = 0 ∧ c2 = 0 ∧ z2 = []) ∨ ∃ x, a2 = some x ∧ n2 ≤ c2 ∧ c2 ≤ maxLen ∧ z2.length = c2 ∧ (∀ i, i < z2.length → w.cell? (x.add i) = some (.int .u8 (z2.getD i 0))) ∧ ∀ m ∈ z2, (Lit.int .u8 m).wf = true)
    (h3 : (a3 = none ∧ n3 = 0 ∧ c3 = 0 ∧ z3 = []) ∨ ∃ x, a3 = some x ∧ n3 ≤ c3 ∧ c3 ≤ maxLen ∧ z3.length = c3 ∧ (∀ i, i < z3.length → w.cell? (x.add i) = some (.int .u8 (z3.getD i 0))) ∧ ∀ m ∈ z3, (Lit.int .u8 m).wf = true) :
    Calls Try.prog 6 #[.slice a0 n0 c0, .slice a1 n1 c1, .slice a2 n2 c2, .slice a3 n3 c3] w fun e w' => e = .returned (.bool true) ∧ Below w.heap.size w w' := by
  by_cases h : n0 + n1 + n2 + n3 ≤ 1048576
  · exact obj_in a0 a1 a2 a3 n0 c0 n1 c1 n2 c2 n3 c3 z0 z1 z2 z3 w h (rowIn_of h0) (rowIn_of h1) (rowIn_of h2) (rowIn_of h3)
  · exact obj_out a0 a1 a2 a3 n0 c0 n1 c1 n2 c2 n3 c3 w h
end Go.Proofs.Qxb6602752a.Obj
