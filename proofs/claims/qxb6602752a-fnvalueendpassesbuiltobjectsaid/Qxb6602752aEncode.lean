import Derived.Test.Qxb6602752aAppend
import Derived.Deep.DeepCutAuto
namespace Go.Proofs.Qxb6602752a.App
open Go.RowKit By8 Quotes
set_option linter.unusedSimpArgs false

theorem body_take_succ {zs : List Int} {k : Nat} (h : k < zs.length) : body (zs.take (k + 1)) = body (zs.take k) ++ (if zs.getD k 0 = 34 ∨ zs.getD k 0 = 92 then [92, zs.getD k 0] else [zs.getD k 0]) := by
  rw [List.take_succ_eq_append_getElem h, body_append, body_one]
  simp [h]
theorem body_take_esc {zs : List Int} {k : Nat} {z : Int} (h : k < zs.length) (hz : z = zs.getD k 0) (he : z = 34 ∨ z = 92) : body (zs.take (k + 1)) = body (zs.take k) ++ [92, z] := by
  rw [body_take_succ h, ← hz, if_pos he]
theorem body_take_plain {zs : List Int} {k : Nat} {z : Int} (h : k < zs.length) (hz : z = zs.getD k 0) (he : ¬ (z = 34 ∨ z = 92)) : body (zs.take (k + 1)) = body (zs.take k) ++ [z] := by
  rw [body_take_succ h, ← hz, if_neg he]
theorem body_take_mono (zs : List Int) {k n : Nat} (h : k ≤ n) : (body (zs.take k)).length ≤ (body (zs.take n)).length := by
  have e : zs.take n = zs.take k ++ (zs.take n).drop k := by
    conv => lhs; rw [← List.take_append_drop k (zs.take n)]
    rw [List.take_take, Nat.min_eq_left h]
  rw [e, body_append, List.length_append]
  omega

set_option maxHeartbeats 1000000 in
/-- docB1EncodeString -/
theorem encode_any (a : Option Addr) (n c : Nat) (zs : List Int) (w : World) (hn : n ≤ 1048576) (hs : Shows w a n zs) (hy : n ≤ zs.length) :
    Calls Try.prog 14 #[.slice a n c] w fun e w' => ∃ L, e = .returned (.slice (some ⟨w.heap.size, 0, none⟩) L L) ∧ Own w' w.heap.size L L (enc (zs.take n)) ∧ Below w.heap.size w w' := by
  have HS : Hid (Shows w a n zs) := hs
  clear hs
  go_enter Try.func14, Try.ntmps14
  go_wp2
  go_loop [3, 4] (fun t i => ∃ k N : Nat, k ≤ n ∧ i = .int .i64 k ∧ t = .int .i64 N ∧ N ≤ 2 + 2 * k ∧ Hid (N = 2 + (body (zs.take k)).length)) (fun _ i => n - (intOf i).toNat)
  case atStart => exact ⟨0, 2, by omega, rfl, rfl, by omega, (rfl : 2 = 2 + (body (zs.take 0)).length)⟩
  case round =>
    obtain ⟨k, N, hk, rfl, rfl, hN, HN⟩ := hrel
    by_cases hlt : k < n
    · obtain ⟨b, off, rfl, hcs⟩ := HS.out (by omega)
      have hck := hcs k hlt
      clear hcs
      obtain ⟨z, hz⟩ : ∃ z, z = zs.getD k 0 := ⟨_, rfl⟩
      rw [← hz] at hck
      by_cases h34 : z = 34
      · have hb : (z == 34) = true := beq_iff_eq.2 h34
        have HN1 : Hid (N + 2 = 2 + (body (zs.take (k + 1))).length) := by
          show _ = _
          rw [body_take_esc (by omega) hz (.inl h34), List.length_append, HN.out]; simp; omega
        clear h34 hz
        go_wp2
        go_round
        case rel => exact ⟨k + 1, N + 2, by omega, by go_num, by go_num, by omega, HN1⟩
        case measure => simp [intOf]; omega
      · have hb : (z == 34) = false := beq_eq_false_iff_ne.2 h34
        by_cases h92 : z = 92
        · have hb2 : (z == 92) = true := beq_iff_eq.2 h92
          have HN1 : Hid (N + 2 = 2 + (body (zs.take (k + 1))).length) := by
            show _ = _
            rw [body_take_esc (by omega) hz (.inr h92), List.length_append, HN.out]; simp; omega
          clear h34 h92 hz
          go_wp2
          go_round
          case rel => exact ⟨k + 1, N + 2, by omega, by go_num, by go_num, by omega, HN1⟩
          case measure => simp [intOf]; omega
        · have hb2 : (z == 92) = false := beq_eq_false_iff_ne.2 h92
          have HN1 : Hid (N + 1 = 2 + (body (zs.take (k + 1))).length) := by
            show _ = _
            rw [body_take_plain (by omega) hz (fun h => h.elim h34 h92), List.length_append, HN.out]; simp; omega
          clear h34 h92 hz
          go_wp2
          go_round
          case rel => exact ⟨k + 1, N + 1, by omega, by go_num, by go_num, by omega, HN1⟩
          case measure => simp [intOf]; omega
    · obtain rfl : k = n := by omega
      have hmk := mk0_run N (by omega) w
      have HN2 : Hid (2 ≤ N) := by
        show _ ≤ _
        rw [HN.out]; omega
      have hN2 := HN2.out
      go_upto_region 9 with fail
      clear hmk
      have HO : Hid (Own (w.alloc (.cells (by8 (List.replicate N 0)) 5)) w.heap.size 0 N []) := Own.made w N (by omega)
      have HB : Hid (Below w.heap.size w (w.alloc (.cells (by8 (List.replicate N 0)) 5))) := (Below.refl _ _).alloc (Nat.le_refl _) _
      generalize w.alloc (.cells (by8 (List.replicate N 0)) 5) = W at *
      go_wp2_with (at_builtin; refine append1 W rfl (.tmp 32) (.tmp 33) rfl w.heap.size 0 N [] 34 rfl rfl HO.out (by omega) w HB.out (Nat.le_refl _) ?_; intro w1 ho1 hb1; have HO1 : Hid (Own w1 w.heap.size 1 N [34]) := ho1; have HB1 : Hid (Below w.heap.size w w1) := hb1; clear ho1 hb1)
      clear HO HB hlt hk hN2
      go_loopw [5, 6] (fun out i wr => ∃ j K : Nat, j ≤ k ∧ i = .int .i64 j ∧ out = .slice (some ⟨w.heap.size, 0, none⟩) K N ∧ Hid (Own wr w.heap.size K N (34 :: body (zs.take j))) ∧ Hid (Below w.heap.size w wr)) (fun _ i _ => k - (intOf i).toNat)
      case atStart => exact ⟨0, 1, by omega, rfl, rfl, HO1, HB1⟩
      case round =>
        clear HO1 HB1
        obtain ⟨j, K, hj, rfl, rfl, HOr, HBr⟩ := hrel
        have hKl : K = 1 + (body (zs.take j)).length := by have := HOr.out.length; simp at this; omega
        by_cases hlt : j < k
        · obtain ⟨b, off, rfl, hcs⟩ := HS.out (by omega)
          have hcj : wr.cell? ⟨b, off + j, none⟩ = some (.int .u8 (zs.getD j 0)) := by
            rw [HBr.out.cell (lt_of_cell (hcs j hlt))]; exact hcs j hlt
          clear hcs
          obtain ⟨z, hz⟩ : ∃ z, z = zs.getD j 0 := ⟨_, rfl⟩
          rw [← hz] at hcj
          have hmono := body_take_mono zs (show j + 1 ≤ k from hlt)
          by_cases hesc : z = 34 ∨ z = 92
          · have hbody := body_take_esc (show j < zs.length by omega) hz hesc
            have hfit : K + 2 ≤ N := by
              have h1 := congrArg List.length hbody
              rw [List.length_append] at h1
              have h2 := HN.out
              simp at h1
              omega
            have HE : Hid (34 :: body (zs.take j) ++ [92] ++ [z] = 34 :: body (zs.take (j + 1))) := by
              show _ = _
              rw [hbody]; simp
            clear hz hbody hmono hKl
            by_cases h34 : z = 34
            · have hb : (z == 34) = true := beq_iff_eq.2 h34
              clear hesc h34
              go_upto_region 16 with (at_builtin; refine append1 wr rfl (.tmp 51) (.tmp 52) rfl w.heap.size K N (34 :: body (zs.take j)) 92 rfl rfl HOr.out (by omega) w HBr.out (Nat.le_refl _) ?_; intro w2 ho2 hb2; have HO2 : Hid (Own w2 w.heap.size (K + 1) N (34 :: body (zs.take j) ++ [92])) := ho2; have HB2 : Hid (Below w.heap.size w w2) := hb2; clear ho2 hb2)
              go_wp2_with (at_builtin; refine append1 w2 rfl (.tmp 54) (.tmp 56) rfl w.heap.size (K + 1) N (34 :: body (zs.take j) ++ [92]) z rfl rfl HO2.out (by omega) w HB2.out (Nat.le_refl _) ?_; intro w3 ho3 hb3; have HO3 : Hid (Own w3 w.heap.size (K + 1 + 1) N (34 :: body (zs.take j) ++ [92] ++ [z])) := ho3; have HB3 : Hid (Below w.heap.size w w3) := hb3; clear ho3 hb3)
              have HO4 : Hid (Own w3 w.heap.size (K + 1 + 1) N (34 :: body (zs.take (j + 1)))) := by
                have h := HO3.out
                rw [HE.out] at h
                exact h
              go_roundw
              case rel => exact ⟨j + 1, K + 1 + 1, by omega, by go_num, rfl, HO4, HB3⟩
              case measure => simp [intOf]; omega
            · have hb : (z == 34) = false := beq_eq_false_iff_ne.2 h34
              have hb2 : (z == 92) = true := beq_iff_eq.2 (hesc.resolve_left h34)
              clear hesc h34
              go_upto_region 16 with (at_builtin; refine append1 wr rfl (.tmp 51) (.tmp 52) rfl w.heap.size K N (34 :: body (zs.take j)) 92 rfl rfl HOr.out (by omega) w HBr.out (Nat.le_refl _) ?_; intro w2 ho2 hb2; have HO2 : Hid (Own w2 w.heap.size (K + 1) N (34 :: body (zs.take j) ++ [92])) := ho2; have HB2 : Hid (Below w.heap.size w w2) := hb2; clear ho2 hb2)
              go_wp2_with (at_builtin; refine append1 w2 rfl (.tmp 54) (.tmp 56) rfl w.heap.size (K + 1) N (34 :: body (zs.take j) ++ [92]) z rfl rfl HO2.out (by omega) w HB2.out (Nat.le_refl _) ?_; intro w3 ho3 hb3; have HO3 : Hid (Own w3 w.heap.size (K + 1 + 1) N (34 :: body (zs.take j) ++ [92] ++ [z])) := ho3; have HB3 : Hid (Below w.heap.size w w3) := hb3; clear ho3 hb3)
              have HO4 : Hid (Own w3 w.heap.size (K + 1 + 1) N (34 :: body (zs.take (j + 1)))) := by
                have h := HO3.out
                rw [HE.out] at h
                exact h
              go_roundw
              case rel => exact ⟨j + 1, K + 1 + 1, by omega, by go_num, rfl, HO4, HB3⟩
              case measure => simp [intOf]; omega
          · have hbody := body_take_plain (show j < zs.length by omega) hz hesc
            have hfit : K + 1 ≤ N := by
              have h1 := congrArg List.length hbody
              rw [List.length_append] at h1
              have h2 := HN.out
              simp at h1
              omega
            have HE : Hid (34 :: body (zs.take j) ++ [z] = 34 :: body (zs.take (j + 1))) := by
              show _ = _
              rw [hbody]; simp
            have hb : (z == 34) = false := beq_eq_false_iff_ne.2 (fun h => hesc (.inl h))
            have hb2 : (z == 92) = false := beq_eq_false_iff_ne.2 (fun h => hesc (.inr h))
            clear hz hbody hmono hKl hesc
            go_wp2_with (at_builtin; refine append1 wr rfl (.tmp 54) (.tmp 56) rfl w.heap.size K N (34 :: body (zs.take j)) z rfl rfl HOr.out (by omega) w HBr.out (Nat.le_refl _) ?_; intro w3 ho3 hb3; have HO3 : Hid (Own w3 w.heap.size (K + 1) N (34 :: body (zs.take j) ++ [z])) := ho3; have HB3 : Hid (Below w.heap.size w w3) := hb3; clear ho3 hb3)
            have HO4 : Hid (Own w3 w.heap.size (K + 1) N (34 :: body (zs.take (j + 1)))) := by
              have h := HO3.out
              rw [HE.out] at h
              exact h
            go_roundw
            case rel => exact ⟨j + 1, K + 1, by omega, by go_num, rfl, HO4, HB3⟩
            case measure => simp [intOf]; omega
        · obtain rfl : j = k := by omega
          have hKN : K + 1 = N := by have := HN.out; omega
          clear hKl
          have hfit : K + 1 ≤ N := by omega
          have HKN : Hid (K + 1 = N) := hKN
          clear hKN
          go_wp2_with (at_builtin; refine append1 wr rfl (.tmp 58) (.tmp 59) rfl w.heap.size K N (34 :: body (zs.take j)) 34 rfl rfl HOr.out (by omega) w HBr.out (Nat.le_refl _) ?_; intro w3 ho3 hb3; have HO3 : Hid (Own w3 w.heap.size (K + 1) N (34 :: body (zs.take j) ++ [34])) := ho3; have HB3 : Hid (Below w.heap.size w w3) := hb3; clear ho3 hb3)
          go_ret
          refine ⟨N, ?_, ?_, HB3.out⟩
          · rw [← HKN.out]; rfl
          · have h := HO3.out
            rw [HKN.out] at h
            exact h
end Go.Proofs.Qxb6602752a.App
