import Derived.Test.Qxb6600851aGrammar
import Derived.WalkKit
import Derived.WalkSpells
import Derived.ProofKit
import Derived.Deep.DeepCutAuto
import Derived.Outline
namespace Go.Proofs.Qxb6600851a.Grammar
open Go.RowKit NumPart
set_option linter.unusedSimpArgs false

theorem ret_bool {a b : Bool} (h : b = a) : Ending.returned (.bool a) = .returned (.bool b) := by rw [h]

/-- An exponent's letter; its sign. Under names that the walk does not open. -/
def expB (z : Int) : Bool := decide (z = 101 ∨ z = 69)
def sgnB (z : Int) : Bool := decide (z = 43 ∨ z = 45)
theorem beq_self_int (a : Int) : (a == a) = true := by simp

theorem isNum_empty (a : Option Addr) (cap : Nat) (zs : List Int) (w : World) :
    Calls Try.prog 16 #[.slice a 0 cap] w fun e w' => e = .returned (.bool (isNum zs 0)) ∧ w' = w := by
  go_enter Try.func16, Try.ntmps16
  go_wp2
  go_ret
  exact ⟨rfl, rfl⟩

set_option maxHeartbeats 1000000 in
set_option maxRecDepth 100000 in
theorem isNum_some (b off n cap : Nat) (zs : List Int) (w : World) (hn : n ≤ 1000000000) (hn0 : 0 < n)
    (hc : ∀ i, i < n → w.cell? ⟨b, off + i, none⟩ = some (.int .u8 (zs.getD i 0))) :
    Calls Try.prog 16 #[.slice (some ⟨b, off, none⟩) n cap] w fun e w' => e = .returned (.bool (isNum zs n)) ∧ w' = w := by
  have HC : Hid (∀ i, i < n → w.cell? ⟨b, off + i, none⟩ = some (.int .u8 (zs.getD i 0))) := hc
  clear hc
  have hc0 := HC.out 0 hn0
  rw [Nat.add_zero] at hc0
  obtain ⟨z0, hz0⟩ : ∃ z, z = zs.getD 0 0 := ⟨_, rfl⟩
  rw [← hz0] at hc0
  have HZ0 : Hid (z0 = zs.getD 0 0) := hz0
  clear hz0
  go_enter Try.func16, Try.ntmps16
  go_upto_if 16 with fail
  go_cut [4] from 5 to 18 (fun i wx => w = wx ∧ ∃ k : Nat, i = .int .i64 k ∧ k ≤ n ∧ Hid (A zs k = some 0) ∧ Hid (¬ (zs.getD k 0 = 45 ∧ (k : Int) = 0)))
  case first =>
    by_cases h45 : z0 = 45
    · have hb : (z0 == 45) = true := beq_iff_eq.2 h45
      have HA : Hid (A zs 1 = some 0) := A_yes (k := 0) (q := 0) rfl (by rw [← HZ0.out, h45]; rfl)
      clear h45
      go_wp2
      go_meet
      exact ⟨rfl, 1, rfl, by omega, HA, fun h => absurd h.2 (by omega)⟩
    · have hb : (z0 == 45) = false := beq_eq_false_iff_ne.2 h45
      have HN : Hid (¬ (zs.getD 0 0 = 45 ∧ ((0 : Nat) : Int) = 0)) := fun h => h45 (HZ0.out.trans h.1)
      clear h45
      go_wp2
      go_meet
      exact ⟨rfl, 0, rfl, by omega, (rfl : A zs 0 = some 0), HN⟩
  case rest =>
    obtain ⟨rfl, k, rfl, hk, HA, HM⟩ := hcut
    clear hc0 HZ0 z0
    by_cases hkn : k < n
    · have hck := HC.out k hkn
      obtain ⟨z, hz⟩ : ∃ z, z = zs.getD k 0 := ⟨_, rfl⟩
      rw [← hz] at hck
      have HZ : Hid (z = zs.getD k 0) := hz
      clear hz
      go_upto_if 26 with fail
      go_cut [4] from 5 to 52 (fun i wx => w = wx ∧ ∃ k : Nat, ∃ q : Int, i = .int .i64 k ∧ k ≤ n ∧ Hid (A zs k = some q) ∧ Hid (q = 1 ∨ q = 2) ∧ Hid (q = 2 → k < n → ¬ (48 ≤ zs.getD k 0 ∧ zs.getD k 0 ≤ 57)))
      case first =>
        by_cases h48 : z = 48
        · have hb : (z == 48) = true := beq_iff_eq.2 h48
          have HA1 : Hid (A zs (k + 1) = some 1) := A_yes HA.out (by rw [← HZ.out, h48]; exact yes0z)
          clear h48
          go_wp2
          go_meet
          exact ⟨rfl, k + 1, 1, by go_num, by omega, HA1, .inl rfl, fun h => absurd h (by decide)⟩
        · have hb : (z == 48) = false := beq_eq_false_iff_ne.2 h48
          by_cases hd : 49 ≤ z ∧ z ≤ 57
          · obtain ⟨hd1, hd2⟩ := hd
            have HA1 : Hid (A zs (k + 1) = some 2) := A_yes HA.out (by rw [← HZ.out]; exact yes0d hd1 hd2)
            clear h48
            go_wp2
            clear hb
            go_loop [4] (fun i => ∃ j : Nat, i = .int .i64 j ∧ k ≤ j ∧ j ≤ n ∧ Hid (j = k ∨ A zs j = some 2)) (fun i => n - (intOf i).toNat)
            case atStart => exact ⟨k, rfl, Nat.le_refl _, by omega, .inl rfl⟩
            case round =>
              obtain ⟨j, rfl, hkj, hjn, HJ⟩ := hrel
              by_cases hjl : j < n
              · have hcj := HC.out j hjl
                obtain ⟨y, hy⟩ : ∃ y, y = zs.getD j 0 := ⟨_, rfl⟩
                rw [← hy] at hcj
                have HY : Hid (y = zs.getD j 0) := hy
                clear hy
                by_cases hyd : 48 ≤ y ∧ y ≤ 57
                · obtain ⟨hy1, hy2⟩ := hyd
                  have HN : Hid (A zs (j + 1) = some 2) := by
                    rcases HJ.out with rfl | h
                    · exact HA1.out
                    · exact A_yes h (by rw [← HY.out]; exact yes2 hy1 hy2)
                  go_wp2
                  go_round
                  case rel => exact ⟨j + 1, by go_num, by omega, by omega, .inr HN.out⟩
                  case measure => simp [intOf]; omega
                · have HN : Hid (A zs j = some 2) := by
                    rcases HJ.out with rfl | h
                    · exfalso; apply hyd; rw [HY.out, ← HZ.out]; omega
                    · exact h
                  have HD : Hid (¬ (48 ≤ zs.getD j 0 ∧ zs.getD j 0 ≤ 57)) := by rw [← HY.out]; exact hyd
                  by_cases hy1 : 48 ≤ y
                  · have hy2 : ¬ y ≤ 57 := fun h => hyd ⟨hy1, h⟩
                    clear hyd
                    go_wp2
                    go_meet
                    exact ⟨rfl, j, 2, rfl, hjn, HN, .inr rfl, fun _ _ => HD.out⟩
                  · clear hyd
                    go_wp2
                    go_meet
                    exact ⟨rfl, j, 2, rfl, hjn, HN, .inr rfl, fun _ _ => HD.out⟩
              · have HN : Hid (A zs j = some 2) := by
                  rcases HJ.out with rfl | h
                  · exact absurd hkn hjl
                  · exact h
                go_wp2
                go_meet
                exact ⟨rfl, j, 2, rfl, hjn, HN, .inr rfl, fun _ h => absurd h hjl⟩
          · have HI : Hid (isNum zs n = false) := stop HA.out hkn (by rw [← HZ.out]; exact no0 (by rw [HZ.out]; exact HM.out) (by omega))
            by_cases hd1 : 49 ≤ z
            · have hd2 : ¬ z ≤ 57 := fun h => hd ⟨hd1, h⟩
              clear hd h48
              go_wp2
              go_ret
              exact ⟨ret_bool HI.out, rfl⟩
            · clear hd h48
              go_wp2
              go_ret
              exact ⟨ret_bool HI.out, rfl⟩
      case rest =>
        clear hck HZ z HM HA hkn hk
        obtain ⟨rfl, k1, q, rfl, hk, HA, HQ, HD⟩ := hcut
        by_cases hkn : k1 < n
        · have hck := HC.out k1 hkn
          obtain ⟨z, hz⟩ : ∃ z, z = zs.getD k1 0 := ⟨_, rfl⟩
          rw [← hz] at hck
          have HZ : Hid (z = zs.getD k1 0) := hz
          clear hz
          go_upto_if 62 with fail
          go_cut [4] from 5 to 87 (fun i wx => w = wx ∧ ∃ k : Nat, ∃ q : Int, i = .int .i64 k ∧ k ≤ n ∧ Hid (A zs k = some q) ∧ Hid (q = 1 ∨ q = 2 ∨ q = 4) ∧ Hid (q ≠ 1 → k < n → ¬ (48 ≤ zs.getD k 0 ∧ zs.getD k 0 ≤ 57)) ∧ Hid (q ≠ 4 → k < n → zs.getD k 0 ≠ 46))
          case first =>
            by_cases h46 : z = 46
            · have hb : (z == 46) = true := beq_iff_eq.2 h46
              have HA1 : Hid (A zs (k1 + 1) = some 3) := A_yes HA.out (by rw [← HZ.out, h46]; exact yesp HQ.out)
              clear h46
              by_cases hkn2 : k1 + 1 < n
              · have hck2 := HC.out (k1 + 1) hkn2
                obtain ⟨x, hx⟩ : ∃ x, x = zs.getD (k1 + 1) 0 := ⟨_, rfl⟩
                rw [← hx] at hck2
                have HX : Hid (x = zs.getD (k1 + 1) 0) := hx
                clear hx
                by_cases hxd : 48 ≤ x ∧ x ≤ 57
                · obtain ⟨hx1, hx2⟩ := hxd
                  have HA2 : Hid (A zs (k1 + 1 + 1) = some 4) := A_yes HA1.out (by rw [← HX.out]; exact yes3 hx1 hx2)
                  go_wp2
                  clear hb
                  go_loop [4] (fun i => ∃ j : Nat, i = .int .i64 j ∧ k1 + 1 ≤ j ∧ j ≤ n ∧ Hid (j = k1 + 1 ∨ A zs j = some 4)) (fun i => n - (intOf i).toNat)
                  case atStart => exact ⟨k1 + 1, by go_num, Nat.le_refl _, by omega, .inl rfl⟩
                  case round =>
                    obtain ⟨j, rfl, hkj, hjn, HJ⟩ := hrel
                    by_cases hjl : j < n
                    · have hcj := HC.out j hjl
                      obtain ⟨y, hy⟩ : ∃ y, y = zs.getD j 0 := ⟨_, rfl⟩
                      rw [← hy] at hcj
                      have HY : Hid (y = zs.getD j 0) := hy
                      clear hy
                      by_cases hyd : 48 ≤ y ∧ y ≤ 57
                      · obtain ⟨hy1, hy2⟩ := hyd
                        have HN : Hid (A zs (j + 1) = some 4) := by
                          rcases HJ.out with rfl | h
                          · exact HA2.out
                          · exact A_yes h (by rw [← HY.out]; exact yes4 hy1 hy2)
                        go_wp2
                        go_round
                        case rel => exact ⟨j + 1, by go_num, by omega, by omega, .inr HN.out⟩
                        case measure => simp [intOf]; omega
                      · have HN : Hid (A zs j = some 4) := by
                          rcases HJ.out with rfl | h
                          · exfalso; apply hyd; rw [HY.out, ← HX.out]; omega
                          · exact h
                        have HE : Hid (¬ (48 ≤ zs.getD j 0 ∧ zs.getD j 0 ≤ 57)) := by rw [← HY.out]; exact hyd
                        by_cases hy1 : 48 ≤ y
                        · have hy2 : ¬ y ≤ 57 := fun h => hyd ⟨hy1, h⟩
                          clear hyd
                          go_wp2
                          go_meet
                          exact ⟨rfl, j, 4, rfl, hjn, HN, .inr (.inr rfl), fun _ _ => HE.out, fun h => absurd rfl h⟩
                        · clear hyd
                          go_wp2
                          go_meet
                          exact ⟨rfl, j, 4, rfl, hjn, HN, .inr (.inr rfl), fun _ _ => HE.out, fun h => absurd rfl h⟩
                    · have HN : Hid (A zs j = some 4) := by
                        rcases HJ.out with rfl | h
                        · exact absurd hkn2 hjl
                        · exact h
                      go_wp2
                      go_meet
                      exact ⟨rfl, j, 4, rfl, hjn, HN, .inr (.inr rfl), fun _ h => absurd h hjl, fun h => absurd rfl h⟩
                · have HI : Hid (isNum zs n = false) := stop HA1.out hkn2 (by rw [← HX.out]; exact no3 hxd)
                  by_cases hx1 : 48 ≤ x
                  · have hx2 : ¬ x ≤ 57 := fun h => hxd ⟨hx1, h⟩
                    clear hxd
                    go_wp2
                    go_ret
                    exact ⟨ret_bool HI.out, rfl⟩
                  · clear hxd
                    go_wp2
                    go_ret
                    exact ⟨ret_bool HI.out, rfl⟩
              · have HI : Hid (isNum zs n = false) := by
                  have e : n = k1 + 1 := by omega
                  rw [e]; exact isNum_at HA1.out
                go_wp2
                go_ret
                exact ⟨ret_bool HI.out, rfl⟩
            · have hb : (z == 46) = false := beq_eq_false_iff_ne.2 h46
              have H46 : Hid (zs.getD k1 0 ≠ 46) := by rw [← HZ.out]; exact h46
              clear h46
              go_wp2
              go_meet
              refine ⟨rfl, k1, q, rfl, hk, HA, ?_, ?_, fun _ _ => H46.out⟩
              · rcases HQ.out with h | h
                · exact .inl h
                · exact .inr (.inl h)
              · rcases HQ.out with h | h
                · exact fun h' => absurd h h'
                · exact fun _ => HD.out h
          case rest =>
            clear hck HZ z HA hkn hk HQ HD
            obtain ⟨rfl, k2, q2, rfl, hk, HA, HQ, HD, HP⟩ := hcut
            by_cases hkn : k2 < n
            · have hck := HC.out k2 hkn
              obtain ⟨z, hz⟩ : ∃ z, z = zs.getD k2 0 := ⟨_, rfl⟩
              rw [← hz] at hck
              have HZ : Hid (z = zs.getD k2 0) := hz
              clear hz
              go_upto_region 19 with fail
              go_cut [104] from 5 to 104 (fun c wx => w = wx ∧ ∃ bb : Bool, c = .bool bb ∧ Hid (bb = expB z))
              case first =>
                by_cases h101 : z = 101
                · have hb : (z == 101) = true := beq_iff_eq.2 h101
                  have HB : Hid (true = expB z) := (decide_eq_true (.inl h101)).symm
                  clear h101
                  go_wp2
                  go_meet
                  exact ⟨rfl, _, rfl, HB⟩
                · have hb : (z == 101) = false := beq_eq_false_iff_ne.2 h101
                  by_cases h69 : z = 69
                  · have hb2 : (z == 69) = true := beq_iff_eq.2 h69
                    have HB : Hid (true = expB z) := (decide_eq_true (.inr h69)).symm
                    clear h101 h69
                    go_wp2
                    go_meet
                    exact ⟨rfl, _, rfl, HB⟩
                  · have hb2 : (z == 69) = false := beq_eq_false_iff_ne.2 h69
                    have HB : Hid (false = expB z) := (decide_eq_false (fun h => h.elim h101 h69)).symm
                    clear h101 h69
                    go_wp2
                    go_meet
                    exact ⟨rfl, _, rfl, HB⟩
              case rest =>
                obtain ⟨rfl, bb, rfl, HB⟩ := hcut
                by_cases hE : z = 101 ∨ z = 69
                · obtain rfl : bb = true := HB.out.trans (decide_eq_true hE)
                  have HA1 : Hid (A zs (k2 + 1) = some 5) := A_yes HA.out (by rw [← HZ.out]; exact yese HQ.out hE)
                  clear hE
                  by_cases hkn2 : k2 + 1 < n
                  · have hck2 := HC.out (k2 + 1) hkn2
                    obtain ⟨x, hx⟩ : ∃ x, x = zs.getD (k2 + 1) 0 := ⟨_, rfl⟩
                    rw [← hx] at hck2
                    have HX : Hid (x = zs.getD (k2 + 1) 0) := hx
                    clear hx
                    go_upto_region 21 with fail
                    go_cut [123] from 5 to 123 (fun c wx => w = wx ∧ ∃ bb : Bool, c = .bool bb ∧ Hid (bb = sgnB x))
                    case first =>
                      by_cases h43 : x = 43
                      · have hb : (x == 43) = true := beq_iff_eq.2 h43
                        have HB : Hid (true = sgnB x) := (decide_eq_true (.inl h43)).symm
                        clear h43
                        go_wp2
                        go_meet
                        exact ⟨rfl, _, rfl, HB⟩
                      · have hb : (x == 43) = false := beq_eq_false_iff_ne.2 h43
                        by_cases h45 : x = 45
                        · have hb2 : (x == 45) = true := beq_iff_eq.2 h45
                          have HB : Hid (true = sgnB x) := (decide_eq_true (.inr h45)).symm
                          clear h43 h45
                          go_wp2
                          go_meet
                          exact ⟨rfl, _, rfl, HB⟩
                        · have hb2 : (x == 45) = false := beq_eq_false_iff_ne.2 h45
                          have HB : Hid (false = sgnB x) := (decide_eq_false (fun h => h.elim h43 h45)).symm
                          clear h43 h45
                          go_wp2
                          go_meet
                          exact ⟨rfl, _, rfl, HB⟩
                    case rest =>
                      obtain ⟨rfl, bb, rfl, HB⟩ := hcut
                      go_upto_if 123 with fail
                      go_cut [4] from 5 to 125 (fun i wx => w = wx ∧ ∃ k : Nat, ∃ q : Int, i = .int .i64 k ∧ k ≤ n ∧ Hid (A zs k = some q) ∧ Hid (q = 5 ∨ q = 6) ∧ Hid (q = 5 → k < n → zs.getD k 0 ≠ 43 ∧ zs.getD k 0 ≠ 45))
                      case first =>
                        by_cases hS : x = 43 ∨ x = 45
                        · obtain rfl : bb = true := HB.out.trans (decide_eq_true hS)
                          have HA2 : Hid (A zs (k2 + 1 + 1) = some 6) := A_yes HA1.out (by rw [← HX.out]; exact yess hS)
                          clear hS
                          go_wp2
                          go_meet
                          exact ⟨rfl, k2 + 1 + 1, 6, by go_num, by omega, HA2, .inr rfl, fun h => absurd h (by decide)⟩
                        · obtain rfl : bb = false := HB.out.trans (decide_eq_false hS)
                          have HS : Hid (zs.getD (k2 + 1) 0 ≠ 43 ∧ zs.getD (k2 + 1) 0 ≠ 45) := by
                            rw [← HX.out]
                            exact ⟨fun h => hS (.inl h), fun h => hS (.inr h)⟩
                          clear hS
                          go_wp2
                          go_meet
                          exact ⟨rfl, k2 + 1, 5, by go_num, by omega, HA1, .inl rfl, fun _ _ => HS.out⟩
                      case rest =>
                        clear HB hck2 HX hkn2 HA1 hck HZ HA HQ HD HP hkn hk
                        obtain ⟨rfl, k3, q3, rfl, hk, HA, HQ, HD⟩ := hcut
                        by_cases hkn : k3 < n
                        · have hck := HC.out k3 hkn
                          obtain ⟨z, hz⟩ : ∃ z, z = zs.getD k3 0 := ⟨_, rfl⟩
                          rw [← hz] at hck
                          have HZ : Hid (z = zs.getD k3 0) := hz
                          clear hz
                          by_cases hzd : 48 ≤ z ∧ z ≤ 57
                          · obtain ⟨hz1, hz2⟩ := hzd
                            have HA2 : Hid (A zs (k3 + 1) = some 7) := by
                              rcases HQ.out with rfl | rfl
                              · exact A_yes HA.out (by rw [← HZ.out]; exact yes5 hz1 hz2)
                              · exact A_yes HA.out (by rw [← HZ.out]; exact yes6 hz1 hz2)
                            go_wp2
                            go_loop [4] (fun i => ∃ j : Nat, i = .int .i64 j ∧ k3 ≤ j ∧ j ≤ n ∧ Hid (j = k3 ∨ A zs j = some 7)) (fun i => n - (intOf i).toNat)
                            case atStart => exact ⟨k3, rfl, Nat.le_refl _, by omega, .inl rfl⟩
                            case round =>
                              obtain ⟨j, rfl, hkj, hjn, HJ⟩ := hrel
                              by_cases hjl : j < n
                              · have hcj := HC.out j hjl
                                obtain ⟨y, hy⟩ : ∃ y, y = zs.getD j 0 := ⟨_, rfl⟩
                                rw [← hy] at hcj
                                have HY : Hid (y = zs.getD j 0) := hy
                                clear hy
                                by_cases hyd : 48 ≤ y ∧ y ≤ 57
                                · obtain ⟨hy1, hy2⟩ := hyd
                                  have HN : Hid (A zs (j + 1) = some 7) := by
                                    rcases HJ.out with rfl | h
                                    · exact HA2.out
                                    · exact A_yes h (by rw [← HY.out]; exact yes7 hy1 hy2)
                                  go_wp2
                                  go_round
                                  case rel => exact ⟨j + 1, by go_num, by omega, by omega, .inr HN.out⟩
                                  case measure => simp [intOf]; omega
                                · have HN : Hid (A zs j = some 7) := by
                                    rcases HJ.out with rfl | h
                                    · exfalso; apply hyd; rw [HY.out, ← HZ.out]; omega
                                    · exact h
                                  have HI : Hid (isNum zs n = false) := stop HN.out hjl (by rw [← HY.out]; exact no7 hyd)
                                  have hjne : ((j : Int) == (n : Int)) = false := beq_eq_false_iff_ne.2 (by omega)
                                  by_cases hy1 : 48 ≤ y
                                  · have hy2 : ¬ y ≤ 57 := fun h => hyd ⟨hy1, h⟩
                                    clear hyd
                                    go_wp2
                                    go_ret
                                    exact ⟨ret_bool HI.out, rfl⟩
                                  · clear hyd
                                    go_wp2
                                    go_ret
                                    exact ⟨ret_bool HI.out, rfl⟩
                              · have hjeq : j = n := by omega
                                have HI : Hid (isNum zs n = true) := by
                                  rcases HJ.out with rfl | h
                                  · exact absurd hkn hjl
                                  · rw [← hjeq]; exact isNum_at h
                                have hjne : ((j : Int) == (n : Int)) = true := beq_iff_eq.2 (by omega)
                                clear hjeq
                                go_wp2
                                go_ret
                                exact ⟨ret_bool HI.out, rfl⟩
                          · have HI : Hid (isNum zs n = false) := by
                              rcases HQ.out with rfl | rfl
                              · exact stop HA.out hkn (by rw [← HZ.out]; exact no5 hzd (by rw [HZ.out]; exact (HD.out rfl hkn).1) (by rw [HZ.out]; exact (HD.out rfl hkn).2))
                              · exact stop HA.out hkn (by rw [← HZ.out]; exact no6 hzd)
                            by_cases hz1 : 48 ≤ z
                            · have hz2 : ¬ z ≤ 57 := fun h => hzd ⟨hz1, h⟩
                              clear hzd
                              go_wp2
                              go_ret
                              exact ⟨ret_bool HI.out, rfl⟩
                            · clear hzd
                              go_wp2
                              go_ret
                              exact ⟨ret_bool HI.out, rfl⟩
                        · have HI : Hid (isNum zs n = false) := by
                            have e : n = k3 := by omega
                            rw [e, isNum_at HA.out]
                            rcases HQ.out with rfl | rfl <;> rfl
                          go_wp2
                          go_ret
                          exact ⟨ret_bool HI.out, rfl⟩
                  · have HI : Hid (isNum zs n = false) := by
                      have e : n = k2 + 1 := by omega
                      rw [e]; exact isNum_at HA1.out
                    go_wp2
                    go_ret
                    exact ⟨ret_bool HI.out, rfl⟩
                · obtain rfl : bb = false := HB.out.trans (decide_eq_false hE)
                  have HI : Hid (isNum zs n = false) := by
                    refine stop HA.out hkn ?_
                    rw [← HZ.out]
                    have e1 : z ≠ 101 := fun h => hE (.inl h)
                    have e2 : z ≠ 69 := fun h => hE (.inr h)
                    rcases HQ.out with rfl | rfl | rfl
                    · exact no1 (by rw [HZ.out]; exact HP.out (by decide) hkn) e1 e2
                    · exact no2 (by rw [HZ.out]; exact HD.out (by decide) hkn) (by rw [HZ.out]; exact HP.out (by decide) hkn) e1 e2
                    · exact no4 (by rw [HZ.out]; exact HD.out (by decide) hkn) e1 e2
                  have hne : ((k2 : Int) == (n : Int)) = false := beq_eq_false_iff_ne.2 (by omega)
                  clear hE
                  go_wp2
                  go_ret
                  exact ⟨ret_bool HI.out, rfl⟩
            · obtain rfl : k2 = n := by omega
              have HI : Hid (isNum zs k2 = true) := by
                rw [isNum_at HA.out]
                rcases HQ.out with rfl | rfl | rfl <;> rfl
              clear hkn hk
              go_wp2
              go_ret
              exact ⟨ret_bool HI.out, rfl⟩
        · obtain rfl : k1 = n := by omega
          have HI : Hid (isNum zs k1 = true) := by
            rw [isNum_at HA.out]
            rcases HQ.out with rfl | rfl <;> rfl
          clear hkn hk
          go_wp2
          go_ret
          exact ⟨ret_bool HI.out, rfl⟩
    · obtain rfl : k = n := by omega
      have HI : Hid (isNum zs k = false) := isNum_at HA.out
      clear hkn hk
      go_wp2
      go_ret
      exact ⟨ret_bool HI.out, rfl⟩
end Go.Proofs.Qxb6600851a.Grammar
