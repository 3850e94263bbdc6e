import Derived.Test.Qxb6600851aRows
import Derived.WalkKit
import Derived.WalkSpells
import Derived.ProofKit
import Derived.Laws.BitsLemmas
import Derived.LoopN
namespace Go.Proofs.Qxb6600851a.Hex
open Go.RowKit
set_option linter.unusedSimpArgs false

theorem wraps_i64 (n : Int) (h₀ : 0 ≤ n) (h₁ : n < 2 ^ 63) : IntKind.i64.wrap n = n := by rw [IntKind.wrap_i64]; omega
theorem i64_and15 (x : Int) (h₀ : 0 ≤ x) (h₁ : x < 65536) : bits .and .i64 x 15 = x % 16 :=
  bits_mask .i64 16 (by decide) (fun n a b => wraps_i64 n a (by omega)) 4 (by decide) x h₀ h₁
theorem i64_and1023 (x : Int) (h₀ : 0 ≤ x) (h₁ : x < 1048576) : bits .and .i64 x 1023 = x % 1024 :=
  bits_mask .i64 20 (by decide) (fun n a b => wraps_i64 n a (by omega)) 10 (by decide) x h₀ h₁
theorem i32_or4 (x y : Int) (hx₀ : 0 ≤ x) (hx : x % 16 = 0) (hx₁ : x < 2147483648) (h₀ : 0 ≤ y) (h₁ : y < 16) : bits .or .i32 x y = x + y :=
  bits_join .i32 31 (by decide) wraps_i32 4 x y hx₀ hx hx₁ h₀ h₁ (by omega)

/-- The four nibbles of a number below 65536, the highest first. -/
def nib (v : Int) : Nat → Int
  | 0 => v / 4096 % 16
  | 1 => v / 256 % 16
  | 2 => v / 16 % 16
  | _ => v % 16
theorem nib_bd (v : Int) (k : Nat) : 0 ≤ nib v k ∧ nib v k < 16 := by
  unfold nib; split <;> omega

/-- The digit that is written for a nibble. -/
def hexCh (up : Bool) (d : Int) : Int := if d < 10 then 48 + d else if up then 55 + d else 87 + d

def digS : ByteArray := ⟨#[48, 49, 50, 51, 52, 53, 54, 55, 56, 57, 97, 98, 99, 100, 101, 102, 65, 66, 67, 68, 69, 70]⟩
theorem digS_lo : ∀ i : Fin 16, ((digS[i.val]'(Nat.lt_of_lt_of_le i.isLt (by decide))).toNat : Int) = hexCh false i.val := by decide
theorem digS_hi : ∀ i : Fin 6, ((digS[i.val + 16]'(Nat.lt_of_lt_of_le (Nat.add_lt_add_right i.isLt 16) (by decide))).toNat : Int) = hexCh true (i.val + 10) := by decide
theorem lo_eq {d : Int} (h0 : 0 ≤ d) (h1 : d < 16) (hb : d.toNat < digS.size) : ((digS[d.toNat]'hb).toNat : Int) = hexCh false d := by
  have h := digS_lo ⟨d.toNat, by omega⟩
  have e : ((d.toNat : Nat) : Int) = d := by omega
  simp only [e] at h
  exact h
theorem hi_eq {d : Int} (h0 : 10 ≤ d) (h1 : d < 16) (hb : (d + 6).toNat < digS.size) : ((digS[(d + 6).toNat]'hb).toNat : Int) = hexCh true d := by
  obtain ⟨m, rfl⟩ : ∃ m : Nat, d = (m : Int) + 10 := ⟨(d - 10).toNat, by omega⟩
  have h := digS_hi ⟨m, by omega⟩
  have e : ((m : Int) + 10 + 6).toNat = m + 16 := by omega
  simp only [e]
  exact h

/-- The world behind the first k stores. -/
def put (b off at_ : Nat) (up : Bool) (v : Int) (w : World) : Nat → World
  | 0 => w
  | k + 1 => (put b off at_ up v w k).setCell ⟨b, off + (at_ + k), none⟩ (.int .u8 (hexCh up (nib v k)))
theorem put_frozen (b off at_ : Nat) (up : Bool) (v : Int) (w : World) (k : Nat) (a : Addr) : (put b off at_ up v w k).frozen? a = w.frozen? a := by
  induction k with
  | zero => rfl
  | succ k ih => rw [put, World.frozen?_setCell, ih]
theorem put_cell (b off at_ : Nat) (up : Bool) (v : Int) (w : World) (k j : Nat) (h : k ≤ j) : (put b off at_ up v w k).cell? ⟨b, off + (at_ + j), none⟩ = w.cell? ⟨b, off + (at_ + j), none⟩ := by
  induction k with
  | zero => rfl
  | succ k ih =>
    rw [put, World.cell?_setCell_other, ih (by omega)]
    intro e
    have := congrArg Addr.off e
    simp at this
    omega
theorem put_step {b off at_ : Nat} {up : Bool} {v : Int} {w : World} {k : Nat} {c : Int} (h : c = hexCh up (nib v k)) :
    (put b off at_ up v w k).setCell ⟨b, off + (at_ + k), none⟩ (.int .u8 c) = put b off at_ up v w (k + 1) := by
  rw [put, h]

theorem shifted (v : Int) (k : Nat) (hk : k < 4) (h0 : 0 ≤ v) (h1 : v < 65536) : bits .and .i64 (v / 2 ^ (12 - 4 * k)) 15 = nib v k := by
  obtain rfl | rfl | rfl | rfl : k = 0 ∨ k = 1 ∨ k = 2 ∨ k = 3 := by omega
  · show bits .and .i64 (v / 4096) 15 = _
    rw [i64_and15 _ (by omega) (by omega)]; rfl
  · show bits .and .i64 (v / 256) 15 = _
    rw [i64_and15 _ (by omega) (by omega)]; rfl
  · show bits .and .i64 (v / 16) 15 = _
    rw [i64_and15 _ (by omega) (by omega)]; rfl
  · show bits .and .i64 (v / 1) 15 = _
    rw [i64_and15 _ (by omega) (by omega), Int.ediv_one]; rfl

set_option maxHeartbeats 400000 in
theorem putHex_any (b off n cap at_ : Nat) (v : Int) (up : Bool) (w : World) (h0 : 0 ≤ v) (h1 : v < 65536) (hn : at_ + 4 ≤ n) (hn2 : n ≤ 1000000000)
    (hc : ∀ k, k < 4 → ∃ x, w.cell? ⟨b, off + (at_ + k), none⟩ = some x) (hf : ∀ k, k < 4 → w.frozen? ⟨b, off + (at_ + k), none⟩ = false) :
    Calls Try.prog 11 #[.slice (some ⟨b, off, none⟩) n cap, .int .i64 at_, .int .i64 v, .bool up] w fun e w' => e = .returned (.tuple #[]) ∧ w' = put b off at_ up v w 4 := by
  have HC : Hid (∀ k, k < 4 → ∃ x, w.cell? ⟨b, off + (at_ + k), none⟩ = some x) := hc
  have HF : Hid (∀ k, k < 4 → w.frozen? ⟨b, off + (at_ + k), none⟩ = false) := hf
  clear hc hf
  go_enter Try.func11, Try.ntmps11
  go_wp2
  go_loopw [8] (fun i wr => ∃ k : Nat, k ≤ 4 ∧ i = .int .i64 k ∧ wr = put b off at_ up v w k) (fun i _ => 4 - (intOf i).toNat)
  case atStart => exact ⟨0, by omega, rfl, rfl⟩
  case round =>
    obtain ⟨k, hk, rfl, rfl⟩ := hrel
    by_cases hlt : k < 4
    · obtain ⟨hb0, hb1⟩ := nib_bd v k
      have hs := shifted v k hlt h0 h1
      obtain ⟨x, hx⟩ := HC.out k hlt
      have hx' : (put b off at_ up v w k).cell? ⟨b, off + (at_ + k), none⟩ = some x := by rw [put_cell _ _ _ _ _ _ _ _ (Nat.le_refl _)]; exact hx
      have hf' : (put b off at_ up v w k).frozen? ⟨b, off + (at_ + k), none⟩ = false := by rw [put_frozen]; exact HF.out k hlt
      have HP : Hid (∀ c : Int, c = hexCh up (nib v k) → (put b off at_ up v w k).setCell ⟨b, off + (at_ + k), none⟩ (.int .u8 c) = put b off at_ up v w (k + 1)) := fun c h => put_step h
      clear hx
      generalize put b off at_ up v w k = W at *
      generalize nib v k = d at *
      cases up
      · go_wp2
        all_goals
          go_roundw
          case rel => exact ⟨k + 1, by omega, by go_num, HP.out _ (lo_eq hb0 hb1 _)⟩
          case measure => simp [intOf]; omega
      · by_cases hd : 10 ≤ d
        · go_wp2
          go_roundw
          case rel => exact ⟨k + 1, by omega, by go_num, HP.out _ (hi_eq hd hb1 _)⟩
          case measure => simp [intOf]; omega
        · go_wp2
          go_roundw
          case rel => exact ⟨k + 1, by omega, by go_num, HP.out _ ((lo_eq hb0 hb1 _).trans (by simp [hexCh]; omega))⟩
          case measure => simp [intOf]; omega
    · go_wp2
      go_end0
      obtain rfl : k = 4 := by omega
      exact ⟨rfl, rfl⟩
end Go.Proofs.Qxb6600851a.Hex
