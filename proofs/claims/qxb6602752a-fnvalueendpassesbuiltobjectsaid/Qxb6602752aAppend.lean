import Derived.Test.Qxb6602752aRows
import Derived.Test.Qxb6602752aClone
import Derived.Test.Qxb6602752aQuotes
import Derived.WalkKit
import Derived.WalkSpells
import Derived.ProofKit
namespace Go.Proofs.Qxb6602752a.App
open Go.RowKit By8 Quotes
set_option linter.unusedSimpArgs false

/-- The slice of k bytes and room for cap at the head of block g holds just the bytes l. -/
def Own (w : World) (g k cap : Nat) (l : List Int) : Prop := w.ownsRow 0 5 1 (.slice (some ⟨g, 0, none⟩) k cap) k (l.map (Value.int .u8))
theorem Own.length {w : World} {g k cap : Nat} {l : List Int} (h : Own w g k cap l) : l.length = k := by
  have := h.1
  simpa using this
theorem Own.cells {w : World} {g k cap : Nat} {l : List Int} (h : Own w g k cap l) (i : Nat) (hi : i < k) : w.cell? ⟨g, i, none⟩ = some (.int .u8 (l.getD i 0)) := by
  rw [World.ownsRow.cellAt h i (by omega)]
  have := h.length
  simp [show i < l.length by omega]
theorem Own.shows {w : World} {g k cap : Nat} {l : List Int} (h : Own w g k cap l) : Shows w (some ⟨g, 0, none⟩) k l := fun _ =>
  ⟨g, 0, rfl, fun i hi => by rw [Nat.zero_add]; exact h.cells i hi⟩
theorem Own.made (w : World) (n : Nat) (hn : n ≤ 1000000000) : Own (w.alloc (.cells (by8 (List.replicate n 0)) 5)) w.heap.size 0 n [] :=
  World.ownsRow_made w _ n (Nat.zero_le _) (by unfold maxLen; omega) (by simp [by8_size])

theorem mk0_run (n : Nat) (hn : n ≤ 1000000000) (w : World) : (Instr.makeSlice 24 (.int .i64 0) (.int .i64 (n : Int))).run Try.prog w = .ok (.slice (some ⟨w.heap.size, 0, none⟩) 0 n) (w.alloc (.cells (by8 (List.replicate n 0)) 5)) := by
  obtain ⟨i, hi, hz0, hz1, hz2⟩ := info_parts info5
  have h := run_make (P := Try.prog) w 24 5 i (.int .u8 0) Try.underlying24 hi hz0 .i64 .i64 0 n (by omega) (by omega) (by rw [hz2]; omega) (by omega)
  rw [h, hz1]
  simp [Value.cells, made_by8]

/-- append of one byte, within the capacity, at the walk's level. -/
theorem append1 (wr : World) {ops : Array Oper} {rest : List Oper} {o : Oper} {a : Act} {Q : Exit → Act → World → Prop}
    (hg : o.guard = none) (s x : Operand) (hop : o.op = Op.call { callee := Callee.builtin Builtin.append, args := #[s, x], argTypes := #[24, 24] })
    (g k cap : Nat) (l : List Int) (z : Int) (hs : a.eval s = .slice (some ⟨g, 0, none⟩) k cap) (hx : a.eval x = .slice (some ⟨wr.heap.size, 0, none⟩) 1 1)
    (ho : Own wr g k cap l) (hfit : k + 1 ≤ cap) (wB : World) (hB : Below wB.heap.size wB wr) (hgB : wB.heap.size ≤ g)
    (hK : ∀ w', Own w' g (k + 1) cap (l ++ [z]) → Below wB.heap.size wB w' → wpList Try.prog ops Q rest (a.put o.dst (.slice (some ⟨g, 0, none⟩) (k + 1) cap)) w') :
    wpList Try.prog ops Q (o :: rest) a (wr.alloc (.cells #[.int .u8 z] 5)) := by
  obtain ⟨i, hi, hz0, hz1, hz2⟩ := info_parts info5
  refine wpList_append_fits (P := Try.prog) _ hg s x 24 hop 0 5 i 1 Try.underlying24 hi hz1 g k cap (l.map (Value.int .u8)) hs (World.ownsRow.alloc ho _) ⟨wr.heap.size, 0, none⟩ 1 1 [.int .u8 z] hx rfl ?_ ?_ hfit ?_
  · intro j u hj
    match j, hj with
    | 0, hj => simp at hj; subst hj; simp [Addr.add]
    | j + 1, hj => simp at hj
  · intro u hu
    simp at hu; subst hu; rfl
  · intro w' h1 h2
    refine hK w' ?_ ?_
    · have e : (l ++ [z]).map (Value.int .u8) = l.map (Value.int .u8) ++ [.int .u8 z] := by simp
      unfold Own
      rw [e]
      exact h1
    · refine (hB.alloc hB.size _).grown h2 ?_ ?_
      · have := hB.size; simp; omega
      · intro k' hk'
        cases hk'
        exact hgB

set_option maxHeartbeats 400000 in
/-- docB1AppendBytes, within the capacity. -/
theorem appendBytes_any (wB w : World) (g k cap m c : Nat) (l ys : List Int) (a : Option Addr) (hcap : cap ≤ 1000000000) (hgB : wB.heap.size ≤ g)
    (hb : Below wB.heap.size wB w) (hs : Shows wB a m ys) (ho : Own w g k cap l) (hfit : k + m ≤ cap) (hy : m ≤ ys.length) :
    Calls Try.prog 15 #[.slice (some ⟨g, 0, none⟩) k cap, .slice a m c] w fun e w' => e = .returned (.slice (some ⟨g, 0, none⟩) (k + m) cap) ∧ Own w' g (k + m) cap (l ++ ys.take m) ∧ Below wB.heap.size wB w' := by
  have HS : Hid (Shows wB a m ys) := hs
  have HO : Hid (Own w g k cap l) := ho
  have HB : Hid (Below wB.heap.size wB w) := hb
  clear hs ho hb
  go_enter Try.func15, Try.ntmps15
  go_wp2
  go_loopw [0, 5] (fun out i wr => ∃ j : Nat, j ≤ m ∧ i = .int .i64 j ∧ out = .slice (some ⟨g, 0, none⟩) (k + j) cap ∧ Hid (Own wr g (k + j) cap (l ++ ys.take j)) ∧ Hid (Below wB.heap.size wB wr)) (fun _ i _ => m - (intOf i).toNat)
  case atStart => exact ⟨0, by omega, rfl, rfl, (by simpa using HO.out : Own w g (k + 0) cap (l ++ ys.take 0)), HB⟩
  case round =>
    obtain ⟨j, hj, rfl, rfl, HOr, HBr⟩ := hrel
    by_cases hlt : j < m
    · obtain ⟨b, off, rfl, hcs⟩ := HS.out (by omega)
      have hcj : wr.cell? ⟨b, off + j, none⟩ = some (.int .u8 (ys.getD j 0)) := by
        rw [HBr.out.cell (lt_of_cell (hcs j hlt))]; exact hcs j hlt
      clear hcs
      obtain ⟨z, hz⟩ : ∃ z, z = ys.getD j 0 := ⟨_, rfl⟩
      rw [← hz] at hcj
      have HZ : Hid (l ++ ys.take j ++ [z] = l ++ ys.take (j + 1)) := by
        show _ = _
        rw [hz, List.take_succ_eq_append_getElem (show j < ys.length by omega), List.append_assoc]
        simp [show j < ys.length by omega]
      clear hz
      go_wp2_with (at_builtin; refine append1 wr rfl (.tmp 12) (.tmp 17) rfl g (k + j) cap (l ++ ys.take j) z rfl rfl HOr.out (by omega) wB HBr.out hgB ?_; intro w1 ho1 hb1; have HO1 : Hid (Own w1 g (k + j + 1) cap (l ++ ys.take j ++ [z])) := ho1; have HB1 : Hid (Below wB.heap.size wB w1) := hb1; clear ho1 hb1)
      have HO2 : Hid (Own w1 g (k + (j + 1)) cap (l ++ ys.take (j + 1))) := by
        have h := HO1.out
        rw [HZ.out] at h
        exact h
      go_roundw
      case rel => exact ⟨j + 1, by omega, by go_num, rfl, HO2, HB1⟩
      case measure => simp [intOf]; omega
    · obtain rfl : j = m := by omega
      go_wp2
      go_ret
      exact ⟨rfl, HOr.out, HBr.out⟩
end Go.Proofs.Qxb6602752a.App
