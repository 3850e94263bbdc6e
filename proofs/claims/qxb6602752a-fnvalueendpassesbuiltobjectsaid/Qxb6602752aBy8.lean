import Derived.WalkKit
import Derived.WalkSpells
import Derived.ProofKit
import Derived.Below
/-! Blocks of bytes: plain facts on worlds. No program in sight. -/
namespace Go.Proofs.Qxb6602752a.By8
open Go.RowKit
open Go.WideShapes (add_plain)

/-- A block's cells: the bytes l. -/
def by8 (l : List Int) : Array Value := (l.map (Value.int .u8)).toArray
theorem by8_size (l : List Int) : (by8 l).size = l.length := by simp [by8]
theorem by8_get (l : List Int) (i : Nat) (h : i < l.length) : (by8 l)[i]? = some (.int .u8 (l.getD i 0)) := by
  simp [by8, h]
theorem by8_set (l : List Int) (i : Nat) (x : Int) : (by8 l).setIfInBounds i (.int .u8 x) = by8 (l.set i x) := by
  unfold by8
  rw [List.map_set, List.setIfInBounds_toArray]
theorem made_by8 (n : Nat) : madeCells #[.int .u8 0] n = by8 (List.replicate n 0) := by
  apply Array.ext
  · rw [size_madeCells, by8_size, List.length_replicate]
  · intro i h1 h2
    simp [madeCells, by8, Nat.mod_one]

theorem cell_new (w : World) (l : List Int) (i : Nat) (h : i < l.length) : (w.alloc (.cells (by8 l) 5)).cell? ⟨w.heap.size, i, none⟩ = some (.int .u8 (l.getD i 0)) := by
  rw [World.cell?_alloc_at _ _ _ _ rfl, by8_get l i h]
theorem set_new (w : World) (l : List Int) (i : Nat) (x : Int) : (w.alloc (.cells (by8 l) 5)).setCell ⟨w.heap.size, i, none⟩ (.int .u8 x) = w.alloc (.cells (by8 (l.set i x)) 5) := by
  rw [World.setCell_alloc_at _ _ _ _ _ rfl, by8_set]

theorem lt_of_cell {w : World} {a : Addr} {v : Value} (h : w.cell? a = some v) : a.block < w.heap.size := by
  apply Classical.byContradiction
  intro hn
  have hnone : w.heap[a.block]? = none := by simp; omega
  obtain ⟨b, o, s⟩ := a
  have hs := World.cell?_spot h
  simp at hs
  subst hs
  simp [World.cell?, hnone] at h

/-- The bytes that a slice shows: 'len' of them, at the places behind x. -/
def Shows (w : World) (a : Option Addr) (n : Nat) (zs : List Int) : Prop := 0 < n → ∃ b off, a = some ⟨b, off, none⟩ ∧ ∀ i, i < n → w.cell? ⟨b, off + i, none⟩ = some (.int .u8 (zs.getD i 0))

theorem shows_of_cells {w : World} {x : Addr} {n cap : Nat} {zs : List Int} (hn : n ≤ cap) (hz : zs.length = cap) (hc : ∀ i, i < zs.length → w.cell? (x.add i) = some (.int .u8 (zs.getD i 0))) : Shows w (some x) n zs := by
  intro h0
  obtain ⟨b, off, spot⟩ := x
  have h := hc 0 (by omega)
  have hs : spot = none := by simpa [Addr.add] using World.cell?_spot h
  subst hs
  exact ⟨b, off, rfl, fun i hi => by rw [← add_plain]; exact hc i (by omega)⟩

theorem take_set (zs : List Int) (k n : Nat) (h : k < n) (hz : k < zs.length) :
    (zs.take k ++ List.replicate (n - k) 0).set k (zs.getD k 0) = zs.take (k + 1) ++ List.replicate (n - (k + 1)) 0 := by
  obtain ⟨m, hm⟩ : ∃ m, n - k = m + 1 := ⟨n - k - 1, by omega⟩
  have hm' : n - (k + 1) = m := by omega
  have hl : (zs.take k).length = k := by simp; omega
  rw [hm, hm', List.set_append_right _ _ (by omega), hl, Nat.sub_self, List.replicate_succ, List.set_cons_zero,
    List.take_succ_eq_append_getElem hz, List.append_assoc]
  simp [hz]
end Go.Proofs.Qxb6602752a.By8
