import Derived.Test.Qxb6603435aRows
import Derived.WalkKit
import Derived.WalkSpells
import Derived.ProofKit
import Derived.Laws.Pointers
import Derived.LaidEqlPtr
namespace Go.Proofs.Qxb6603435a.Opt
open Go.RowKit
set_option linter.unusedSimpArgs false

/-- optional, at a text that is not empty: a pointer to a new variable that holds it. -/
theorem optional_new (s : ByteArray) (w : World) (hs : s.toList.isEmpty = false) :
    Calls Try.prog 6 #[.string s] w fun e w' => e = .returned (.pointer (some ⟨w.heap.size, 0, none⟩)) ∧ w' = w.alloc (.cells #[.string s] 9) := by
  go_enter Try.func6, Try.ntmps6
  go_wp2
  go_ret
  exact ⟨rfl, rfl⟩

theorem zz_new (s : ByteArray) (w : World) (hs : s.toList.isEmpty = false) :
    Calls Try.prog 5 #[.string s] w fun e w' => e = .returned (.pointer (some ⟨w.heap.size, 0, none⟩)) ∧ w' = w.alloc (.cells #[.string s] 9) := by
  go_enter Try.func5, Try.ntmps5
  go_wp2_with (go_at_call 6; refine (optional_new s _ hs).mono ?_; rintro e w' ⟨rfl, rfl⟩)
  go_ret
  exact ⟨rfl, rfl⟩

theorem guard_any (s : ByteArray) (w : World) :
    Calls Try.prog 4 #[.string s] w fun e w' => e = .returned (.bool (decide (s.size ≤ 1048576))) ∧ w' = w := by
  by_cases h : s.size ≤ 1048576
  · go_enter Try.func4, Try.ntmps4
    go_wp2
    go_ret
    exact ⟨by simp [h], rfl⟩
  · go_enter Try.func4, Try.ntmps4
    go_wp2
    go_ret
    exact ⟨by simp [h], rfl⟩

theorem law_long (s : ByteArray) (w : World) (h : ¬ s.size ≤ 1048576) :
    Calls Try.prog 3 #[.string s] w fun e w' => e = .returned (.bool true) ∧ Grown w w' := by
  have HGd : Hid (Calls Try.prog 4 #[.string s] w fun e w' => e = .returned (.bool false) ∧ w' = w) := by
    have := guard_any s w
    simp only [h, decide_false] at this
    exact this
  go_enter Try.func3, Try.ntmps3
  go_wp2_with fail
  refine HGd.out.mono ?_
  rintro e w' ⟨rfl, rfl⟩
  go_wp2
  go_ret
  exact ⟨rfl, Grown.refl _⟩

theorem law_empty (s : ByteArray) (w : World) (h : s.size ≤ 1048576) (he : s.toList.isEmpty = true) :
    Calls Try.prog 3 #[.string s] w fun e w' => e = .returned (.bool true) ∧ Grown w w' := by
  have HGd : Hid (Calls Try.prog 4 #[.string s] w fun e w' => e = .returned (.bool true) ∧ w' = w) := by
    have := guard_any s w
    simp only [h, decide_true] at this
    exact this
  go_enter Try.func3, Try.ntmps3
  go_wp2_with fail
  refine HGd.out.mono ?_
  rintro e w' ⟨rfl, rfl⟩
  go_wp2
  go_ret
  exact ⟨rfl, Grown.refl _⟩

theorem info9 : (Try.prog.info? 9).map (fun i => (i.zero, i.size, i.bytes)) = some (some (.string ByteArray.empty), 1, 16) := by kernel_rfl

/-- Two pointers to two new variables differ. -/
theorem eql_two (x y : Value) (w : World) : (binOp .eql 23 (.pointer (some ⟨w.heap.size, 0, none⟩)) (.pointer (some ⟨w.heap.size + 1, 0, none⟩))).run Try.prog ((w.alloc (.cells #[x] 9)).alloc (.cells #[y] 9)) = .ok (.bool false) ((w.alloc (.cells #[x] 9)).alloc (.cells #[y] 9)) := by
  obtain ⟨i, hi, hz0, hz1, hz2⟩ := info_parts info9
  have hsz : (w.alloc (.cells #[x] 9)).heap.size = w.heap.size + 1 := by simp
  have h2 := heap_alloc_new (w.alloc (.cells #[x] 9)) (.cells #[y] 9)
  rw [hsz] at h2
  have h1 : ((w.alloc (.cells #[x] 9)).alloc (.cells #[y] 9)).heap[w.heap.size]? = some (.cells #[x] 9) := by
    rw [heap_alloc_old _ _ (by rw [hsz]; omega), heap_alloc_new]
  exact run_eql_ptr_other (P := Try.prog) _ Try.underlying23 hi (by rw [hz1]; decide) (by intro h; simp at h) h1 h2

theorem law_text (s : ByteArray) (w : World) (h : s.size ≤ 1048576) (he : s.toList.isEmpty = false) :
    Calls Try.prog 3 #[.string s] w fun e w' => e = .returned (.bool true) ∧ Grown w w' := by
  have HGd : Hid (Calls Try.prog 4 #[.string s] w fun e w' => e = .returned (.bool true) ∧ w' = w) := by
    have := guard_any s w
    simp only [h, decide_true] at this
    exact this
  have heq := eql_two (.string s) (.string s) w
  go_enter Try.func3, Try.ntmps3
  go_wp2_with fail
  refine HGd.out.mono ?_
  rintro e w' ⟨rfl, rfl⟩
  go_wp2_with fail
  refine (zz_new s _ he).mono ?_
  rintro e w1 ⟨rfl, rfl⟩
  go_wp2_with fail
  refine (zz_new s _ he).mono ?_
  rintro e w1 ⟨rfl, rfl⟩
  go_wp2
  go_ret
  exact ⟨rfl, ((Grown.refl _).alloc _ _).alloc _ _⟩

theorem law_all (s : ByteArray) (w : World) :
    Calls Try.prog 3 #[.string s] w fun e w' => e = .returned (.bool true) ∧ Grown w w' := by
  by_cases h : s.size ≤ 1048576
  · cases he : s.toList.isEmpty
    · exact law_text s w h he
    · exact law_empty s w h he
  · exact law_long s w h
end Go.Proofs.Qxb6603435a.Opt
