import Derived.Test.Qxb6616348aDoorEndA
set_option linter.unusedSimpArgs false
set_option linter.unusedVariables false
namespace Go.Proofs.Qxb6616348aDoor
open Go.RowKit

theorem size_alloc (w : World) (o : Obj) : (w.alloc o).heap.size = w.heap.size + 1 := by
  show (w.heap.push o).size = _
  exact Array.size_push _
theorem new_mem (w : World) (us : Bool) (keep : Nat) (C T : Array Value) (hC : C.toList = wcells w.heap.size (init us keep) (.slice none 0 0) (.slice none 0 0) (.slice none 0 0)) (hT : T.toList = tcells (init us keep) (.slice none 0 0) (.slice none 0 0) (.slice none 0 0)) :
    WrV ((w.alloc (.cells T 53)).alloc (.cells C 57)) w.heap.size (w.heap.size + 1) w.heap.size (init us keep) := by
  refine ⟨.slice none 0 0, .slice none 0 0, .slice none 0 0, .slice none 0 0, .slice none 0 0, .slice none 0 0, [], ⟨?_, rfl⟩⟩
  have hs1 : C.size = 1 * 16 := by rw [← Array.length_toList, hC]; rfl
  have hs2 : T.size = 1 * 6 := by rw [← Array.length_toList, hT]; rfl
  have hsz : (w.alloc (.cells T 53)).heap.size = w.heap.size + 1 := size_alloc _ _
  have h1 : ((w.alloc (.cells T 53)).alloc (.cells C 57)).ownsRow w.heap.size 57 16 (ptr (w.heap.size + 1)) 1 (wcells w.heap.size (init us keep) (.slice none 0 0) (.slice none 0 0) (.slice none 0 0)) := by
    have := World.ownsRow_lit (base := w.heap.size) (e := 57) (size := 16) (w.alloc (.cells T 53)) C 1 (by rw [hsz]; omega) (by unfold maxLen; omega) hs1
    rw [hsz, hC] at this
    exact this
  have h2 : ((w.alloc (.cells T 53)).alloc (.cells C 57)).ownsRow w.heap.size 53 6 (ptr w.heap.size) 1 (tcells (init us keep) (.slice none 0 0) (.slice none 0 0) (.slice none 0 0)) := by
    have := World.ownsRow_lit (base := w.heap.size) (e := 53) (size := 6) w T 1 (Nat.le_refl _) (by unfold maxLen; omega) hs2
    rw [hT] at this
    exact this.alloc _
  refine ⟨?_, ?_, by rw [size_alloc, size_alloc]; omega⟩
  · intro i r hr
    match i, hr with
    | 0, hr => injection hr with hr; subst hr; exact h1
    | 1, hr => injection hr with hr; subst hr; exact h2
    | 2, hr => injection hr with hr; subst hr; exact World.ownsRow_nil _ _ _ _
    | 3, hr => injection hr with hr; subst hr; exact World.ownsRow_nil _ _ _ _
    | 4, hr => injection hr with hr; subst hr; exact World.ownsRow_nil _ _ _ _
    | 5, hr => injection hr with hr; subst hr; exact World.ownsRow_nil _ _ _ _
    | 6, hr => injection hr with hr; subst hr; exact World.ownsRow_nil _ _ _ _
    | 7, hr => injection hr with hr; subst hr; exact World.ownsRow_nil _ _ _ _
    | i + 8, hr => simp [rows] at hr
  · have hnil : ∀ (i : Nat) (r : Row), (rows (w.heap.size + 1) w.heap.size (init us keep) (.slice none 0 0) (.slice none 0 0) (.slice none 0 0) (.slice none 0 0) (.slice none 0 0) (.slice none 0 0) [])[i]? = some r → r.v = (if i = 0 then ptr (w.heap.size + 1) else if i = 1 then ptr w.heap.size else .slice none 0 0) := by
      intro i r hr
      match i, hr with
      | 0, hr => injection hr with hr; subst hr; rfl
      | 1, hr => injection hr with hr; subst hr; rfl
      | 2, hr => injection hr with hr; subst hr; rfl
      | 3, hr => injection hr with hr; subst hr; rfl
      | 4, hr => injection hr with hr; subst hr; rfl
      | 5, hr => injection hr with hr; subst hr; rfl
      | 6, hr => injection hr with hr; subst hr; rfl
      | 7, hr => injection hr with hr; subst hr; rfl
      | i + 8, hr => simp [rows] at hr
    intro i j r s hij hr hs
    rw [apart, hnil i r hr, hnil j s hs]
    by_cases h0 : i = 0
    · subst h0
      by_cases h1 : j = 1
      · subst h1; right; simp [ptr, Value.ownBlock]
      · right; rw [if_pos rfl, if_neg (Ne.symm hij), if_neg h1]; simp [ptr, Value.ownBlock]
    · by_cases h1 : i = 1
      · subst h1
        by_cases h2 : j = 0
        · subst h2; right; simp [ptr, Value.ownBlock]
        · right; rw [if_neg h0, if_pos rfl, if_neg h2, if_neg (Ne.symm hij)]; simp [ptr, Value.ownBlock]
      · left; rw [if_neg h0, if_neg h1]; rfl

set_option maxHeartbeats 2000000 in
set_option maxRecDepth 100000 in
theorem new_any (w : World) (us : Bool) (keep : Nat) :
    Calls Tryd.prog 6 #[.bool us, .int .i64 keep] w fun e w' => e = .returned (.pointer (some ⟨w.heap.size + 1, 0, none⟩)) ∧ WrV w' w.heap.size (w.heap.size + 1) w.heap.size (init us keep) ∧ Below w.heap.size w w' := by
  go_enter Tryd.func6, Tryd.ntmps6
  go_wp2_with fail
  go_ret
  refine ⟨rfl, ?_, ?_⟩
  · exact new_mem w us keep _ _ rfl rfl
  · exact ((Below.refl _ _).alloc (Nat.le_refl _) _).alloc (by rw [size_alloc]; omega) _
end Go.Proofs.Qxb6616348aDoor
