import Derived.Test.Qxb6616348aDoorSameS
import Derived.OrdersHeld
set_option linter.unusedSimpArgs false
set_option linter.unusedVariables false
namespace Go.Proofs.Qxb6616348aDoor
open Go.RowKit

/-! A region that draws, under a condition S that every operation keeps but the last one, L, which waits for all that is taken first ('x.f = append(x.f, ..)': the load of x.f is taken first, though the store writes it). -/
section
variable {P : Program} {ops : Array Oper} {Q : Exit → Act → World → Prop} {md : Region.Mode} {S : World → Prop} {L : Nat}

def anyM (P : Program) (md : Region.Mode) (ops : Array Oper) (Q : Exit → Act → World → Prop) (S : World → Prop) (L : Nat) : Nat → Array Bool → Act → World → Prop
  | 0, listed, a, w => Region.ready md ops listed = [] ∧ Q .normal a w
  | fuel + 1, listed, a, w =>
    (Region.ready md ops listed = [] → Q .normal a w) ∧
    ∀ i ∈ Region.ready md ops listed, wpOp P ops Q i (fun a' w' => (i ≠ L → S w') ∧ anyM P md ops Q S L fuel (listed.setIfInBounds i true) a' w') a w

theorem any_of_M : ∀ (fuel : Nat) (listed : Array Bool) (a : Act) (w : World), anyM P md ops Q S L fuel listed a w → wpAny P md ops Q fuel listed a w
  | 0, _, _, _, h => h
  | fuel + 1, _, _, _, h => ⟨h.1, fun i hi => wpOp_mono (fun a' w' h' => any_of_M fuel _ a' w' h'.2) (h.2 i hi)⟩

/-- the last operation waits for number i -/
def waits (md : Region.Mode) (ops : Array Oper) (L i : Nat) : Bool := match ops[L]? with | some o => o.after.any (fun e => Region.binds md e && e.on == i) | none => false

theorem not_last {i j : Nat} {listed : Array Bool} (hw : waits md ops L i = true) (hi : i ∈ Region.ready md ops listed) (hj : j ∈ Region.ready md ops listed) : j ≠ L := by
  intro e
  subst e
  obtain ⟨_, oj, hoj, hall⟩ := mem_ready.1 hj
  have h0 := (mem_ready.1 hi).1
  unfold waits at hw
  rw [hoj] at hw
  obtain ⟨k, hk, hkk⟩ := Array.any_eq_true.1 hw
  simp only [Bool.and_eq_true, beq_iff_eq] at hkk
  have h1 := hall _ (Array.getElem_mem hk) hkk.1
  rw [hkk.2] at h1
  rcases Nat.lt_or_ge i listed.size with h' | h'
  · simp [h'] at h0 h1
    rw [h0] at h1
    cases h1
  · simp [Array.getElem?_eq_none h'] at h1

theorem anyM_first {i : Nat} {oi : Oper} {v : Value} (hi : ops[i]? = some oi) (hsel : ∀ (j : Nat) (o : Oper) cs b, ops[j]? = some o → o.op ≠ .select cs b)
    (hQ : ∀ c a w, Q (.panic c) (a.put oi.dst v) w → Q (.panic c) a w) (hw : waits md ops L i = true) :
    ∀ (fuel : Nat) (listed : Array Bool) (a : Act) (w : World),
      (∀ j oj, ops[j]? = some oj → j ≠ i → listed.getD j true = false → (∀ e ∈ oj.after, Region.binds md e = true → e.on ≠ i) → oi.apart ops oj = true) →
      i ∈ Region.ready md ops listed → YieldsIf P ops S oi v a → S w →
      anyM P md ops Q S L fuel (listed.setIfInBounds i true) (a.put oi.dst v) w → anyM P md ops Q S L (fuel + 1) listed a w := by
  intro fuel
  induction fuel with
  | zero =>
    intro listed a w _ hr hy hS H
    refine ⟨fun h => (by rw [h] at hr; cases hr), fun j hj => ?_⟩
    by_cases hji : j = i
    · subst hji; exact hy.wpOp hi hS ⟨fun _ => hS, H⟩
    · have := ready_mono hj hji
      rw [H.1] at this
      cases this
  | succ fuel ih =>
    intro listed a w hfree hr hy hS H
    refine ⟨fun h => (by rw [h] at hr; cases hr), fun j hj => ?_⟩
    by_cases hji : j = i
    · subst hji; exact hy.wpOp hi hS ⟨fun _ => hS, H⟩
    · have hjL := not_last hw hr hj
      have h1 := H.2 j (ready_mono hj hji)
      obtain ⟨hjun, oj, hoj, hall⟩ := mem_ready.1 hj
      have hnot : ∀ e ∈ oj.after, Region.binds md e = true → e.on ≠ i := fun e he hb heq => by
        have h1 := hall e he hb
        have h0 := (mem_ready.1 hr).1
        rw [heq] at h1
        rcases Nat.lt_or_ge i listed.size with h' | h'
        · simp [h'] at h0 h1; rw [h0] at h1; cases h1
        · simp [Array.getElem?_eq_none h'] at h1
      have h2 := wpOp_putIf hoj (hfree j oj hoj hji hjun hnot) (fun cs b => hsel i oi cs b hi) (fun cs b => hsel j oj cs b hoj) hQ hy h1
      have hfree' : ∀ k ok, ops[k]? = some ok → k ≠ i → (listed.setIfInBounds j true).getD k true = false →
          (∀ e ∈ ok.after, Region.binds md e = true → e.on ≠ i) → oi.apart ops ok = true := fun k ok hk hki hun hno => by
        refine hfree k ok hk hki ?_ hno
        by_cases hjk : j = k
        · subst hjk; exact hjun
        · rw [getD_set_ne true hjk] at hun; exact hun
      refine wpOp_mono (fun a' w' h3 => ⟨fun _ => h3.2.1 hjL, ih (listed.setIfInBounds j true) a' w' hfree' (ready_mono hr (Ne.symm hji)) h3.1 (h3.2.1 hjL) ?_⟩) h2
      rw [Array.setIfInBounds_comm _ _ hji]
      exact h3.2.2

theorem anyM_take {i : Nat} {oi : Oper} {v : Value} {fuel : Nat} {listed : Array Bool} {a : Act} {w : World} (hi : ops[i]? = some oi)
    (hs : Region.noSelect ops = true) (hf : Region.free md ops listed i = true) (hr : (Region.ready md ops listed).contains i = true) (hw : waits md ops L i = true)
    (hQ : ∀ c a w, Q (.panic c) (a.put oi.dst v) w → Q (.panic c) a w) (hy : YieldsIf P ops S oi v a) (hS : S w)
    (h : anyM P md ops Q S L fuel (listed.setIfInBounds i true) (a.put oi.dst v) w) : anyM P md ops Q S L (fuel + 1) listed a w :=
  anyM_first hi (Region.noSelect_spec hs) hQ hw fuel listed a w (Region.free_spec hi hf) (by simpa using hr) hy hS h
/-- one operation alone may come up -/
theorem anyM_one {i : Nat} {o : Oper} {fuel : Nat} {listed : Array Bool} {a : Act} {w : World} (ho : ops[i]? = some o) (hr : Region.ready md ops listed = [i])
    (h : ∀ K' : Act → World → Prop, Hid (∀ a w, (i ≠ L → S w) → anyM P md ops Q S L fuel (listed.setIfInBounds i true) a w → K' a w) → if Region.wanted o (yielded ops a.tmps) = true then Oper.wp P o a w K' Q else K' (a.put o.dst undef) w) : anyM P md ops Q S L (fuel + 1) listed a w := by
  refine ⟨fun h0 => (by rw [hr] at h0; cases h0), fun j hj => ?_⟩
  rw [hr] at hj
  have := List.mem_singleton.1 hj
  subst this
  exact wpOp_step ho (fun K' hK => h K' (fun a w hS hW => hK a w ⟨hS, hW⟩))
/-- one of two may come up -/
theorem anyM_two {i j : Nat} {oi oj : Oper} {fuel : Nat} {listed : Array Bool} {a : Act} {w : World} (hi : ops[i]? = some oi) (hj : ops[j]? = some oj) (hr : Region.ready md ops listed = [i, j])
    (h1 : ∀ K' : Act → World → Prop, Hid (∀ a w, (i ≠ L → S w) → anyM P md ops Q S L fuel (listed.setIfInBounds i true) a w → K' a w) → if Region.wanted oi (yielded ops a.tmps) = true then Oper.wp P oi a w K' Q else K' (a.put oi.dst undef) w)
    (h2 : ∀ K' : Act → World → Prop, Hid (∀ a w, (j ≠ L → S w) → anyM P md ops Q S L fuel (listed.setIfInBounds j true) a w → K' a w) → if Region.wanted oj (yielded ops a.tmps) = true then Oper.wp P oj a w K' Q else K' (a.put oj.dst undef) w) : anyM P md ops Q S L (fuel + 1) listed a w := by
  refine ⟨fun h0 => (by rw [hr] at h0; cases h0), fun k hk => ?_⟩
  rw [hr] at hk
  rcases List.mem_cons.1 hk with e | hk
  · subst e
    exact wpOp_step hi (fun K' hK => h1 K' (fun a w hS hW => hK a w ⟨hS, hW⟩))
  · have e := List.mem_singleton.1 hk
    subst e
    exact wpOp_step hj (fun K' hK => h2 K' (fun a w hS hW => hK a w ⟨hS, hW⟩))
theorem anyM_done {listed : Array Bool} {a : Act} {w : World} (hr : Region.ready md ops listed = []) (h : Q .normal a w) : ∀ fuel, anyM P md ops Q S L fuel listed a w
  | 0 => ⟨hr, h⟩
  | _ + 1 => ⟨fun _ => h, by rw [hr]; simp⟩
theorem region_M {id : Nat} {a : Act} {w : World} (S : World → Prop) (L : Nat) (hm : P.follows .mixedOrders = true)
    (h : anyM P .any ops Q S L ops.size (Array.replicate ops.size false) a w.drew) : (Code.region id ops true).wp P Q a w :=
  wp_region_any hm (any_of_M _ _ _ _ h)
end
end Go.Proofs.Qxb6616348aDoor
