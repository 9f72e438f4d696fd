import Derived.Test.Qxb6616329aClone
import Derived.Maps.OwnSet
import Derived.DeepKeys4
set_option linter.unusedSimpArgs false
set_option linter.unusedVariables false
namespace Go.Proofs.Qxb6616329a
open Go.RowKit
open Go.Maps (Keyed)

theorem laidOut : laidOutB Try.prog = true := by kernel_rfl
theorem row54 : (54 : TypeId) < Try.prog.types.size := of_decide_eq_true (by kernel_rfl)
theorem wide54 : (match Try.prog.underlying 54 with | some (.array _ _) | some (.struct _) => true | _ => false) = true := by kernel_rfl
theorem law54 : Keyed Try.prog 54 := Keyed.of_law (deep_law_laid laidOut (m := 2) (by omega) row54 (by kernel_rfl) wide54)
theorem law9 : Keyed Try.prog 9 := Maps.string_keyed Try.underlying9
theorem key54T : Try.prog.keyType 54 = true := by kernel_rfl
theorem cells54 : Try.prog.cellsOf 54 = 2 := by kernel_rfl
theorem cells3 : Try.prog.cellsOf 3 = 1 := by kernel_rfl
theorem cells9 : Try.prog.cellsOf 9 = 1 := by kernel_rfl
theorem tsz : Try.prog.types.size = 107 := by kernel_rfl

def keyLit (c : Ct) : Lit := .string (keyBytes [.int .i64 c.1, .string c.2])

theorem lits3 (d : Nat) (tax : Int) (hw : (Lit.int .i64 tax).wf = true) : Try.prog.keyLits (d + 1) 3 [.int .i64 tax] = some [.int .i64 tax] := by
  unfold Program.keyLits
  rw [Try.underlying3]
  simp [hw]
theorem lits9 (d : Nat) (code : Bs) (hc : (B code).size ≤ maxLen) : Try.prog.keyLits (d + 1) 9 [.string (B code)] = some [.string code] := by
  unfold Program.keyLits
  rw [Try.underlying9]
  simp [hc, B_list]
theorem lits54 (d : Nat) (tax : Int) (code : Bs) (hw : (Lit.int .i64 tax).wf = true) (hc : (B code).size ≤ maxLen) :
    Try.prog.keyLits (d + 1 + 1) 54 [.int .i64 tax, .string (B code)] = some [.int .i64 tax, .string code] := by
  unfold Program.keyLits
  rw [Try.underlying54]
  simp only [cells54]
  simp [cells3, cells9, lits3 d tax hw, lits9 d code hc]
theorem formed54 (tax : Int) (code : Bs) : (Value.agg #[.int .i64 tax, .string (B code)]).formed Try.prog 54 = true := by
  simp [Value.formed, Try.underlying54, cells54]

theorem keyOf54 (tax : Int) (code : Bs) (hw : (Lit.int .i64 tax).wf = true) (hc : code.length ≤ maxLen) :
    keyOf Try.prog 54 (.agg #[.int .i64 tax, .string (B code)]) = some (keyLit (tax, code)) := by
  have hz : (B code).size ≤ maxLen := hc
  unfold keyOf
  rw [Try.underlying54]
  simp only [key54T, tsz, formed54, Bool.and_self, if_true]
  have := lits54 106 tax code hw hz
  simp only [Value.cells]
  rw [show (107 + 1 : Nat) = 106 + 1 + 1 from rfl, this]
  rfl

theorem run_makeMap_hint (w : World) (t k e : TypeId) (n : Int) (ht : Try.prog.underlying t = some (.map k e)) :
    (Instr.makeMap t (some (.int .i64 n))).run Try.prog w = .ok (.map (some w.heap.size)) (w.alloc (.map #[] 0)) := by
  simp [Instr.makeMap, run_underlying ht, asInt, asIntOf, Result.andThen]

/-- a category that can be a key -/
def WfCt (c : Ct) : Prop := (Lit.int .i64 c.1).wf = true ∧ c.2.length ≤ maxLen

theorem keyOfCt (c : Ct) (h : WfCt c) : keyOf Try.prog 54 (.agg #[.int .i64 c.1, .string (B c.2)]) = some (keyLit c) := keyOf54 c.1 c.2 h.1 h.2
theorem keyLit_isKey (c : Ct) (h : WfCt c) : WideAt.IsKeyLit (keyLit c) := law54.key (keyOfCt c h)
theorem keyLit_inj (a b : Ct) (ha : WfCt a) (hb : WfCt b) (h : keyLit a = keyLit b) : a = b := by
  have := law54.inj (keyOfCt a ha) (h ▸ keyOfCt b hb)
  injection this with this
  have h1 := congrArg (fun x : Array Value => x[0]?) this
  have h2 := congrArg (fun x : Array Value => x[1]?) this
  simp at h1 h2
  refine Prod.ext h1 ?_
  have := congrArg (fun s : ByteArray => s.data.toList) h2
  simpa [B_list] using this

theorem plainElem_bool_inv {v : Value} {z : DataW Unit × List MemPlace} (h : plainElem Try.prog 4 v = some z) : ∃ x, v = .bool x ∧ z = (.lit (.bool x), []) := by
  unfold plainElem at h
  rw [Try.underlying4] at h
  cases v <;> simp at h
  exact ⟨_, rfl, h.symm⟩
theorem plainElem_str_inv {v : Value} {z : DataW Unit × List MemPlace} (h : plainElem Try.prog 9 v = some z) : ∃ s : ByteArray, v = .string s ∧ z = (.lit (.string s.data.toList), []) ∧ s.size ≤ maxLen := by
  unfold plainElem at h
  rw [Try.underlying9] at h
  cases v <;> simp at h
  exact ⟨_, rfl, h.2.symm, h.1⟩

theorem zero4 (w : World) : (zeroValue 4).run Try.prog w = .ok (.bool false) w := by kernel_rfl
theorem zero9 (w : World) : (zeroValue 9).run Try.prog w = .ok (.string ByteArray.empty) w := by kernel_rfl

/-! ### sets of categories -/
structure SetD (D : DataW Unit) (f : Ct → Bool) : Prop where
  isMap : Maps.IsMap D
  has : ∀ c, WfCt c → Maps.has D (keyLit c) = f c
  val : ∀ kl, D.atKey kl (.lit (.bool false)) = .lit (.bool (Maps.has D kl))

theorem setD_empty : SetD (.map []) (fun _ => false) :=
  ⟨Maps.isMap_empty, fun _ _ => rfl, fun kl => Maps.atKey_of_not_has (k := kl) rfl _⟩

theorem setD_put {D : DataW Unit} {f : Ct → Bool} (h : SetD D f) (x : Ct) (hx : WfCt x) : SetD (D.put (keyLit x) (.lit (.bool true))) (fun c => f c || eqs c x) := by
  refine ⟨h.isMap.put _ _, fun c hc => ?_, fun kl => ?_⟩
  · by_cases e : c = x
    · subst e
      rw [Maps.has_put_same h.isMap (keyLit_isKey c hc)]
      simp [eqs]
    · have hne : keyLit c ≠ keyLit x := fun e' => e (keyLit_inj c x hc hx e')
      rw [Maps.has_put_other hne, h.has c hc]
      have : eqs c x = false := by simp [eqs]; exact fun e' => e e'.symm
      rw [this]; simp
  · by_cases e : kl = keyLit x
    · subst e
      rw [Maps.has_put_same h.isMap (keyLit_isKey x hx), Maps.atKey_put_same h.isMap (keyLit_isKey x hx)]
    · rw [Maps.has_put_other e, Maps.atKey_put_other e]
      exact h.val kl

theorem has_of_size_zero {D : DataW Unit} (h : Maps.IsMap D) (hs : Maps.size D = 0) (kl : Lit) : Maps.has D kl = false := by
  obtain ⟨es, rfl⟩ := h
  rw [Maps.size_eq] at hs
  have := List.eq_nil_of_length_eq_zero hs
  subst this
  rfl

/-- a map[gate.Category]bool -/
structure CatMap (w : World) (m : Value) (f : Ct → Bool) (n : Nat) : Prop where
  look : ∀ w', Ext w w' → ∀ tax code, WfCt (tax, code) → (Instr.lookup 53 m (.agg #[.int .i64 tax, .string (B code)]) false).run Try.prog w' = .ok (.bool (f (tax, code))) w'
  len : ∀ w', Ext w w' → ∀ ty, (Builtin.len_ #[53] ty #[m]).run Try.prog w' = .ok (.int .i64 (n : Int)) w'
  none : n = 0 → ∀ c, WfCt c → f c = false

theorem CatMap.ext {w w' : World} {m : Value} {f : Ct → Bool} {n : Nat} (h : CatMap w m f n) (e : Ext w w') : CatMap w' m f n :=
  ⟨fun w2 e2 => h.look w2 (e.trans e2), fun w2 e2 => h.len w2 (e.trans e2), h.none⟩

theorem catMap_of {w : World} {b n : Nat} {D : DataW Unit} {f : Ct → Bool} (h : w.ownsMap Try.prog 54 (plainElem Try.prog 4) b n D) (hs : SetD D f) : CatMap w (.map (some b)) f (Maps.size D) := by
  refine ⟨fun w' e tax code hc => ?_, fun w' e ty => ?_, fun h0 c hc => ?_⟩
  · have h' := h.kept (ext_grown e) (by simp)
    obtain ⟨v, ps, hrun, hv⟩ := h'.lookup law54 Try.underlying53 (zero4 w') (plainElem_bool Try.underlying4 false) (keyOfCt (tax, code) hc)
    rw [hs.val, hs.has _ hc] at hv
    obtain ⟨x, rfl, hx⟩ := plainElem_bool_inv hv
    simp at hx
    rw [hrun, ← hx.1]
  · have h' := h.kept (ext_grown e) (by simp)
    exact h'.len Try.underlying53 ty
  · rw [← hs.has c hc]
    exact has_of_size_zero hs.isMap h0 _

/-! ### parents -/
structure ParD (D : DataW Unit) (par : Ct → Option Bs) (keys : List Ct) : Prop where
  tidy : Maps.Tidy D
  has : ∀ c, WfCt c → Maps.has D (keyLit c) = (par c).isSome
  val : ∀ c, WfCt c → D.atKey (keyLit c) (.lit (.string [])) = .lit (.string ((par c).getD []))
  has_key : ∀ x, (par x).isSome = true → x ∈ keys
  wf : ∀ x ∈ keys, WfCt x
  back : ∀ x ∈ keys, (par x).isSome = true
  len : keys.length ≤ Maps.size D

theorem parD_empty : ParD (.map []) (fun _ => none) [] :=
  ⟨Maps.tidy_empty, fun _ _ => rfl, fun c _ => Maps.atKey_of_not_has (k := keyLit c) rfl _, fun x h => by simp at h, fun x h => by simp at h, fun x h => by simp at h, by simp⟩

theorem parD_put {D : DataW Unit} {par : Ct → Option Bs} {keys : List Ct} (h : ParD D par keys) (x : Ct) (hx : WfCt x) (p : Bs) :
    ∃ keys', ParD (D.put (keyLit x) (.lit (.string p))) (fun c => if x = c then some p else par c) keys' := by
  have hk := keyLit_isKey x hx
  by_cases hm : x ∈ keys
  · refine ⟨keys, h.tidy.put hk _, fun c hc => ?_, fun c hc => ?_, fun y hy => ?_, h.wf, fun y hy => ?_, ?_⟩
    · by_cases e : x = c
      · subst e; rw [Maps.has_put_same h.tidy.isMap hk, if_pos rfl]; rfl
      · rw [Maps.has_put_other (fun e' => e (keyLit_inj c x hc hx e').symm), if_neg e, h.has c hc]
    · by_cases e : x = c
      · subst e; rw [Maps.atKey_put_same h.tidy.isMap hk, if_pos rfl]; rfl
      · rw [Maps.atKey_put_other (fun e' => e (keyLit_inj c x hc hx e').symm), if_neg e, h.val c hc]
    · by_cases e : x = y
      · subst e; exact hm
      · rw [if_neg e] at hy; exact h.has_key y hy
    · by_cases e : x = y
      · rw [if_pos e]; rfl
      · rw [if_neg e]; exact h.back y hy
    · rw [Maps.size_put h.tidy]
      have hl := h.len
      split <;> omega
  · refine ⟨x :: keys, h.tidy.put hk _, fun c hc => ?_, fun c hc => ?_, fun y hy => ?_, fun y hy => ?_, fun y hy => ?_, ?_⟩
    · by_cases e : x = c
      · subst e; rw [Maps.has_put_same h.tidy.isMap hk, if_pos rfl]; rfl
      · rw [Maps.has_put_other (fun e' => e (keyLit_inj c x hc hx e').symm), if_neg e, h.has c hc]
    · by_cases e : x = c
      · subst e; rw [Maps.atKey_put_same h.tidy.isMap hk, if_pos rfl]; rfl
      · rw [Maps.atKey_put_other (fun e' => e (keyLit_inj c x hc hx e').symm), if_neg e, h.val c hc]
    · by_cases e : x = y
      · subst e; simp
      · rw [if_neg e] at hy; exact List.mem_cons_of_mem _ (h.has_key y hy)
    · rcases List.mem_cons.1 hy with rfl | hy
      · exact hx
      · exact h.wf y hy
    · by_cases e : x = y
      · rw [if_pos e]; rfl
      · rw [if_neg e]
        rcases List.mem_cons.1 hy with rfl | hy
        · exact absurd rfl e
        · exact h.back y hy
    · rw [Maps.size_put h.tidy]
      have hno : Maps.has D (keyLit x) = false := by
        rw [h.has x hx]
        cases hp : (par x).isSome
        · rfl
        · exact absurd (h.has_key x hp) hm
      rw [hno]
      have hl := h.len
      simp
      omega

/-- a map[gate.Category]string -/
structure ParMap (w : World) (m : Value) (par : Ct → Option Bs) (n : Nat) : Prop where
  look : ∀ w', Ext w w' → ∀ tax code, WfCt (tax, code) → (Instr.lookup 55 m (.agg #[.int .i64 tax, .string (B code)]) true).run Try.prog w' = .ok (.tuple #[.string (B ((par (tax, code)).getD [])), .bool (par (tax, code)).isSome]) w'
  len : ∀ w', Ext w w' → ∀ ty, (Builtin.len_ #[55] ty #[m]).run Try.prog w' = .ok (.int .i64 (n : Int)) w'
  keys : ∃ ks : List Ct, ks.length ≤ n ∧ ∀ x, (par x).isSome = true → x ∈ ks
  wf : ∀ c p, par c = some p → p.length ≤ maxLen

theorem ParMap.ext {w w' : World} {m : Value} {par : Ct → Option Bs} {n : Nat} (h : ParMap w m par n) (e : Ext w w') : ParMap w' m par n :=
  ⟨fun w2 e2 => h.look w2 (e.trans e2), fun w2 e2 => h.len w2 (e.trans e2), h.keys, h.wf⟩

theorem parMap_of {w : World} {b n : Nat} {D : DataW Unit} {par : Ct → Option Bs} {keys : List Ct} (h : w.ownsMap Try.prog 54 (plainElem Try.prog 9) b n D) (hs : ParD D par keys) (hp : ∀ c p, par c = some p → p.length ≤ maxLen) :
    ParMap w (.map (some b)) par (Maps.size D) := by
  refine ⟨fun w' e tax code hc => ?_, fun w' e ty => ?_, ⟨keys, hs.len, hs.has_key⟩, hp⟩
  · have h' := h.kept (ext_grown e) (by simp)
    obtain ⟨v, ps, hrun, hv⟩ := h'.look_ok law54 Try.underlying55 (zero9 w') (plainElem_string Try.underlying9 (by simp [maxLen])) (keyOfCt (tax, code) hc)
    rw [show ByteArray.empty.data.toList = [] from rfl, hs.val _ hc] at hv
    obtain ⟨x, rfl, hx, _⟩ := plainElem_str_inv hv
    simp at hx
    rw [hrun, hs.has _ hc, hx.1]
    rfl
  · have h' := h.kept (ext_grown e) (by simp)
    exact h'.len Try.underlying55 ty

theorem parMap_nil (w : World) : ParMap w (.map none) (fun _ => none) 0 := by
  refine ⟨fun w' e tax code hc => ?_, fun w' e ty => ?_, ⟨[], Nat.le_refl _, fun x h => by simp at h⟩, fun c p h => by cases h⟩
  · have := Maps.look_nil (w := w') true law54 Try.underlying55 (zero9 w') (keyOfCt (tax, code) hc)
    rw [this]
    rfl
  · exact Maps.len_nil Try.underlying55 ty
end Go.Proofs.Qxb6616329a
