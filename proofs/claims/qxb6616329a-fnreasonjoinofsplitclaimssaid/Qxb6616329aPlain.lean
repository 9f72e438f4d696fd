import Derived.Lib.Bytealg
set_option linter.unusedSimpArgs false
set_option linter.unusedVariables false
namespace Go.Proofs.Qxb6616329a

abbrev Bs := List UInt8

/-! ### domains -/
def lowN (n : Nat) : Nat := if 65 ≤ n ∧ n ≤ 90 then n + 32 else n
def low (b : UInt8) : UInt8 := if 65 ≤ b.toNat ∧ b.toNat ≤ 90 then b + 32 else b
def lower (l : Bs) : Bs := l.map low
def trimDot (l : Bs) : Bs := if l.getLast? = some 46 then l.dropLast else l
/-- what follows the first dot -/
def afterDot : Bs → Option Bs
  | [] => none
  | c :: r => if c = 46 then some r else afterDot r
/-- some suffix behind a dot -/
def sufHit (p : Bs → Bool) : Bs → Bool
  | [] => false
  | c :: r => (c == 46 && p r) || sufHit p r
def hasAny (doms : List (Bs → Bool)) (l : Bs) : Bool := doms.any (fun f => f l)
def short (p : Bs → Bool) (l : Bs) : Bool := decide (l.length ≤ 253) && p l
def domHit (doms : List (Bs → Bool)) (d : Bs) : Bool :=
  short (hasAny doms) (trimDot (lower d)) || sufHit (short (hasAny doms)) (trimDot (lower d))

theorem afterDot_lt : ∀ {l r : Bs}, afterDot l = some r → r.length < l.length
  | [], _, h => by simp [afterDot] at h
  | c :: l, r, h => by
    unfold afterDot at h
    split at h
    · injection h with h; subst h; simp
    · have := afterDot_lt h; simp; omega

theorem sufHit_cons (p : Bs → Bool) (c : UInt8) (r : Bs) : sufHit p (c :: r) = ((c == 46 && p r) || sufHit p r) := rfl
theorem afterDot_cons (c : UInt8) (r : Bs) : afterDot (c :: r) = if c = 46 then some r else afterDot r := rfl

theorem sufHit_after (p : Bs → Bool) : ∀ l : Bs, sufHit p l = match afterDot l with | none => false | some r => p r || sufHit p r
  | [] => rfl
  | c :: l => by
    rw [sufHit_cons, afterDot_cons]
    by_cases h : c = 46
    · subst h; simp
    · have h' : (c == 46) = false := by simpa using h
      rw [h', if_neg h, ← sufHit_after p l]
      simp

theorem sufHit_false (l : Bs) (p : Bs → Bool) (h : ∀ r, p r = false) : sufHit p l = false := by
  induction l with
  | nil => rfl
  | cons c l ih => simp [sufHit, h, ih]

theorem sufHit_congr (p q : Bs → Bool) : ∀ l : Bs, (∀ r, r.length < l.length → p r = q r) → sufHit p l = sufHit q l
  | [], _ => rfl
  | c :: l, h => by
    unfold sufHit
    rw [h l (by simp), sufHit_congr p q l (fun r hr => h r (by simp; omega))]

/-- the impl's walk over a chain of suffixes -/
def blk (p : Bs → Bool) (l : Bs) : Bool := p l || sufHit p l

theorem blk_step (p : Bs → Bool) (l : Bs) : blk p l = (p l || match afterDot l with | none => false | some r => blk p r) := by
  unfold blk
  rw [sufHit_after]

/-- 'matchable', with fuel -/
def mat : Nat → Bs → Option Bs
  | 0, _ => none
  | n + 1, l => if l.length ≤ 253 then some l else match afterDot l with | none => none | some r => mat n r

theorem mat_fuel : ∀ (n m : Nat) (l : Bs), l.length < n → l.length < m → mat n l = mat m l
  | 0, _, _, h, _ => by omega
  | _, 0, _, _, h => by omega
  | n + 1, m + 1, l, h, h' => by
    unfold mat
    split
    · rfl
    · cases ha : afterDot l with
      | none => rfl
      | some r =>
        have := afterDot_lt ha
        exact mat_fuel n m r (by omega) (by omega)

def matchable (l : Bs) : Option Bs := mat (l.length + 1) l

theorem matchable_short (l : Bs) (h : l.length ≤ 253) : matchable l = some l := by
  unfold matchable mat; rw [if_pos h]
theorem matchable_none (l : Bs) (h : ¬ l.length ≤ 253) (ha : afterDot l = none) : matchable l = none := by
  unfold matchable mat; rw [if_neg h, ha]
theorem matchable_some (l r : Bs) (h : ¬ l.length ≤ 253) (ha : afterDot l = some r) : matchable l = matchable r := by
  unfold matchable
  have := afterDot_lt ha
  rw [mat, if_neg h, ha]
  exact mat_fuel _ _ _ (by omega) (by omega)

/-- what the impl answers is what the model answers -/
theorem blk_model (p : Bs → Bool) : ∀ (n : Nat) (l : Bs), l.length < n → (match matchable l with | none => false | some r => blk p r) = (short p l || sufHit (short p) l)
  | 0, _, h => by omega
  | n + 1, l, h => by
    by_cases hs : l.length ≤ 253
    · rw [matchable_short l hs]
      show blk p l = _
      unfold blk
      have e : sufHit (short p) l = sufHit p l := sufHit_congr _ _ _ (fun r hr => by simp [short]; intro; omega)
      rw [e]
      simp [short, hs]
    · have e : short p l = false := by simp [short, hs]
      rw [e, Bool.false_or, sufHit_after]
      cases ha : afterDot l with
      | none => rw [matchable_none l hs ha]
      | some r =>
        rw [matchable_some l r hs ha]
        have := afterDot_lt ha
        exact blk_model p n r (by omega)

/-- what 'domainBlocked' answers -/
def domBlk (doms : List (Bs → Bool)) (d : Bs) : Bool := match matchable (trimDot (lower d)) with | none => false | some r => blk (hasAny doms) r

theorem domBlk_eq (doms : List (Bs → Bool)) (d : Bs) : domBlk doms d = domHit doms d :=
  blk_model _ _ _ (Nat.lt_succ_self _)

theorem domHit_false (doms : List (Bs → Bool)) (h : ∀ f ∈ doms, ∀ l, f l = false) (d : Bs) : domHit doms d = false := by
  have : ∀ l, short (hasAny doms) l = false := by
    intro l
    have : hasAny doms l = false := by
      unfold hasAny
      rw [List.any_eq_false]
      intro f hf
      simp [h f hf l]
    simp [short, this]
  unfold domHit
  rw [this, sufHit_false _ _ this]
  rfl

/-! ### categories -/
abbrev Ct := Int × Bs
structure Lk where
  tax : Int
  code : Bs
  parent : Bs
structure Cl where
  adom : List Bs
  tax : Int
  cat : List Bs

def inSets (cats : List (List Ct)) (c : Ct) : Bool := cats.any (fun s => s.any (fun x => x == c))
def parTo (acc : Option Bs) (c : Ct) (l : Lk) : Option Bs := if l.tax = c.1 ∧ l.code = c.2 then some l.parent else acc
def parentOf (links : List Lk) (c : Ct) : Option Bs := links.foldl (fun acc l => parTo acc c l) none

/-- the impl's walk: n looks -/
def catBlk (hs : Ct → Bool) (par : Ct → Option Bs) : Nat → Ct → Bool
  | 0, _ => false
  | n + 1, c => hs c || match par c with | none => false | some p => catBlk hs par n (c.1, p)

/-- the model's walk, keeping what it has passed -/
def catMod (hs : Ct → Bool) (par : Ct → Option Bs) : Nat → List Bs → Ct → Bool
  | 0, _, _ => false
  | n + 1, seen, c => if c.2 ∈ seen then false else if hs c then true else match par c with | none => false | some p => catMod hs par n (seen ++ [c.2]) (c.1, p)

/-- the k-th ancestor -/
def anc (par : Ct → Option Bs) : Nat → Ct → Option Ct
  | 0, c => some c
  | k + 1, c => match par c with | none => none | some p => anc par k (c.1, p)

theorem catBlk_iff (hs : Ct → Bool) (par : Ct → Option Bs) : ∀ (n : Nat) (c : Ct), catBlk hs par n c = true ↔ ∃ k, k < n ∧ ∃ d, anc par k c = some d ∧ hs d = true
  | 0, c => by simp [catBlk]
  | n + 1, c => by
    unfold catBlk
    rw [Bool.or_eq_true]
    constructor
    · rintro (h | h)
      · exact ⟨0, by omega, c, rfl, h⟩
      · cases hp : par c with
        | none => rw [hp] at h; cases h
        | some p =>
          rw [hp] at h
          obtain ⟨k, hk, d, hd, hh⟩ := (catBlk_iff hs par n (c.1, p)).1 h
          exact ⟨k + 1, by omega, d, by simp [anc, hp, hd], hh⟩
    · rintro ⟨k, hk, d, hd, hh⟩
      cases k with
      | zero => simp [anc] at hd; subst hd; exact .inl hh
      | succ k =>
        right
        cases hp : par c with
        | none => simp [anc, hp] at hd
        | some p =>
          simp [anc, hp] at hd
          exact (catBlk_iff hs par n (c.1, p)).2 ⟨k, by omega, d, hd, hh⟩

theorem anc_tax (par : Ct → Option Bs) : ∀ (k : Nat) (c d : Ct), anc par k c = some d → d.1 = c.1
  | 0, c, d, h => by simp [anc] at h; rw [h]
  | k + 1, c, d, h => by
    unfold anc at h
    cases hp : par c with
    | none => rw [hp] at h; cases h
    | some p => rw [hp] at h; exact anc_tax par k (c.1, p) d h

theorem anc_add (par : Ct → Option Bs) : ∀ (j k : Nat) (c : Ct), anc par (j + k) c = (anc par j c).bind (anc par k)
  | 0, k, c => by simp [anc]
  | j + 1, k, c => by
    rw [show j + 1 + k = (j + k) + 1 from by omega]
    unfold anc
    cases hp : par c with
    | none => rfl
    | some p => exact anc_add par j k _

theorem length_le_of_nodup_subset {α : Type} [DecidableEq α] : ∀ {l m : List α}, l.Nodup → (∀ x ∈ l, x ∈ m) → l.length ≤ m.length
  | [], m, _, _ => by simp
  | a :: l, m, hn, hs => by
    obtain ⟨h1, h2⟩ := List.nodup_cons.1 hn
    have := length_le_of_nodup_subset (l := l) (m := m.erase a) h2 (fun x hx => by
      have hne : x ≠ a := fun e => h1 (e ▸ hx)
      exact (List.mem_erase_of_ne hne).2 (hs x (by simp [hx])))
    rw [List.length_erase_of_mem (hs a (by simp))] at this
    have hp : 0 < m.length := List.length_pos_of_mem (hs a (by simp))
    simp
    omega

/-- the least ancestor that is held: those before it differ, and each has a parent -/
theorem least_anc (hs : Ct → Bool) (par : Ct → Option Bs) (c : Ct) : ∀ (n k : Nat), k ≤ n → (∃ d, anc par k c = some d ∧ hs d = true) →
    ∃ m, m ≤ k ∧ (∃ d, anc par m c = some d ∧ hs d = true) ∧ ∀ j, j < m → ¬ ∃ d, anc par j c = some d ∧ hs d = true
  | 0, k, hk, h => ⟨k, Nat.le_refl _, h, fun j hj => by omega⟩
  | n + 1, k, hk, h => by
    by_cases hex : ∃ j, j < k ∧ ∃ d, anc par j c = some d ∧ hs d = true
    · obtain ⟨j, hj, hd⟩ := hex
      obtain ⟨m, hm, r⟩ := least_anc hs par c n j (by omega) hd
      exact ⟨m, by omega, r⟩
    · exact ⟨k, Nat.le_refl _, h, fun j hj hd => hex ⟨j, hj, hd⟩⟩

theorem anc_upto (par : Ct → Option Bs) (c d : Ct) (m j : Nat) (hj : j ≤ m) (h : anc par m c = some d) : ∃ e, anc par j c = some e := by
  rw [show m = j + (m - j) from by omega, anc_add] at h
  cases he : anc par j c with
  | none => rw [he] at h; cases h
  | some e => exact ⟨e, rfl⟩

theorem anc_par (par : Ct → Option Bs) (c d e : Ct) (m j : Nat) (hj : j < m) (h : anc par m c = some d) (he : anc par j c = some e) : (par e).isSome = true := by
  rw [show m = j + ((m - j - 1) + 1) from by omega, anc_add, he] at h
  simp only [Option.bind_some, anc] at h
  cases hp : par e with
  | none => rw [hp] at h; cases h
  | some p => rfl

/-- the ancestors before the least held one differ from each other -/
theorem least_distinct (hs : Ct → Bool) (par : Ct → Option Bs) (c d : Ct) (m : Nat) (hd : anc par m c = some d) (hh : hs d = true)
    (hmin : ∀ j, j < m → ¬ ∃ e, anc par j c = some e ∧ hs e = true) (i j : Nat) (hij : i < j) (hj : j ≤ m) (x : Ct) (hi : anc par i c = some x) (hx : anc par j c = some x) : False := by
  have e : anc par (i + (m - j)) c = some d := by
    rw [anc_add, hi, Option.bind_some]
    rw [show m = j + (m - j) from by omega, anc_add, hx] at hd
    simpa using hd
  exact hmin (i + (m - j)) (by omega) ⟨d, e, hh⟩

/-- the list of the first m ancestors -/
def ancs (par : Ct → Option Bs) (c : Ct) (m : Nat) : List Ct := (List.range m).filterMap (fun j => anc par j c)

theorem ancs_facts (hs : Ct → Bool) (par : Ct → Option Bs) (c d : Ct) (m : Nat) (hd : anc par m c = some d) (hh : hs d = true)
    (hmin : ∀ j, j < m → ¬ ∃ e, anc par j c = some e ∧ hs e = true) : ∀ n, n ≤ m → (ancs par c n).length = n ∧ (ancs par c n).Nodup ∧ ∀ x ∈ ancs par c n, (par x).isSome = true ∧ ∃ j, j < n ∧ anc par j c = some x
  | 0, _ => by simp [ancs]
  | n + 1, hn => by
    obtain ⟨h1, h2, h3⟩ := ancs_facts hs par c d m hd hh hmin n (by omega)
    obtain ⟨e, he⟩ := anc_upto par c d m n (by omega) hd
    have es : ancs par c (n + 1) = ancs par c n ++ [e] := by
      unfold ancs
      rw [List.range_succ, List.filterMap_append]
      simp [he]
    rw [es]
    refine ⟨by simp [h1], ?_, ?_⟩
    · rw [List.nodup_append]
      refine ⟨h2, by simp, ?_⟩
      intro a ha b hb heq
      simp at hb
      subst hb
      subst heq
      obtain ⟨_, j, hj, hja⟩ := h3 a ha
      exact least_distinct hs par c d m hd hh hmin j n hj (by omega) a hja he
    · intro x hx
      rw [List.mem_append] at hx
      rcases hx with hx | hx
      · obtain ⟨p1, j, hj, hja⟩ := h3 x hx
        exact ⟨p1, j, by omega, hja⟩
      · simp at hx
        subst hx
        exact ⟨anc_par par c d x m n (by omega) hd he, n, by omega, he⟩

/-- n looks are enough where every category that has a parent lies among n - 1 keys -/
theorem catBlk_enough (hs : Ct → Bool) (par : Ct → Option Bs) (keys : List Ct) (hk : ∀ x, (par x).isSome = true → x ∈ keys) (n : Nat) (hn : keys.length < n) (c : Ct) :
    catBlk hs par n c = true ↔ ∃ k d, anc par k c = some d ∧ hs d = true := by
  rw [catBlk_iff]
  constructor
  · rintro ⟨k, _, h⟩; exact ⟨k, h⟩
  · rintro ⟨k, h⟩
    obtain ⟨m, _, ⟨d, hd, hh⟩, hmin⟩ := least_anc hs par c k k (Nat.le_refl _) h
    obtain ⟨h1, h2, h3⟩ := ancs_facts hs par c d m hd hh hmin m (Nat.le_refl _)
    have := length_le_of_nodup_subset h2 (fun x hx => hk x (h3 x hx).1)
    exact ⟨m, by omega, d, hd, hh⟩

theorem catMod_sound (hs : Ct → Bool) (par : Ct → Option Bs) : ∀ (n : Nat) (seen : List Bs) (c : Ct), catMod hs par n seen c = true → ∃ k d, anc par k c = some d ∧ hs d = true
  | 0, _, _, h => by simp [catMod] at h
  | n + 1, seen, c, h => by
    unfold catMod at h
    split at h
    · cases h
    · split at h
      · exact ⟨0, c, rfl, by assumption⟩
      · cases hp : par c with
        | none => rw [hp] at h; cases h
        | some p =>
          rw [hp] at h
          obtain ⟨k, d, hd, hh⟩ := catMod_sound hs par n _ _ h
          exact ⟨k + 1, d, by simp [anc, hp, hd], hh⟩

theorem catMod_complete (hs : Ct → Bool) (par : Ct → Option Bs) : ∀ (m n : Nat) (seen : List Bs) (c d : Ct), anc par m c = some d → hs d = true →
    (∀ j, j < m → ¬ ∃ e, anc par j c = some e ∧ hs e = true) → (∀ j e, j ≤ m → anc par j c = some e → e.2 ∉ seen) → m < n → catMod hs par n seen c = true
  | 0, n, seen, c, d, hd, hh, hmin, hse, hn => by
    simp [anc] at hd
    subst hd
    cases n with
    | zero => omega
    | succ n =>
      unfold catMod
      rw [if_neg (hse 0 c (by omega) rfl), if_pos hh]
  | m + 1, n, seen, c, d, hd, hh, hmin, hse, hn => by
    cases n with
    | zero => omega
    | succ n =>
      unfold catMod
      rw [if_neg (hse 0 c (by omega) rfl)]
      have h0 : ¬ hs c = true := fun h => hmin 0 (by omega) ⟨c, rfl, h⟩
      rw [if_neg h0]
      cases hp : par c with
      | none => simp [anc, hp] at hd
      | some p =>
        have hst : ∀ j, anc par (j + 1) c = anc par j (c.1, p) := fun j => by simp [anc, hp]
        rw [hst] at hd
        refine catMod_complete hs par m n _ _ d hd hh (fun j hj => by rw [← hst]; exact hmin (j + 1) (by omega)) (fun j e hj he => ?_) (by omega)
        rw [← hst] at he
        intro hmem
        rw [List.mem_append] at hmem
        rcases hmem with hmem | hmem
        · exact hse (j + 1) e (by omega) he hmem
        · simp at hmem
          have ht := anc_tax par _ _ _ he
          have : e = c := Prod.ext ht hmem
          subst this
          exact least_distinct hs par e d (m + 1) (by rw [hst]; exact hd) hh hmin 0 (j + 1) (by omega) (by omega) e rfl he

theorem catMod_iff (hs : Ct → Bool) (par : Ct → Option Bs) (keys : List Ct) (hk : ∀ x, (par x).isSome = true → x ∈ keys) (n : Nat) (hn : keys.length < n) (c : Ct) :
    catMod hs par n [] c = true ↔ ∃ k d, anc par k c = some d ∧ hs d = true := by
  constructor
  · exact catMod_sound hs par n [] c
  · rintro ⟨k, h⟩
    obtain ⟨m, _, ⟨d, hd, hh⟩, hmin⟩ := least_anc hs par c k k (Nat.le_refl _) h
    obtain ⟨h1, h2, h3⟩ := ancs_facts hs par c d m hd hh hmin m (Nat.le_refl _)
    have := length_le_of_nodup_subset h2 (fun x hx => hk x (h3 x hx).1)
    exact catMod_complete hs par m n [] c d hd hh hmin (fun _ _ _ _ => by simp) (by omega)

theorem catMod_eq_catBlk (hs : Ct → Bool) (par : Ct → Option Bs) (k1 k2 : List Ct) (h1 : ∀ x, (par x).isSome = true → x ∈ k1) (h2 : ∀ x, (par x).isSome = true → x ∈ k2)
    (n1 n2 : Nat) (hn1 : k1.length < n1) (hn2 : k2.length < n2) (c : Ct) : catMod hs par n1 [] c = catBlk hs par n2 c := by
  rw [Bool.eq_iff_iff, catMod_iff hs par k1 h1 n1 hn1, catBlk_enough hs par k2 h2 n2 hn2]

theorem foldl_par (links : List Lk) (c : Ct) : ∀ acc, (links.foldl (fun a l => parTo a c l) acc).isSome = true → acc.isSome = true ∨ c ∈ links.map (fun l => (l.tax, l.code)) := by
  induction links with
  | nil => intro acc h; exact .inl h
  | cons l links ih =>
    intro acc h
    rw [List.foldl_cons] at h
    rcases ih _ h with h | h
    · unfold parTo at h
      split at h
      · rename_i hc
        right
        simp [hc.1, hc.2]
      · exact .inl h
    · right; simp at h ⊢; right; exact h

theorem parentOf_keys (links : List Lk) (x : Ct) (h : (parentOf links x).isSome = true) : x ∈ links.map (fun l => (l.tax, l.code)) := by
  rcases foldl_par links x none h with h | h
  · cases h
  · exact h

def catHit (cats : List (List Ct)) (links : List Lk) (c : Ct) : Bool := catMod (inSets cats) (parentOf links) (links.length + 2) [] c

/-! ### the reason -/
def sDomain : Bs := [100, 111, 109, 97, 105, 110]
def sCategory : Bs := [99, 97, 116, 101, 103, 111, 114, 121]
def domAny (doms : List (Bs → Bool)) (cls : List Cl) : Bool := cls.any (fun c => c.adom.any (domHit doms))
def catAny (cats : List (List Ct)) (links : List Lk) (cls : List Cl) : Bool := cls.any (fun c => c.cat.any (fun x => catHit cats links (c.tax, x)))
def reasonOf (a b : Bool) : Bs := if a then sDomain else if b then sCategory else []
def reason (doms : List (Bs → Bool)) (cats : List (List Ct)) (links : List Lk) (cls : List Cl) : Bs := reasonOf (domAny doms cls) (catAny cats links cls)

theorem domAny_append (doms : List (Bs → Bool)) (a b : List Cl) : domAny doms (a ++ b) = (domAny doms a || domAny doms b) := by
  unfold domAny; rw [List.any_append]
theorem catAny_append (cats : List (List Ct)) (links : List Lk) (a b : List Cl) : catAny cats links (a ++ b) = (catAny cats links a || catAny cats links b) := by
  unfold catAny; rw [List.any_append]

def rank (s : Bs) : Int := if s = [99, 114, 101, 97, 116, 105, 118, 101] then 0 else if s = sDomain then 1 else if s = sCategory then 2 else 3
def firstReason (a b : Bs) : Bs := if rank b < rank a then b else a

theorem reason_split (doms : List (Bs → Bool)) (cats : List (List Ct)) (links : List Lk) (cls : List Cl) (n : Nat) :
    reason doms cats links cls = firstReason (reason doms cats links (cls.take n)) (reason doms cats links (cls.drop n)) := by
  have e1 := domAny_append doms (cls.take n) (cls.drop n)
  have e2 := catAny_append cats links (cls.take n) (cls.drop n)
  rw [List.take_append_drop] at e1 e2
  unfold reason
  rw [e1, e2]
  cases domAny doms (cls.take n) <;> cases domAny doms (cls.drop n) <;> cases catAny cats links (cls.take n) <;> cases catAny cats links (cls.drop n) <;> decide
end Go.Proofs.Qxb6616329a
