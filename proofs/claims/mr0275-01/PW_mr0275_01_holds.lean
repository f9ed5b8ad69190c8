import PyProof.Rows.All
import Wide.All
import OpenK.AllK
import Open.Tops
import Wide.FinOn
import KE.LcSums
import Lean
import PySem.Challenge.RW_mr0275_01
set_option Elab.async false
section
open PySem PySem.W PyProof.Rows
set_option Elab.async false
namespace Mine
def deep {α : Type} : Nat → List α → List α
  | 0, l => l
  | n + 1, l => (deep n l).map id
/-- a program of one statement, the given one's first; its names come by two thousand steps -/
structure Small where
  prog : Program
  first : prog.main.body = PySem.Challenge.pw_mr0275_01.main.body.take 1
def small : Small := by
  refine ⟨{ main := { body := ?b, scope := { kind := .module, names := deep 2000 [("__name__", .local)], isGenerator := false, isCoroutine := false, more := [] }, futureAnnotations := false, file := "/claim/cut.py", more := [] }, modules := [], parses := [], absent := [], harvested := [], given := { argv := [], stdin := [] } }, ?h⟩
  case h =>
    show ?b = _
    delta PySem.Challenge.pw_mr0275_01
    dsimp only [List.take]
    exact rfl
set_option maxRecDepth 100000 in
set_option maxHeartbeats 8000000 in
open_shared sm for small.prog leaving 0
section
local macro_rules | `(tactic| o_law) => `(tactic| refine holds_law (by unfold OpenLaw.wellSaid OpenRow.wellSaid OpenRow.partSaid looksOpen; (repeat' (with_reducible refine look_both ?_ ?_)); all_goals decide +kernel) fun said => ?_)
set_option maxRecDepth 300 in
set_option maxHeartbeats 8000000 in
open_top hd for PySem.Challenge.rw_mr0275_01
end
end Mine
end

section
open PySem PySem.W PyProof.Rows
set_option Elab.async false
namespace Mine

/-- a call of the text's def at f from a def's frame: what it wants, what it gives -/
def Calls (w : World) (mean : ExcName → Option Value) (mg mb : Str → Option Value) (f : Addr) (vs : List Value) (k : Nat) (news : List (Addr × Obj))
    (Back : Value → List (Addr × Obj) → Prop) : Prop :=
  ∀ (dp un : Nat) (gd : Option (List Code)) (cn : Str) (cs : Scope) (a : Addr) (ccd : Value) (cl : List (Str × Addr)) (outer : List Env) (A₀ : Around) (base h₀ : Heap) (L : Addr) (m : Str → Option Value) (s : Shared)
    (Q E : Value → Shared → Prop),
    Below A₀ base outer h₀ → Fr h₀ L s.heap m → (Mine.hd.heap_39 w.params).In h₀ → News h₀ L s.heap news →
    Top Mine.hd.view_39 (looseW Mine.hd.view_39 [Str.ofString "nsmallest", Str.ofString "nlargest"]) mean mg mb h₀ → cs.kind = .function →
    dp + k < recursionLimit → un + 8 * k < cLine →
    (∀ r news' h' tk', Fr h₀ L h' m → News h₀ L h' news' → Back r news' → Q r { s with heap := h', toks := tk' }) →
    wpAny (model PySem.Challenge.rw_mr0275_01.row.prog w) (ktrTop dp un gd cn cs L a ccd cl outer) (call (.ref f) vs) Q E s

end Mine
end

section
namespace Mine
/-- the moving up of an item: from pos towards st -/
def sdF {α : Type} (lt : α → α → Bool) (d new : α) (st : Nat) : Nat → List α → Nat → List α
  | 0, xs, pos => xs.set pos new
  | k + 1, xs, pos =>
    if st < pos then
      if lt new (xs.getD ((pos - 1) / 2) d) then sdF lt d new st k (xs.set pos (xs.getD ((pos - 1) / 2) d)) ((pos - 1) / 2) else xs.set pos new
    else xs.set pos new

/-- the better child of pos -/
def childF {α : Type} (lt : α → α → Bool) (d : α) (xs : List α) (pos : Nat) : Nat :=
  if 2 * pos + 2 < xs.length ∧ lt (xs.getD (2 * pos + 1) d) (xs.getD (2 * pos + 2) d) = false then 2 * pos + 2 else 2 * pos + 1

/-- the hole goes down to a leaf -/
def suF {α : Type} (lt : α → α → Bool) (d : α) : Nat → List α → Nat → List α × Nat
  | 0, xs, pos => (xs, pos)
  | k + 1, xs, pos =>
    if 2 * pos + 1 < xs.length then suF lt d k (xs.set pos (xs.getD (childF lt d xs pos) d)) (childF lt d xs pos) else (xs, pos)

/-- _siftdown -/
def siftDown {α : Type} (lt : α → α → Bool) (d : α) (xs : List α) (st pos : Nat) : List α := sdF lt d (xs.getD pos d) st pos xs pos
/-- _siftup -/
def siftUp {α : Type} (lt : α → α → Bool) (d : α) (xs : List α) (pos : Nat) : List α :=
  let r := suF lt d (xs.length - pos) xs pos
  siftDown lt d (r.1.set r.2 (xs.getD pos d)) pos r.2
end Mine
namespace Mine
/-- heapify: from the last parent down to the root -/
def heapFrom {α : Type} (lt : α → α → Bool) (d : α) : Nat → List α → List α
  | 0, xs => xs
  | k + 1, xs => heapFrom lt d k (siftUp lt d xs k)
/-- the root given up for an item -/
def heapRep {α : Type} (lt : α → α → Bool) (d : α) (xs : List α) (x : α) : List α := siftUp lt d (xs.set 0 x) 0
end Mine
end

section
namespace Mine
section
variable {α : Type} {lt : α → α → Bool} {d : α}

theorem gs {xs : List α} {i j : Nat} {a : α} (h : i < xs.length) : (xs.set i a).getD j d = if i = j then a else xs.getD j d := by
  rw [List.getD_eq_getElem?_getD, List.getD_eq_getElem?_getD, List.getElem?_set]
  split
  · rename_i e; subst e; simp [h]
  · rfl
theorem gD {xs : List α} {i : Nat} (h : i < xs.length) : xs.getD i d = xs[i] := by
  rw [List.getD_eq_getElem?_getD]; simp [h]

theorem swap_perm {xs : List α} {i j : Nat} {x : α} (hi : i < xs.length) (hj : j < xs.length) (hne : i ≠ j) : ((xs.set i (xs.getD j d)).set j x).Perm (xs.set i x) := by
  have h := List.set_set_perm (as := xs.set i x) (i := i) (j := j) (by simpa using hi) (by simpa using hj)
  have e1 : (xs.set i x)[i]'(by simpa using hi) = x := by simp
  have e2 : (xs.set i x)[j]'(by simpa using hj) = xs.getD j d := by rw [List.getElem_set_ne hne, gD hj]
  rw [e1, e2, List.set_set] at h
  exact h

theorem sdF_perm {new : α} {st : Nat} : ∀ (f : Nat) (xs : List α) (p : Nat), p < xs.length → (sdF lt d new st f xs p).Perm (xs.set p new)
  | 0, xs, p, _ => .refl _
  | f + 1, xs, p, h => by
    unfold sdF
    split
    · split
      · refine (sdF_perm f _ _ (by rw [List.length_set]; omega)).trans ?_
        exact swap_perm h (by omega) (by omega)
      · exact .refl _
    · exact .refl _
theorem siftDown_perm {xs : List α} {st p : Nat} (h : p < xs.length) : (siftDown lt d xs st p).Perm xs := by
  refine (sdF_perm _ _ _ h).trans (.of_eq ?_)
  rw [gD h, List.set_getElem_self]

theorem childF_lt {xs : List α} {p : Nat} (h : 2 * p + 1 < xs.length) : childF lt d xs p < xs.length ∧ p < childF lt d xs p ∧ (childF lt d xs p = 2 * p + 1 ∨ childF lt d xs p = 2 * p + 2) := by
  unfold childF
  split
  · rename_i c; exact ⟨c.1, by omega, .inr rfl⟩
  · exact ⟨h, by omega, .inl rfl⟩
theorem suF_perm {new : α} : ∀ (f : Nat) (xs : List α) (p : Nat), p < xs.length → ((suF lt d f xs p).1.set (suF lt d f xs p).2 new).Perm (xs.set p new) ∧ (suF lt d f xs p).2 < (suF lt d f xs p).1.length ∧ (suF lt d f xs p).1.length = xs.length
  | 0, xs, p, h => ⟨.refl _, h, rfl⟩
  | f + 1, xs, p, h => by
    unfold suF
    split
    · rename_i hc
      obtain ⟨c1, c2, c3⟩ := childF_lt (lt := lt) (d := d) hc
      obtain ⟨a, b, c⟩ := suF_perm (new := new) f (xs.set p (xs.getD (childF lt d xs p) d)) (childF lt d xs p) (by rw [List.length_set]; exact c1)
      refine ⟨a.trans (swap_perm h c1 (by omega)), b, by rw [c, List.length_set]⟩
    · exact ⟨.refl _, h, rfl⟩
theorem siftUp_perm {xs : List α} {p : Nat} (h : p < xs.length) : (siftUp lt d xs p).Perm xs := by
  unfold siftUp
  obtain ⟨a, b, c⟩ := suF_perm (lt := lt) (d := d) (new := xs.getD p d) (xs.length - p) xs p h
  refine (siftDown_perm (by rw [List.length_set]; exact b)).trans (a.trans (.of_eq ?_))
  rw [gD h, List.set_getElem_self]
theorem siftUp_length {xs : List α} {p : Nat} (h : p < xs.length) : (siftUp lt d xs p).length = xs.length := (siftUp_perm h).length_eq
theorem heapFrom_perm : ∀ (k : Nat) (xs : List α), k ≤ xs.length → (heapFrom lt d k xs).Perm xs
  | 0, _, _ => .refl _
  | k + 1, xs, h => (heapFrom_perm k _ (by rw [siftUp_length (by omega)]; omega)).trans (siftUp_perm (by omega))
theorem heapRep_perm {xs : List α} {x : α} (h : 0 < xs.length) : (heapRep lt d xs x).Perm (xs.set 0 x) := siftUp_perm (by rw [List.length_set]; exact h)

/-- the tree below st -/
inductive Desc (st : Nat) : Nat → Prop
  | self : Desc st st
  | left {p} : Desc st p → Desc st (2 * p + 1)
  | right {p} : Desc st p → Desc st (2 * p + 2)
theorem Desc.le {st p : Nat} (h : Desc st p) : st ≤ p := by induction h <;> omega
theorem Desc.par {st p : Nat} (h : Desc st p) (hp : st < p) : Desc st ((p - 1) / 2) := by
  cases h with
  | self => omega
  | left h => rename_i q; rw [show (2 * q + 1 - 1) / 2 = q by omega]; exact h
  | right h => rename_i q; rw [show (2 * q + 2 - 1) / 2 = q by omega]; exact h

/-- parents are not below their children -/
def Heaped (lt : α → α → Bool) (d : α) (st : Nat) (xs : List α) : Prop :=
  ∀ i, 0 < i → i < xs.length → st ≤ (i - 1) / 2 → lt (xs.getD i d) (xs.getD ((i - 1) / 2) d) = false

structure Strict (lt : α → α → Bool) : Prop where
  tr : ∀ a b c, lt b a = false → lt c b = false → lt c a = false
  as : ∀ a b, lt a b = true → lt b a = false

theorem Strict.irr (S : Strict lt) (a : α) : lt a a = false := by
  cases h : lt a a with
  | false => rfl
  | true => have e := S.as a a h; rw [h] at e; exact e

theorem set_heaped {new : α} {st p : Nat} {xs : List α} (hp : p < xs.length)
    (ha : ∀ i, 0 < i → i < xs.length → st ≤ (i - 1) / 2 → i ≠ p → (i - 1) / 2 ≠ p → lt (xs.getD i d) (xs.getD ((i - 1) / 2) d) = false)
    (hb : ∀ c, 0 < c → c < xs.length → (c - 1) / 2 = p → lt (xs.getD c d) new = false)
    (hr : st < p → lt new (xs.getD ((p - 1) / 2) d) = false) : Heaped lt d st (xs.set p new) := by
  intro i h0 hi hst
  rw [List.length_set] at hi
  rw [gs hp, gs hp]
  by_cases h1 : p = i
  · subst h1
    rw [if_pos rfl, if_neg (by omega)]
    exact hr (by omega)
  · rw [if_neg h1]
    by_cases h2 : p = (i - 1) / 2
    · rw [if_pos h2]; exact hb i h0 hi h2.symm
    · rw [if_neg h2]; exact ha i h0 hi hst (Ne.symm h1) (Ne.symm h2)

theorem sdF_heaped (S : Strict lt) {new : α} {st : Nat} : ∀ (f : Nat) (xs : List α) (p : Nat), p ≤ f → p < xs.length → Desc st p →
    (∀ i, 0 < i → i < xs.length → st ≤ (i - 1) / 2 → i ≠ p → (i - 1) / 2 ≠ p → lt (xs.getD i d) (xs.getD ((i - 1) / 2) d) = false) →
    (∀ c, 0 < c → c < xs.length → (c - 1) / 2 = p → lt (xs.getD c d) new = false) →
    (st < p → ∀ c, 0 < c → c < xs.length → (c - 1) / 2 = p → lt (xs.getD c d) (xs.getD ((p - 1) / 2) d) = false) →
    Heaped lt d st (sdF lt d new st f xs p)
  | 0, xs, p, h0, hp, hD, ha, hb, hc => by
    have := hD.le
    exact set_heaped hp ha hb (fun h => by omega)
  | f + 1, xs, p, h0, hp, hD, ha, hb, hc => by
    unfold sdF
    split
    · rename_i hst
      have hpar := hD.par hst
      have hle := hpar.le
      split
      · rename_i hlt
        have hq : (p - 1) / 2 < p := by omega
        refine sdF_heaped S f _ _ (by omega) (by rw [List.length_set]; omega) hpar ?_ ?_ ?_
        · intro i i0 il ist ine ipar
          rw [List.length_set] at il
          rw [gs hp, gs hp]
          by_cases h1 : p = i
          · subst h1; exact absurd rfl ipar
          · rw [if_neg h1]
            by_cases h2 : p = (i - 1) / 2
            · rw [if_pos h2]; exact hc hst i i0 il h2.symm
            · rw [if_neg h2]; exact ha i i0 il ist (Ne.symm h1) (Ne.symm h2)
        · intro c c0 cl cpar
          rw [List.length_set] at cl
          rw [gs hp]
          split
          · exact S.as _ _ hlt
          · rename_i hne
            have e := ha c c0 cl (by omega) (Ne.symm hne) (by omega)
            rw [cpar] at e
            exact S.tr _ _ _ (S.as _ _ hlt) e
        · intro hst2 c c0 cl cpar
          rw [List.length_set] at cl
          rw [gs hp, gs hp, if_neg (show ¬ p = ((p - 1) / 2 - 1) / 2 by omega)]
          have hpar2 := (hpar.par hst2).le
          have e2 := ha ((p - 1) / 2) (by omega) (by omega) hpar2 (by omega) (by omega)
          split
          · exact e2
          · rename_i hne
            have e := ha c c0 cl (by omega) (Ne.symm hne) (by omega)
            rw [cpar] at e
            exact S.tr _ _ _ e2 e
      · rename_i hlt
        exact set_heaped hp ha hb (fun _ => by simpa using hlt)
    · rename_i hst
      exact set_heaped hp ha hb (fun h => absurd h hst)

theorem childF_best (S : Strict lt) {xs : List α} {p : Nat} (h : 2 * p + 1 < xs.length) {c : Nat} (c0 : 0 < c) (cl : c < xs.length) (cp : (c - 1) / 2 = p) :
    lt (xs.getD c d) (xs.getD (childF lt d xs p) d) = false := by
  unfold childF
  have hc : c = 2 * p + 1 ∨ c = 2 * p + 2 := by omega
  split
  · rename_i hh
    rcases hc with rfl | rfl
    · exact hh.2
    · exact S.irr _
  · rename_i hh
    rcases hc with rfl | rfl
    · exact S.irr _
    · cases e : lt (xs.getD (2 * p + 1) d) (xs.getD (2 * p + 2) d) with
      | false => exact absurd ⟨cl, e⟩ hh
      | true => exact S.as _ _ e

theorem suF_heaped (S : Strict lt) {st : Nat} : ∀ (f : Nat) (xs : List α) (p : Nat), xs.length - p ≤ f → p < xs.length → Desc st p →
    (∀ i, 0 < i → i < xs.length → st ≤ (i - 1) / 2 → ((i - 1) / 2 ≠ p ∨ p ≠ st) → lt (xs.getD i d) (xs.getD ((i - 1) / 2) d) = false) →
    Desc st (suF lt d f xs p).2 ∧ ¬ 2 * (suF lt d f xs p).2 + 1 < xs.length ∧
    (∀ i, 0 < i → i < xs.length → st ≤ (i - 1) / 2 → ((i - 1) / 2 ≠ (suF lt d f xs p).2 ∨ (suF lt d f xs p).2 ≠ st) → lt ((suF lt d f xs p).1.getD i d) ((suF lt d f xs p).1.getD ((i - 1) / 2) d) = false)
  | 0, xs, p, h0, hp, hD, ha => by omega
  | f + 1, xs, p, h0, hp, hD, ha => by
    unfold suF
    split
    · rename_i hc
      obtain ⟨c1, c2, c3⟩ := childF_lt (lt := lt) (d := d) hc
      have hle := hD.le
      have hDc : Desc st (childF lt d xs p) := by
        rcases c3 with e | e <;> rw [e]
        · exact hD.left
        · exact hD.right
      have hpc : (childF lt d xs p - 1) / 2 = p := by omega
      have := suF_heaped S f (xs.set p (xs.getD (childF lt d xs p) d)) (childF lt d xs p) (by rw [List.length_set]; omega) (by rw [List.length_set]; exact c1) hDc ?_
      · rw [List.length_set] at this; exact this
      · intro i i0 il ist _
        rw [List.length_set] at il
        rw [gs hp, gs hp]
        by_cases h2 : p = (i - 1) / 2
        · rw [if_neg (show ¬ p = i by omega), if_pos h2]
          exact childF_best S hc i0 il h2.symm
        · rw [if_neg h2]
          by_cases h1 : p = i
          · subst h1
            rw [if_pos rfl]
            have e1 := ha p i0 il ist (.inl (Ne.symm h2))
            have e2 := ha (childF lt d xs p) (by omega) c1 (by omega) (.inr (by omega))
            rw [hpc] at e2
            exact S.tr _ _ _ e1 e2
          · rw [if_neg h1]; exact ha i i0 il ist (.inl (Ne.symm h2))
    · rename_i hc
      exact ⟨hD, hc, ha⟩

theorem siftUp_heaped (S : Strict lt) {xs : List α} {st : Nat} (hp : st < xs.length) (h : ∀ i, 0 < i → i < xs.length → st < (i - 1) / 2 → lt (xs.getD i d) (xs.getD ((i - 1) / 2) d) = false) : Heaped lt d st (siftUp lt d xs st) := by
  obtain ⟨a, b, c⟩ := suF_perm (lt := lt) (d := d) (new := xs.getD st d) (xs.length - st) xs st hp
  obtain ⟨hD, hleaf, he⟩ := suF_heaped (d := d) S (xs.length - st) xs st (Nat.le_refl _) hp .self (fun i i0 il ist ho => h i i0 il (by omega))
  unfold siftUp siftDown
  dsimp only
  generalize suF lt d (xs.length - st) xs st = r at *
  have hq : r.2 < (r.1.set r.2 (xs.getD st d)).length := by rw [List.length_set]; exact b
  refine sdF_heaped S _ _ _ (Nat.le_refl _) hq hD ?_ ?_ ?_
  · intro i i0 il ist h1 h2
    rw [List.length_set] at il
    rw [gs b, gs b, if_neg (Ne.symm h1), if_neg (Ne.symm h2)]
    exact he i i0 (by omega) ist (.inl h2)
  · intro c' c0 cl cp
    rw [List.length_set] at cl
    omega
  · intro _ c' c0 cl cp
    rw [List.length_set] at cl
    omega

theorem heapFrom_heaped (S : Strict lt) : ∀ (k : Nat) (xs : List α), k ≤ xs.length → Heaped lt d k xs → Heaped lt d 0 (heapFrom lt d k xs)
  | 0, _, _, h => h
  | k + 1, xs, hk, h => by
    unfold heapFrom
    refine heapFrom_heaped S k _ (by rw [siftUp_length (by omega)]; omega) (siftUp_heaped S (by omega) fun i i0 il ist => h i i0 il (by omega))
theorem heapify_heaped (S : Strict lt) (xs : List α) : Heaped lt d 0 (heapFrom lt d (xs.length / 2) xs) :=
  heapFrom_heaped S _ _ (by omega) fun i i0 il ist => by omega
theorem heapRep_heaped (S : Strict lt) {xs : List α} {x : α} (h0 : 0 < xs.length) (h : Heaped lt d 0 xs) : Heaped lt d 0 (heapRep lt d xs x) := by
  refine siftUp_heaped S (by rw [List.length_set]; exact h0) fun i i0 il ist => ?_
  rw [List.length_set] at il
  rw [gs h0, gs h0, if_neg (by omega), if_neg (by omega)]
  exact h i i0 il (by omega)
theorem heaped_root (S : Strict lt) {xs : List α} (h : Heaped lt d 0 xs) : ∀ i, i < xs.length → lt (xs.getD i d) (xs.getD 0 d) = false := by
  intro i
  induction i using Nat.strongRecOn with
  | ind i ih =>
    intro il
    by_cases h0 : i = 0
    · subst h0; exact S.irr _
    · exact S.tr _ _ _ (ih ((i - 1) / 2) (by omega) (by omega)) (h i (by omega) il (by omega))
end
end Mine
end

section
open PySem PySem.W PyProof.Rows
set_option Elab.async false
namespace Mine

/-- the order of int tuples -/
def lexLt : List Int → List Int → Bool
  | [], [] => false
  | [], _ :: _ => true
  | _ :: _, [] => false
  | a :: as, b :: bs => if a = b then lexLt as bs else decide (a < b)

section
variable {prog : Program} {w : World} {A : Around} {E : Value → Shared → Prop} {s : Shared}

theorem tup_lt_tree {R : PySem.Fin → Shared → Prop} {a b : Addr} {xs ys : List Value} {ks ls : List Int} (ha : IsTup s.heap a xs.toArray) (hb : IsTup s.heap b ys.toArray) (hi : IntsAre xs ks) (hj : IntsAre ys ls)
    (h : R (.done (.ret (.bool (lexLt ks ls)))) s) : wpAny (model prog w) A (Builtin.«tuple.__lt__» ⟨[.ref a, .ref b], []⟩) R E s := by
  show wpAny _ _ (isInstance (.ref b) (.type "tuple") >>= _) _ _ s
  refine wpAny_bind (wpAny_isInstance (T := "tuple") (U := "tuple") (b := true) hb.typeIs (by rw [isSubtype_type]; kernel_rfl) ?_)
  rw [if_neg (by decide)]
  refine wpAny_bind (tupleItemsOf_ ha (wpAny_bind (tupleItemsOf_ hb ?_)))
  have hlx := hi.length
  have hly := hj.length
  refine wpAny_bind (wpAny_forIn_list _ (fun rest b s' => b.1 = none ∧ s' = s ∧ ∃ xs' ys' ks' ls', rest = xs'.zip ys' ∧ IntsAre xs' ks' ∧ IntsAre ys' ls' ∧ lexLt ks' ls' = lexLt ks ls ∧ (xs'.length < ys'.length ↔ xs.length < ys.length)) _ ?_ ?_ _ _ ⟨rfl, rfl, xs, ys, ks, ls, rfl, hi, hj, rfl, Iff.rfl⟩)
  · rintro ⟨x, y⟩ rest b' s' ⟨hb0, rfl, xs', ys', ks', ls', hz, hx, hy, he, hsz⟩
    cases hx with
    | nil => simp at hz
    | cons i ti hx' =>
      cases hy with
      | nil => simp at hz
      | cons j tj hy' =>
        simp only [List.zip_cons_cons, List.cons.injEq, Prod.mk.injEq] at hz
        obtain ⟨⟨rfl, rfl⟩, rfl⟩ := hz
        refine wpAny_bind (wpAny_eqBool_int ?_)
        rw [show lexLt (i :: _) (j :: _) = if i = j then lexLt _ _ else decide (i < j) from rfl] at he
        by_cases hij : i = j
        · rw [if_pos hij] at he
          have hb2 : (i == j) = true := by simp [hij]
          rw [hb2]
          simp only [Bool.not_true, Bool.false_eq_true, if_false]
          exact wpAny_pure ⟨rfl, rfl, _, _, _, _, rfl, hx', hy', he, by simpa using hsz⟩
        · rw [if_neg hij] at he
          have hb2 : (i == j) = false := by simp [hij]
          rw [hb2]
          simp only [Bool.not_false, if_true]
          refine wpAny_bind (wpAny_rule (wpAny_bind (wpAny_lt_int ?_)))
          refine wpAny_bind (wpAny_pure (wpAny_pure ?_))
          exact wpAny_pure (by rw [he]; exact h)
  · rintro ⟨b1, b2⟩ s' ⟨hb0, rfl, xs', ys', ks', ls', hz, hx, hy, he, hsz⟩
    simp only at hb0
    subst hb0
    refine wpAny_pure ?_
    show R (.done (.ret (.bool (decide (xs.toArray.size < ys.toArray.size))))) _
    have e : decide (xs.toArray.size < ys.toArray.size) = lexLt ks ls := by
      simp only [List.size_toArray]
      rw [← he]
      cases hx with
      | nil =>
        cases hy with
        | nil => simp only [lexLt, decide_eq_false_iff_not]; rw [← hsz]; simp
        | cons j tj hy' => simp only [lexLt, decide_eq_true_eq]; rw [← hsz]; simp
      | cons i ti hx' =>
        cases hy with
        | nil => simp only [lexLt, decide_eq_false_iff_not]; rw [← hsz]; simp
        | cons j tj hy' => simp at hz
    rw [e]
    exact h

theorem tup_lt {Q : Value → Shared → Prop} {a b : Addr} {xs ys : List Value} {ks ls : List Int} (ha : IsTup s.heap a xs.toArray) (hb : IsTup s.heap b ys.toArray) (hi : IntsAre xs ks) (hj : IntsAre ys ls)
    (hu : A.units < cLine) (h : Q (.bool (lexLt ks ls)) s) : wpAny (model prog w) A (compareOp .Lt (.ref a) (.ref b)) Q E s :=
  cmp_ofLt (wpAny_richCompare_same_room ha.typeIs hb.typeIs PySem.F.slot_tuple_lt
    (wpAny_call_entry PySem.F.slot_tuple_lt ha.typeIs PySem.F.entry_tuple_lt (tup_lt_tree ha hb hi hj ⟨_, rfl, by simp, h⟩) (PySem.F.args_tuple_lt_2 _ _)) hu)
end
end Mine
end

section
open PySem PySem.W PyProof.Rows
set_option Elab.async false
namespace Mine

abbrev Item := Value × List Int
def d0 : Item := (.none, [])

/-- the ledger bears a tuple of ints at v -/
def TupIn (news : List (Addr × Obj)) (v : Value) (ks : List Int) : Prop :=
  ∃ a xs n, v = .ref a ∧ (a, ({ cls := .type "tuple", data := .seq (List.toArray xs) n } : Obj)) ∈ news ∧ IntsAre xs ks

theorem TupIn.mono {news news' : List (Addr × Obj)} {v : Value} {ks : List Int} (h : TupIn news v ks) (hs : ∀ p ∈ news, p ∈ news') : TupIn news' v ks :=
  let ⟨a, xs, n, e, hm, hi⟩ := h; ⟨a, xs, n, e, hs _ hm, hi⟩

section
variable {prog : Program} {w : World} {A : Around} {E : Value → Shared → Prop} {s : Shared} {h₀ : Heap} {L D : Addr} {m : Str → Option Value} {news : List (Addr × Obj)} {ps : List Item} {n : Nat} {k : Int} {t u : Tok} {x y : Item}

theorem pair_lt {Q : Value → Shared → Prop} (N : News h₀ L s.heap news) (hx : TupIn news x.1 x.2) (hy : TupIn news y.1 y.2) (hu : A.units < cLine) (h : Q (.bool (lexLt x.2 y.2)) s) :
    wpAny (model prog w) A (compareOp .Lt x.1 y.1) Q E s := by
  obtain ⟨a, xs, na, ea, ma, ia⟩ := hx
  obtain ⟨b, ys, nb, eb, mb, ib⟩ := hy
  rw [ea, eb]
  exact tup_lt ⟨_, (N _ ma).1, rfl, _, rfl⟩ ⟨_, (N _ mb).1, rfl, _, rfl⟩ ia ib hu h

theorem pair_get (h1 : k < ps.length) (h0 : 0 ≤ k) : (ps.map Prod.fst)[k.toNat]? = some (ps.getD k.toNat d0).1 := by
  have : k.toNat < ps.length := by omega
  simp [this]

theorem pair_item {Q : Value → Shared → Prop} {value slice : Expr} (N : News h₀ L s.heap news) (hm : (D, listOf (ps.map Prod.fst).toArray n) ∈ news) (h0 : 0 ≤ k) (h1 : k < ps.length) (h2 : k < 2 ^ 63) (h : Q (ps.getD k.toNat d0).1 s)
    (hs : subscripted slice false (.ref D) (.int k u) = operate [.ref D, .int k u] (getItem (.ref D) (.int k u)) := by with_unfolding_all rfl) :
    wpAny (model prog w) A (subscriptTail value slice (.ref D) (.int k u)) Q E s :=
  have hl : s.heap.IsList D (ps.map Prod.fst).toArray := PySem.IsL.isList (n := n) (N _ hm).1
  tail_any hl.typeIs slot_list_getitem.lookup (wpAny_getItem_list hl h0 h2 (by rw [List.getElem?_toArray]; exact pair_get h1 h0) h) hs

theorem pair_set {Q : Unit → Shared → Prop} {rest : List (Addr × Obj)} (F : Fr h₀ L s.heap m) (N : News h₀ L s.heap ((D, listOf (ps.map Prod.fst).toArray n) :: rest)) (hne : ∀ p ∈ rest, p.1 ≠ D) (h0 : 0 ≤ k) (h1 : k < ps.length) (h2 : k < 2 ^ 63)
    (h : ∀ h', Fr h₀ L h' m → News h₀ L h' ((D, listOf ((ps.set k.toNat x).map Prod.fst).toArray n) :: rest) → Q () { s with heap := h' }) :
    wpAny (model prog w) A (setItem (.ref D) (.int k t) x.1) Q E s := by
  have z := N (D, listOf (ps.map Prod.fst).toArray n) (.head _)
  refine ki_setAt z.1 h0 h2 (by simpa using h1) (h _ (F.change (Heap.SameBut.update ..) z.2.1 z.2.2) (ki_turn (pre := []) _ N (fun _ h => nomatch h) hne ?_ ?_))
  · apply Array.toList_inj.mp
    simp [List.map_set]
  · simp
end

/-- a while by an invariant -/
def WEnd (I : Nat → Shared → Prop) (n : Nat) (s : Shared) : Prop := ∃ n', n' < n ∧ I n' s
def WPost (I : Nat → Shared → Prop) (n : Nat) (Q : Flow → Shared → Prop) (f : Flow) (s : Shared) : Prop :=
  match f with
  | .next => WEnd I n s
  | .cont => WEnd I n s
  | .brk => Q .next s
  | .ret v => Q (.ret v) s
def Both (b : Bool) (T F : Prop) : Prop := if b = true then T else F
theorem Both.intro {b : Bool} {T F : Prop} (t : b = true → T) (f : b = false → F) : Both b T F := by
  unfold Both
  cases b with
  | true => exact t rfl
  | false => exact f rfl
theorem Both.tt {T F : Prop} (t : T) : Both true T F := t
theorem Both.ff {T F : Prop} (t : F) : Both false T F := t

section
variable {prog : Program} {w : World} {A : Around} {E : Value → Shared → Prop} {env : Env} {test : PySem.Expr} {body orelse : List Stmt} {Q : Flow → Shared → Prop}
theorem while_inv (I : Nat → Shared → Prop) (hE : PassesOwn (model prog w) A env E)
    (turn : ∀ n s, I n s → wpAny (model prog w) A (isTrue test env (eval test env)) (fun b s₂ => Both b (wpAny (model prog w) A (execs body env) (WPost I n Q) E s₂) (wpAny (model prog w) A (execs orelse env) Q E s₂)) E s) :
    ∀ n s, I n s → WhlRest prog w A E env test body orelse Q 0 s := by
  intro n
  induction n using Nat.strongRecOn with
  | ind n ih =>
    intro s hI
    refine whl_turn (k := 0) hE ?_
    refine wpAny_mono (turn n s hI) (fun b s₂ h => ?_) fun _ _ e => e
    unfold Both at h
    unfold WhlIf
    cases b with
    | false => simpa using h
    | true =>
      simp only [if_true] at h ⊢
      refine wpAny_mono h (fun f s₃ hf => ?_) fun _ _ e => e
      cases f with
      | next => obtain ⟨n', hn, hI'⟩ := hf; exact ih n' hn s₃ hI'
      | cont => obtain ⟨n', hn, hI'⟩ := hf; exact ih n' hn s₃ hI'
      | brk => exact hf
      | ret v => exact hf
end
end Mine
namespace Mine
/-- the walk halts here -/
def Hold (P : Prop) : Prop := P
theorem Hold.mk {P : Prop} (h : Hold P) : P := h
theorem Hold.in {P : Prop} (h : P) : Hold P := h
end Mine
end

section
open PySem PySem.W PyProof.Rows
set_option Elab.async false
namespace Mine
def ltMax (x y : Item) : Bool := lexLt y.2 x.2
def ltMin (x y : Item) : Bool := lexLt x.2 y.2

/-- the end of a turn: the state is again one that the word tells -/
def TurnEnd {σ : Type} (g : Heap) (L : Addr) (mp : σ → Str → Option Value) (led : σ → List (Addr × Obj)) (J : σ → Prop) (s₁ : Shared) (s₂ : Shared) : Prop :=
  ∃ (c : σ) (h : Heap) (tk : Nat) (m' : Str → Option Value) (news' : List (Addr × Obj)), s₂ = { s₁ with heap := h, toks := tk } ∧ Fr g L h m' ∧ News g L h news' ∧ (∀ z, m' z = mp c z) ∧ (∀ p ∈ led c, p ∈ news') ∧ J c
theorem TurnEnd.intro {σ : Type} {g : Heap} {L : Addr} {mp : σ → Str → Option Value} {led : σ → List (Addr × Obj)} {J : σ → Prop} {s₁ : Shared} (c : σ) {h : Heap} {tk : Nat} {m' : Str → Option Value} {news' : List (Addr × Obj)}
    (F : Fr g L h m') (N : News g L h news') (hm : ∀ z, m' z = mp c z) (hn : ∀ p ∈ led c, p ∈ news') (hJ : J c) : TurnEnd g L mp led J s₁ { s₁ with heap := h, toks := tk } := ⟨c, h, tk, m', news', rfl, F, N, hm, hn, hJ⟩
theorem TurnEnd.intro' {σ : Type} {g : Heap} {L : Addr} {mp : σ → Str → Option Value} {led : σ → List (Addr × Obj)} {J : σ → Prop} {s₁ : Shared} (c : (Str → Option Value) → σ) {h : Heap} {tk : Nat} {m' : Str → Option Value} {news' : List (Addr × Obj)}
    (F : Fr g L h m') (N : News g L h news') (hm : ∀ z, m' z = mp (c m') z) (hn : ∀ p ∈ led (c m'), p ∈ news') (hJ : J (c m')) : TurnEnd g L mp led J s₁ { s₁ with heap := h, toks := tk } := ⟨c m', h, tk, m', news', rfl, F, N, hm, hn, hJ⟩
def TurnPost {σ : Type} (g : Heap) (L : Addr) (mp : σ → Str → Option Value) (led : σ → List (Addr × Obj)) (J : σ → Prop) (s₁ : Shared) (Q : Flow → Shared → Prop) (f : Flow) (s₂ : Shared) : Prop :=
  match f with
  | .next => TurnEnd g L mp led J s₁ s₂
  | .cont => TurnEnd g L mp led J s₁ s₂
  | .brk => Q .next s₂
  | .ret v => Q (.ret v) s₂

section
variable {prog : Program} {w : World} {A : Around} {E : Value → Shared → Prop} {s : Shared} {env : Env} {test : PySem.Expr} {body orelse : List Stmt} {Q : Flow → Shared → Prop} {g : Heap} {L : Addr} {m₀ : Str → Option Value} {news₀ : List (Addr × Obj)}
theorem while_st {σ : Type} (mp : (Str → Option Value) → σ → Str → Option Value) (led : σ → List (Addr × Obj)) (meas : σ → Nat) (J : σ → Prop) (c₀ : (Str → Option Value) → σ)
    (F : Fr g L s.heap m₀) (N : News g L s.heap news₀) (hm : ∀ z, m₀ z = mp m₀ (c₀ m₀) z) (hl : ∀ p ∈ led (c₀ m₀), p ∈ news₀) (hJ : J (c₀ m₀)) (hE : PassesOwn (model prog w) A env E)
    (turn : ∀ c h tk, J c → Fr g L h (mp m₀ c) → News g L h (led c) → wpAny (model prog w) A (isTrue test env (eval test env))
      (fun b s₂ => Both b (wpAny (model prog w) A (execs body env) (TurnPost g L (mp m₀) led (fun c' => J c' ∧ meas c' < meas c) s Q) E s₂) (wpAny (model prog w) A (execs orelse env) Q E s₂)) E { s with heap := h, toks := tk }) :
    Hold (WhlRest prog w A E env test body orelse Q 0 s) := by
  refine while_inv (fun n s' => ∃ c h tk, s' = { s with heap := h, toks := tk } ∧ Fr g L h (mp m₀ c) ∧ News g L h (led c) ∧ J c ∧ meas c = n) hE ?_ (meas (c₀ m₀)) s ?_
  · rintro n s' ⟨c, h, tk, rfl, F', N', hJ', rfl⟩
    refine wpAny_mono (turn c h tk hJ' F' N') (fun b s₂ hb => ?_) fun _ _ e => e
    unfold Both at hb ⊢
    cases b with
    | false => simpa using hb
    | true =>
      simp only [if_true] at hb ⊢
      have fin : ∀ s₃, TurnEnd g L (mp m₀) led (fun c' => J c' ∧ meas c' < meas c) s s₃ → WEnd (fun n s' => ∃ c h tk, s' = { s with heap := h, toks := tk } ∧ Fr g L h (mp m₀ c) ∧ News g L h (led c) ∧ J c ∧ meas c = n) (meas c) s₃ := by
        rintro s₃ ⟨c', h', tk', m', news', rfl, F2, N2, hm', hn', hJ2, hlt⟩
        have e : m' = mp m₀ c' := funext hm'
        subst e
        exact ⟨meas c', hlt, c', h', tk', rfl, F2, fun p hp => N2 p (hn' p hp), hJ2, rfl⟩
      refine wpAny_mono hb (fun f s₃ hf => ?_) fun _ _ e => e
      cases f with
      | next => exact fin _ hf
      | cont => exact fin _ hf
      | brk => exact hf
      | ret v => exact hf
  · have e : m₀ = mp m₀ (c₀ m₀) := funext hm
    exact ⟨c₀ m₀, s.heap, s.toks, rfl, e ▸ F, fun p hp => N p (hl p hp), hJ, rfl⟩
end

theorem half_of {q : Nat} (h : 0 < q) : ((q : Int) - 1).fdiv (2 ^ Int.toNat 1) = (((q - 1) / 2 : Nat) : Int) := by
  have e : ((q : Int) - 1) = ((q - 1 : Nat) : Int) := by omega
  have e2 : (2 : Int) ^ Int.toNat 1 = ((2 : Nat) : Int) := rfl
  rw [e, e2, Int.fdiv_eq_ediv_of_nonneg _ (by omega), ← Int.natCast_ediv]
theorem rshift_half {prog : Program} {w : World} {A : Around} {E : Value → Shared → Prop} {s : Shared} {q : Nat} {t u : Tok} {Q : Value → Shared → Prop} (hq : 0 < q) (h : Q (.int (((q - 1) / 2 : Nat) : Int) s.toks) { s with toks := s.toks + 1 }) :
    wpAny (model prog w) A (binaryOp .RShift (.int ((q : Int) - 1) t) (.int 1 u)) Q E s :=
  rshift_int (by omega) (by rw [half_of hq]; exact h)
end Mine
end

section
open PySem PySem.W PyProof.Rows
set_option Elab.async false
set_option pp.maxSteps 20000
set_option pp.deepTerms false
set_option pp.deepTerms.threshold 6
namespace Mine
theorem getD_mem {ps : List Item} {i : Nat} (h : i < ps.length) : ps.getD i d0 ∈ ps := by
  simp [List.getD, h]
theorem sdF_up {α : Type} {lt : α → α → Bool} {d new : α} {st f : Nat} {xs : List α} {pos : Nat} (h0 : pos ≤ f) (h1 : st < pos) (h2 : lt new (xs.getD ((pos - 1) / 2) d) = true) :
    ∃ f', (pos - 1) / 2 ≤ f' ∧ sdF lt d new st f xs pos = sdF lt d new st f' (xs.set pos (xs.getD ((pos - 1) / 2) d)) ((pos - 1) / 2) := by
  cases f with
  | zero => omega
  | succ f => exact ⟨f, by omega, by simp only [sdF, if_pos h1, if_pos h2]⟩
theorem sdF_stay {α : Type} {lt : α → α → Bool} {d new : α} {st f : Nat} {xs : List α} {pos : Nat} (h2 : ¬ (st < pos ∧ lt new (xs.getD ((pos - 1) / 2) d) = true)) : sdF lt d new st f xs pos = xs.set pos new := by
  cases f with
  | zero => rfl
  | succ f =>
    simp only [sdF]
    split
    · rename_i h
      rw [if_neg (fun e => h2 ⟨h, e⟩)]
    · rfl
theorem tup_at {rest : List (Addr × Obj)} {p : Addr × Obj} {xs : List Item} {i : Nat} (hT : ∀ q ∈ xs, TupIn rest q.1 q.2) (hi : i < xs.length) : TupIn (p :: rest) (xs.getD i d0).1 (xs.getD i d0).2 :=
  (hT _ (getD_mem hi)).mono fun _ h => .tail _ h
theorem tups_set {rest : List (Addr × Obj)} {xs : List Item} {x : Item} {i : Nat} (h : ∀ q ∈ xs, TupIn rest q.1 q.2) (hx : TupIn rest x.1 x.2) : ∀ q ∈ xs.set i x, TupIn rest q.1 q.2 := by
  intro q hq
  rcases List.mem_or_eq_of_mem_set hq with h' | rfl
  · exact h q h'
  · exact hx
section
local macro_rules | `(tactic| walk_at "subscriptTail") => `(tactic| ((with_reducible show wpAny _ _ (subscriptTail _ _ (Value.ref _) (Value.int _ _)) _ _ _); refine' pair_item ?N ?m ?a ?b ?c ?_ ?s; (case N => k_asm); (case m => k_mem); (case a => omega); (case b => omega); (case c => omega); (case s => with_unfolding_all rfl)))
local macro_rules | `(tactic| walk_at "exec While Compare cons nil") => `(tactic| (refine whl_start 0 (Hold.mk ?_)))
local macro_rules | `(tactic| walk_at "binaryOp RShift int int") => `(tactic| (refine rshift_half (by omega) ?_))
local macro_rules | `(tactic| walk_at "setItem ref int") => `(tactic| (refine' pair_set ?F ?N ?ne ?a ?b ?c ?_; (case F => k_asm); (case N => k_asm); (case ne => assumption); (case a => omega); (case b => omega); (case c => omega); intro h' F' N'))
local macro_rules | `(tactic| walk_at "compareOp Lt") => `(tactic| (refine' pair_lt ?N ?x ?y ?u ?_; (case N => k_asm); (case u => ktr_units); (case x => exact tup_at (by assumption) (by omega)); (case y => exact tup_at (by assumption) (by omega))))
local macro_rules | `(tactic| walk_at "TurnPost") => `(tactic| (dsimp only [TurnPost]))
set_option maxRecDepth 100000 in
set_option maxHeartbeats 8000000 in
theorem siftdown_max_ok (w mean mg mb) (D : Addr) (ps : List Item) (n : Nat) (st p : Nat) (tx ty : Tok) (rest) (hne : ∀ q ∈ rest, q.1 ≠ D) (hT : ∀ q ∈ ps, TupIn rest q.1 q.2) (h1 : st ≤ p) (h2 : p < ps.length) (h3 : ps.length < 64) :
    Calls w mean mg mb 63 [.ref D, .int st tx, .int p ty] 1 ((D, listOf (ps.map Prod.fst).toArray n) :: rest)
      (fun r news' => r = .none ∧ news' = (D, listOf ((siftDown ltMax d0 ps st p).map Prod.fst).toArray n) :: rest) := by
  unfold Calls
  k_fill
  intro dp un gd cn cs a ccd cl outer A₀ base h₀ L m s Q E B F X N T hk hd hu hret
  w_on
  w_strict (
  refine wpAny_call ?_
  k_dflt ktr_enter
  k_steps)
  (rename Fr _ _ _ _ => F1)
  (rename News _ _ _ _ => N1)
  refine while_st (σ := List Item × Nat × Tok × (Str → Option Value)) (fun m₀ c z => if z = Str.ofString "pos" then some (.int c.2.1 c.2.2.1) else if z = Str.ofString "parentpos" then c.2.2.2 z else if z = Str.ofString "parent" then c.2.2.2 z else m₀ z)
    (fun c => (D, listOf (c.1.map Prod.fst).toArray n) :: rest) (fun c => c.2.1) (fun c => c.1.length = ps.length ∧ (∀ q ∈ c.1, TupIn rest q.1 q.2) ∧ c.2.1 < ps.length ∧ ∃ f, c.2.1 ≤ f ∧ sdF ltMax d0 (ps.getD p d0) st f c.1 c.2.1 = siftDown ltMax d0 ps st p)
    (fun m₀ => (ps, p, ty, m₀)) F1 N1 ?hm ?hl ?hJ ?hE ?turn
  case hl => exact fun _ h => h
  case hJ => exact ⟨rfl, hT, h2, p, Nat.le_refl _, rfl⟩
  case hE => first | passes_own | with_unfolding_all passes_own
  case hm =>
    intro z
    dsimp only
    by_cases hz : z = Str.ofString "pos"
    · subst hz; rfl
    · simp only [hz, if_false, ite_self]
  case turn =>
    rintro ⟨xs, q, tq, uu⟩ h9 tk9 ⟨hl9, hT9, hq9, f9, hf9, he9⟩ F9 N9
    dsimp only at F9 N9 hl9 hT9 hq9 hf9 he9 ⊢
    w_strict (k_steps)
    refine Both.intro (fun hb => ?_) (fun hb => ?_)
    · simp only [decide_eq_true_eq] at hb
      w_strict (k_steps)
      all_goals simp only [Int.toNat_natCast] at *
      · (rename lexLt _ _ = true => hc)
        (rename Fr _ _ _ _ => F2)
        (rename News _ _ _ _ => N2)
        obtain ⟨f', hf', e'⟩ := sdF_up (lt := ltMax) (d := d0) (new := ps.getD p d0) (st := st) (xs := xs) hf9 (by omega) hc
        refine TurnEnd.intro' (fun m' => (xs.set q (xs.getD ((q - 1) / 2) d0), (q - 1) / 2, ?tt, m')) F2 N2 ?hm ?hn ?hJ
        case hn => exact fun _ h => h
        case hJ => exact ⟨⟨by simpa using hl9, tups_set hT9 (hT9 _ (getD_mem (by omega))), by dsimp only; omega, f', hf', e' ▸ he9⟩, by dsimp only; omega⟩
        case hm =>
          intro z
          dsimp only
          by_cases hz : z = Str.ofString "pos"
          · subst hz; rfl
          · by_cases hz2 : z = Str.ofString "parentpos"
            · exact ((if_neg hz).trans (if_pos hz2)).symm
            · by_cases hz3 : z = Str.ofString "parent"
              · exact ((if_neg hz).trans ((if_neg hz2).trans (if_pos hz3))).symm
              · simp only [hz, hz2, hz3, if_false]
      · (rename lexLt _ _ = false => hc)
        refine hret _ _ _ _ (by assumption) (by assumption) ⟨rfl, ?_⟩
        rw [← he9, sdF_stay (fun h => by have h2 := h.2; unfold ltMax at h2; rw [hc] at h2; cases h2)]
    · simp only [decide_eq_false_iff_not] at hb
      w_strict (k_steps)
      all_goals simp only [Int.toNat_natCast] at *
      refine hret _ _ _ _ (by assumption) (by assumption) ⟨rfl, ?_⟩
      rw [← he9, sdF_stay (fun h => by omega)]
set_option maxRecDepth 100000 in
set_option maxHeartbeats 8000000 in
theorem siftdown_ok (w mean mg mb) (D : Addr) (ps : List Item) (n : Nat) (st p : Nat) (tx ty : Tok) (rest) (hne : ∀ q ∈ rest, q.1 ≠ D) (hT : ∀ q ∈ ps, TupIn rest q.1 q.2) (h1 : st ≤ p) (h2 : p < ps.length) (h3 : ps.length < 64) :
    Calls w mean mg mb 49 [.ref D, .int st tx, .int p ty] 1 ((D, listOf (ps.map Prod.fst).toArray n) :: rest)
      (fun r news' => r = .none ∧ news' = (D, listOf ((siftDown ltMin d0 ps st p).map Prod.fst).toArray n) :: rest) := by
  unfold Calls
  k_fill
  intro dp un gd cn cs a ccd cl outer A₀ base h₀ L m s Q E B F X N T hk hd hu hret
  w_on
  w_strict (
  refine wpAny_call ?_
  k_dflt ktr_enter
  k_steps)
  (rename Fr _ _ _ _ => F1)
  (rename News _ _ _ _ => N1)
  refine while_st (σ := List Item × Nat × Tok × (Str → Option Value)) (fun m₀ c z => if z = Str.ofString "pos" then some (.int c.2.1 c.2.2.1) else if z = Str.ofString "parentpos" then c.2.2.2 z else if z = Str.ofString "parent" then c.2.2.2 z else m₀ z)
    (fun c => (D, listOf (c.1.map Prod.fst).toArray n) :: rest) (fun c => c.2.1) (fun c => c.1.length = ps.length ∧ (∀ q ∈ c.1, TupIn rest q.1 q.2) ∧ c.2.1 < ps.length ∧ ∃ f, c.2.1 ≤ f ∧ sdF ltMin d0 (ps.getD p d0) st f c.1 c.2.1 = siftDown ltMin d0 ps st p)
    (fun m₀ => (ps, p, ty, m₀)) F1 N1 ?hm ?hl ?hJ ?hE ?turn
  case hl => exact fun _ h => h
  case hJ => exact ⟨rfl, hT, h2, p, Nat.le_refl _, rfl⟩
  case hE => first | passes_own | with_unfolding_all passes_own
  case hm =>
    intro z
    dsimp only
    by_cases hz : z = Str.ofString "pos"
    · subst hz; rfl
    · simp only [hz, if_false, ite_self]
  case turn =>
    rintro ⟨xs, q, tq, uu⟩ h9 tk9 ⟨hl9, hT9, hq9, f9, hf9, he9⟩ F9 N9
    dsimp only at F9 N9 hl9 hT9 hq9 hf9 he9 ⊢
    w_strict (k_steps)
    refine Both.intro (fun hb => ?_) (fun hb => ?_)
    · simp only [decide_eq_true_eq] at hb
      w_strict (k_steps)
      all_goals simp only [Int.toNat_natCast] at *
      · (rename lexLt _ _ = true => hc)
        (rename Fr _ _ _ _ => F2)
        (rename News _ _ _ _ => N2)
        obtain ⟨f', hf', e'⟩ := sdF_up (lt := ltMin) (d := d0) (new := ps.getD p d0) (st := st) (xs := xs) hf9 (by omega) hc
        refine TurnEnd.intro' (fun m' => (xs.set q (xs.getD ((q - 1) / 2) d0), (q - 1) / 2, ?tt, m')) F2 N2 ?hm ?hn ?hJ
        case hn => exact fun _ h => h
        case hJ => exact ⟨⟨by simpa using hl9, tups_set hT9 (hT9 _ (getD_mem (by omega))), by dsimp only; omega, f', hf', e' ▸ he9⟩, by dsimp only; omega⟩
        case hm =>
          intro z
          dsimp only
          by_cases hz : z = Str.ofString "pos"
          · subst hz; rfl
          · by_cases hz2 : z = Str.ofString "parentpos"
            · exact ((if_neg hz).trans (if_pos hz2)).symm
            · by_cases hz3 : z = Str.ofString "parent"
              · exact ((if_neg hz).trans ((if_neg hz2).trans (if_pos hz3))).symm
              · simp only [hz, hz2, hz3, if_false]
      · (rename lexLt _ _ = false => hc)
        refine hret _ _ _ _ (by assumption) (by assumption) ⟨rfl, ?_⟩
        rw [← he9, sdF_stay (fun h => by have h2 := h.2; unfold ltMin at h2; rw [hc] at h2; cases h2)]
    · simp only [decide_eq_false_iff_not] at hb
      w_strict (k_steps)
      all_goals simp only [Int.toNat_natCast] at *
      refine hret _ _ _ _ (by assumption) (by assumption) ⟨rfl, ?_⟩
      rw [← he9, sdF_stay (fun h => by omega)]
end
end Mine
end

section
open PySem PySem.W PyProof.Rows
set_option Elab.async false
namespace Mine
section
variable {w : World} {mean : ExcName → Option Value} {mg mb : Str → Option Value} {f : Addr} {vs : List Value} {k : Nat} {news : List (Addr × Obj)} {Back : Value → List (Addr × Obj) → Prop}
theorem Calls.use (C : Calls w mean mg mb f vs k news Back) {dp un : Nat} {gd : Option (List Code)} {cn : Str} {cs : Scope} {a : Addr} {ccd : Value} {cl : List (Str × Addr)} {outer : List Env} {A₀ : Around} {base h₀ : Heap} {L : Addr} {m : Str → Option Value} {s : Shared}
    {Q E : Value → Shared → Prop} (B : Below A₀ base outer h₀) (F : Fr h₀ L s.heap m) (X : (Mine.hd.heap_39 w.params).In h₀) (N : News h₀ L s.heap news)
    (T : Top Mine.hd.view_39 (looseW Mine.hd.view_39 [Str.ofString "nsmallest", Str.ofString "nlargest"]) mean mg mb h₀) (hk : cs.kind = .function)
    (hd : dp + k < recursionLimit) (hu : un + 8 * k < cLine)
    (h : ∀ r news' h' tk', Fr h₀ L h' m → News h₀ L h' news' → Back r news' → Q r { s with heap := h', toks := tk' }) :
    wpAny (model PySem.Challenge.rw_mr0275_01.row.prog w) (ktrTop dp un gd cn cs L a ccd cl outer) (call (.ref f) vs) Q E s :=
  C dp un gd cn cs a ccd cl outer A₀ base h₀ L m s Q E B F X N T hk hd hu h
end
theorem suF_step {α : Type} {lt : α → α → Bool} {d : α} {f : Nat} {xs : List α} {pos c n : Nat} (hn : xs.length = n) (h0 : n - pos ≤ f) (h1 : 2 * pos + 1 < n) (hc : childF lt d xs pos = c) (hl : pos < c) :
    ∃ f', n - c ≤ f' ∧ suF lt d f xs pos = suF lt d f' (xs.set pos (xs.getD c d)) c := by
  subst hn
  cases f with
  | zero => omega
  | succ f => exact ⟨f, by omega, by simp only [suF, if_pos h1, hc]⟩
theorem suF_stop {α : Type} {lt : α → α → Bool} {d : α} {f : Nat} {xs : List α} {pos : Nat} (h1 : ¬ 2 * pos + 1 < xs.length) : suF lt d f xs pos = (xs, pos) := by
  cases f with
  | zero => rfl
  | succ f => simp only [suF, if_neg h1]
theorem child_right {α : Type} {lt : α → α → Bool} {d : α} {xs : List α} {pos : Nat} (h1 : 2 * pos + 2 < xs.length) (h2 : lt (xs.getD (2 * pos + 1) d) (xs.getD (2 * pos + 2) d) = false) : childF lt d xs pos = 2 * pos + 2 := if_pos ⟨h1, h2⟩
theorem child_left {α : Type} {lt : α → α → Bool} {d : α} {xs : List α} {pos : Nat} (h : 2 * pos + 2 < xs.length → lt (xs.getD (2 * pos + 1) d) (xs.getD (2 * pos + 2) d) = true) : childF lt d xs pos = 2 * pos + 1 :=
  if_neg fun e => by rw [h e.1] at e; exact absurd e.2 (by decide)
theorem toNat_a (q : Nat) : (2 * (q : Int) + 1).toNat = 2 * q + 1 := by omega
theorem toNat_b (q : Nat) : (2 * (q : Int) + 1 + 1).toNat = 2 * q + 2 := by omega
theorem cast_a (q : Nat) : (2 * (q : Int) + 1) = ((2 * q + 1 : Nat) : Int) := by omega
theorem cast_b (q : Nat) : (2 * (q : Int) + 1 + 1) = ((2 * q + 2 : Nat) : Int) := by omega
theorem pair_len {prog : Program} {w : World} {A : Around} {E : Value → Shared → Prop} {s : Shared} {h₀ : Heap} {L D : Addr} {news : List (Addr × Obj)} {ps : List Item} {n : Nat} {Q : Value → Shared → Prop}
    (N : News h₀ L s.heap news) (hm : (D, listOf (ps.map Prod.fst).toArray n) ∈ news) (hl : ps.length < 64) (h : Q (.int ps.length (s.toks + 1)) { s with toks := s.toks + 1 + 1 }) :
    wpAny (model prog w) A (call (.builtin "len") [.ref D]) Q E s :=
  len_list (PySem.IsL.isList (n := n) (N _ hm).1) (by simp; omega) (by simpa using h)
end Mine
end

section
open PySem PySem.W PyProof.Rows
set_option Elab.async false
namespace Mine
/-! taking facts apart with the goal closed: each of these costs one copy of the goal in the proof, where a pattern costs one a constructor -/
section
variable {w : World} {mean : ExcName → Option Value} {mg mb : Str → Option Value} {f : Addr} {vs : List Value} {k : Nat} {news n0 : List (Addr × Obj)} {r0 : Value} {dp un : Nat} {gd : Option (List Code)} {cn : Str} {cs : Scope} {a : Addr} {ccd : Value} {cl : List (Str × Addr)} {outer : List Env} {A₀ : Around} {base h₀ : Heap} {L : Addr} {m : Str → Option Value} {s : Shared} {Q E : Value → Shared → Prop}
theorem Calls.useRN (C : Calls w mean mg mb f vs k news (fun r n => r = r0 ∧ n = n0)) (B : Below A₀ base outer h₀) (F : Fr h₀ L s.heap m) (X : (Mine.hd.heap_39 w.params).In h₀) (N : News h₀ L s.heap news)
    (T : Top Mine.hd.view_39 (looseW Mine.hd.view_39 [Str.ofString "nsmallest", Str.ofString "nlargest"]) mean mg mb h₀) (hk : cs.kind = .function)
    (hd : dp + k < recursionLimit) (hu : un + 8 * k < cLine)
    (h : ∀ h' tk', Fr h₀ L h' m → News h₀ L h' n0 → Q r0 { s with heap := h', toks := tk' }) :
    wpAny (model PySem.Challenge.rw_mr0275_01.row.prog w) (ktrTop dp un gd cn cs L a ccd cl outer) (call (.ref f) vs) Q E s :=
  C.use B F X N T hk hd hu (by rintro r n h' tk' F' N' ⟨rfl, rfl⟩; exact h h' tk' F' N')
theorem Calls.useNR (C : Calls w mean mg mb f vs k news (fun r n => n = n0 ∧ r = r0)) (B : Below A₀ base outer h₀) (F : Fr h₀ L s.heap m) (X : (Mine.hd.heap_39 w.params).In h₀) (N : News h₀ L s.heap news)
    (T : Top Mine.hd.view_39 (looseW Mine.hd.view_39 [Str.ofString "nsmallest", Str.ofString "nlargest"]) mean mg mb h₀) (hk : cs.kind = .function)
    (hd : dp + k < recursionLimit) (hu : un + 8 * k < cLine)
    (h : ∀ h' tk', Fr h₀ L h' m → News h₀ L h' n0 → Q r0 { s with heap := h', toks := tk' }) :
    wpAny (model PySem.Challenge.rw_mr0275_01.row.prog w) (ktrTop dp un gd cn cs L a ccd cl outer) (call (.ref f) vs) Q E s :=
  C.use B F X N T hk hd hu (by rintro r n h' tk' F' N' ⟨rfl, rfl⟩; exact h h' tk' F' N')
theorem Calls.useNI {x : Int} (C : Calls w mean mg mb f vs k news (fun r n => n = n0 ∧ ∃ t, r = .int x t)) (B : Below A₀ base outer h₀) (F : Fr h₀ L s.heap m) (X : (Mine.hd.heap_39 w.params).In h₀) (N : News h₀ L s.heap news)
    (T : Top Mine.hd.view_39 (looseW Mine.hd.view_39 [Str.ofString "nsmallest", Str.ofString "nlargest"]) mean mg mb h₀) (hk : cs.kind = .function)
    (hd : dp + k < recursionLimit) (hu : un + 8 * k < cLine)
    (h : ∀ h' tk' t, Fr h₀ L h' m → News h₀ L h' n0 → Q (.int x t) { s with heap := h', toks := tk' }) :
    wpAny (model PySem.Challenge.rw_mr0275_01.row.prog w) (ktrTop dp un gd cn cs L a ccd cl outer) (call (.ref f) vs) Q E s :=
  C.use B F X N T hk hd hu (by rintro r n h' tk' F' N' ⟨rfl, t, rfl⟩; exact h h' tk' t F' N')
theorem Calls.useL {P : List Value → Prop} (C : Calls w mean mg mb f vs k news (fun r n => ∃ D2 vs' c2, r = .ref D2 ∧ n = (D2, listOf (List.toArray vs') c2) :: n0 ∧ P vs')) (B : Below A₀ base outer h₀) (F : Fr h₀ L s.heap m) (X : (Mine.hd.heap_39 w.params).In h₀) (N : News h₀ L s.heap news)
    (T : Top Mine.hd.view_39 (looseW Mine.hd.view_39 [Str.ofString "nsmallest", Str.ofString "nlargest"]) mean mg mb h₀) (hk : cs.kind = .function)
    (hd : dp + k < recursionLimit) (hu : un + 8 * k < cLine)
    (h : ∀ D2 vs' c2 h' tk', Fr h₀ L h' m → News h₀ L h' ((D2, listOf (List.toArray vs') c2) :: n0) → P vs' → Q (.ref D2) { s with heap := h', toks := tk' }) :
    wpAny (model PySem.Challenge.rw_mr0275_01.row.prog w) (ktrTop dp un gd cn cs L a ccd cl outer) (call (.ref f) vs) Q E s :=
  C.use B F X N T hk hd hu (by rintro r n h' tk' F' N' ⟨D2, vs', c2, rfl, rfl, hp⟩; exact h D2 vs' c2 h' tk' F' N' hp)
end
theorem st5 {α β γ δ ε : Type} {P : α × β × γ × δ × ε → Prop} (h : ∀ a b c d e, P (a, b, c, d, e)) (z) : P z := h _ _ _ _ _
theorem st7 {α β γ δ ε ζ η : Type} {P : α × (β × γ) × (δ × ε) × ζ × η → Prop} (h : ∀ a b c d e f g, P (a, (b, c), (d, e), f, g)) (z) : P z := h _ _ _ _ _ _ _
theorem and7 {a b c d e f g G : Prop} (h : a → b → c → d → e → f → g → G) (x : a ∧ b ∧ c ∧ d ∧ e ∧ f ∧ g) : G := h x.1 x.2.1 x.2.2.1 x.2.2.2.1 x.2.2.2.2.1 x.2.2.2.2.2.1 x.2.2.2.2.2.2
theorem ex2 {α β : Type} {p : α → β → Prop} {G : Prop} (x : ∃ a b, p a b) (h : ∀ a b, p a b → G) : G := by obtain ⟨a, b, y⟩ := x; exact h a b y
theorem elim11 {α1 α2 α3 α4 α5 α6 α7 α8 α9 α10 α11 β γ δ ε ζ : Type} {nwF : α1 → α2 → α3 → α4 → α5 → α6 → α7 → α8 → α9 → α10 → α11 → β} {mF : α1 → α2 → α3 → α4 → α5 → α6 → α7 → α8 → α9 → α10 → α11 → γ} {C : α1 → α2 → α3 → α4 → α5 → α6 → α7 → α8 → α9 → α10 → α11 → β → Prop} {H : Prop} {G : β → γ → δ → ε → ζ → Prop}
    (k : ∀ a1 a2 a3 a4 a5 a6 a7 a8 a9 a10 a11 d e z, H → C a1 a2 a3 a4 a5 a6 a7 a8 a9 a10 a11 (nwF a1 a2 a3 a4 a5 a6 a7 a8 a9 a10 a11) → G (nwF a1 a2 a3 a4 a5 a6 a7 a8 a9 a10 a11) (mF a1 a2 a3 a4 a5 a6 a7 a8 a9 a10 a11) d e z) : ∀ (m₁ : γ) (nw : β) (d : δ) (e : ε) (z : ζ), H → (∃ a1 a2 a3 a4 a5 a6 a7 a8 a9 a10 a11, nw = nwF a1 a2 a3 a4 a5 a6 a7 a8 a9 a10 a11 ∧ m₁ = mF a1 a2 a3 a4 a5 a6 a7 a8 a9 a10 a11 ∧ C a1 a2 a3 a4 a5 a6 a7 a8 a9 a10 a11 nw) → G nw m₁ d e z := by
  rintro m₁ nw d e z h ⟨a1, a2, a3, a4, a5, a6, a7, a8, a9, a10, a11, rfl, rfl, hc⟩
  exact k a1 a2 a3 a4 a5 a6 a7 a8 a9 a10 a11 d e z h hc
theorem done11 {α1 α2 α3 α4 α5 α6 α7 α8 α9 α10 α11 β γ : Type} {nwF : α1 → α2 → α3 → α4 → α5 → α6 → α7 → α8 → α9 → α10 → α11 → β} {mF : α1 → α2 → α3 → α4 → α5 → α6 → α7 → α8 → α9 → α10 → α11 → γ} {C : α1 → α2 → α3 → α4 → α5 → α6 → α7 → α8 → α9 → α10 → α11 → β → Prop} {A : γ → Prop} {B : β → Prop} {G : Prop}
    (k : ∀ a1 a2 a3 a4 a5 a6 a7 a8 a9 a10 a11, A (mF a1 a2 a3 a4 a5 a6 a7 a8 a9 a10 a11) → B (nwF a1 a2 a3 a4 a5 a6 a7 a8 a9 a10 a11) → C a1 a2 a3 a4 a5 a6 a7 a8 a9 a10 a11 (nwF a1 a2 a3 a4 a5 a6 a7 a8 a9 a10 a11) → G) : ∀ (m₁ : γ) (nw : β), A m₁ → B nw → (∃ a1 a2 a3 a4 a5 a6 a7 a8 a9 a10 a11, nw = nwF a1 a2 a3 a4 a5 a6 a7 a8 a9 a10 a11 ∧ m₁ = mF a1 a2 a3 a4 a5 a6 a7 a8 a9 a10 a11 ∧ C a1 a2 a3 a4 a5 a6 a7 a8 a9 a10 a11 nw) → G := by
  rintro m₁ nw x y ⟨a1, a2, a3, a4, a5, a6, a7, a8, a9, a10, a11, rfl, rfl, hc⟩
  exact k a1 a2 a3 a4 a5 a6 a7 a8 a9 a10 a11 x y hc
end Mine
end

section
open PySem PySem.W PyProof.Rows
set_option Elab.async false
set_option pp.maxSteps 20000
set_option pp.deepTerms false
set_option pp.deepTerms.threshold 6
namespace Mine
section
local macro_rules | `(tactic| walk_at "subscriptTail") => `(tactic| ((with_reducible show wpAny _ _ (subscriptTail _ _ (Value.ref _) (Value.int _ _)) _ _ _); refine' pair_item ?N ?m ?a ?b ?c ?_ ?s; (case N => k_asm); (case m => k_mem); (case a => omega); (case b => omega); (case c => omega); (case s => with_unfolding_all rfl)))
local macro_rules | `(tactic| walk_at "exec While Compare cons nil") => `(tactic| (refine whl_start 0 (Hold.mk ?_)))
local macro_rules | `(tactic| walk_at "setItem ref int") => `(tactic| (refine' pair_set ?F ?N ?ne ?a ?b ?c ?_; (case F => k_asm); (case N => k_asm); (case ne => assumption); (case a => omega); (case b => omega); (case c => omega); intro h' F' N'))
local macro_rules | `(tactic| walk_at "compareOp Lt") => `(tactic| (refine' pair_lt ?N ?x ?y ?u ?_; (case N => k_asm); (case u => ktr_units); (case x => exact tup_at (by assumption) (by omega)); (case y => exact tup_at (by assumption) (by omega))))
local macro_rules | `(tactic| walk_at "TurnPost") => `(tactic| (dsimp only [TurnPost]))
local macro_rules | `(tactic| walk_at "call builtin:len") => `(tactic| ((with_reducible show wpAny _ _ (call (Value.builtin _) [Value.ref _]) _ _ _); refine' pair_len ?N ?m ?c ?_; (case N => k_asm); (case m => k_mem); (case c => omega)))

set_option maxRecDepth 100000 in
set_option maxHeartbeats 8000000 in
theorem siftup_max_ok (w mean mg mb) (D : Addr) (ps : List Item) (n : Nat) (p : Nat) (ty : Tok) (rest) (hne : ∀ q ∈ rest, q.1 ≠ D) (hT : ∀ q ∈ ps, TupIn rest q.1 q.2) (h2 : p < ps.length) (h3 : ps.length < 64) :
    Calls w mean mg mb 70 [.ref D, .int p ty] 2 ((D, listOf (ps.map Prod.fst).toArray n) :: rest)
      (fun r news' => r = .none ∧ news' = (D, listOf ((siftUp ltMax d0 ps p).map Prod.fst).toArray n) :: rest) := by
  unfold Calls
  k_fill
  intro dp un gd cn cs a ccd cl outer A₀ base h₀ L m s Q E B F X N T hk hd hu hret
  w_on
  w_strict (
  refine wpAny_call ?_
  k_dflt ktr_enter
  k_steps)
  (rename Fr _ _ _ _ => F1)
  (rename News _ _ _ _ => N1)
  refine while_st (σ := List Item × Nat × Tok × Tok × (Str → Option Value)) (fun m₀ c z => if z = Str.ofString "pos" then some (.int c.2.1 c.2.2.1) else if z = Str.ofString "childpos" then some (.int (2 * (c.2.1 : Int) + 1) c.2.2.2.1) else if z = Str.ofString "rightpos" then c.2.2.2.2 z else m₀ z)
    (fun c => (D, listOf (c.1.map Prod.fst).toArray n) :: rest) (fun c => ps.length - c.2.1) (fun c => c.1.length = ps.length ∧ (∀ q ∈ c.1, TupIn rest q.1 q.2) ∧ p ≤ c.2.1 ∧ c.2.1 < ps.length ∧ ∃ f, ps.length - c.2.1 ≤ f ∧ suF ltMax d0 f c.1 c.2.1 = suF ltMax d0 (ps.length - p) ps p)
    (fun m₀ => (ps, p, ty, ?tc, m₀)) F1 N1 ?hm ?hl ?hJ ?hE ?turn
  case hl => exact fun _ h => h
  case hJ => exact ⟨rfl, hT, Nat.le_refl _, h2, _, Nat.le_refl _, rfl⟩
  case hE => first | passes_own | with_unfolding_all passes_own
  case hm =>
    intro z
    dsimp only
    by_cases hz : z = Str.ofString "pos"
    · subst hz; rfl
    · by_cases hz2 : z = Str.ofString "childpos"
      · subst hz2; rfl
      · simp only [hz, hz2, if_false, ite_self]
  case turn =>
    rintro ⟨xs, q, tq, tc, uu⟩ h9 tk9 ⟨hl9, hT9, hp9, hq9, f9, hf9, he9⟩ F9 N9
    dsimp only at F9 N9 hl9 hT9 hp9 hq9 hf9 he9 ⊢
    w_strict (k_steps)
    refine Both.intro (fun hb => ?_) (fun hb => ?_)
    · simp only [decide_eq_true_eq] at hb
      w_strict (k_steps)
      all_goals simp only [Int.toNat_natCast, toNat_a, toNat_b] at *
      · (rename lexLt _ _ = true => hc)
        (rename Fr _ _ _ _ => F2)
        (rename News _ _ _ _ => N2)
        have hch : childF ltMax d0 xs q = 2 * q + 1 := child_left (fun _ => hc)
        obtain ⟨f', hf', e'⟩ := suF_step hl9 hf9 (by omega) hch (by omega)
        refine TurnEnd.intro' (fun m' => (xs.set q (xs.getD (2 * q + 1) d0), 2 * q + 1, ?t1a, ?t2a, m')) F2 N2 ?hm ?hn ?hJ
        case hn => exact fun _ h => h
        case hJ => exact ⟨⟨by simpa using hl9, tups_set hT9 (hT9 _ (getD_mem (by omega))), by dsimp only; omega, by dsimp only; omega, f', hf', e' ▸ he9⟩, by dsimp only; omega⟩
        case hm =>
          intro z
          dsimp only
          by_cases hz : z = Str.ofString "pos"
          · subst hz; exact congrArg (fun i => some (Value.int i _)) (cast_a q)
          · by_cases hz2 : z = Str.ofString "childpos"
            · subst hz2; exact congrArg (fun i => some (Value.int (2 * i + 1) _)) (cast_a q)
            · by_cases hz3 : z = Str.ofString "rightpos"
              · exact ((if_neg hz).trans ((if_neg hz2).trans (if_pos hz3))).symm
              · simp only [hz, hz2, hz3, if_false]
      · (rename lexLt _ _ = false => hc)
        (rename Fr _ _ _ _ => F2)
        (rename News _ _ _ _ => N2)
        have hch : childF ltMax d0 xs q = 2 * q + 2 := child_right (by omega) hc
        obtain ⟨f', hf', e'⟩ := suF_step hl9 hf9 (by omega) hch (by omega)
        refine TurnEnd.intro' (fun m' => (xs.set q (xs.getD (2 * q + 2) d0), 2 * q + 2, ?t1b, ?t2b, m')) F2 N2 ?hm ?hn ?hJ
        case hn => exact fun _ h => h
        case hJ => exact ⟨⟨by simpa using hl9, tups_set hT9 (hT9 _ (getD_mem (by omega))), by dsimp only; omega, by dsimp only; omega, f', hf', e' ▸ he9⟩, by dsimp only; omega⟩
        case hm =>
          intro z
          dsimp only
          by_cases hz : z = Str.ofString "pos"
          · subst hz; exact congrArg (fun i => some (Value.int i _)) (cast_b q)
          · by_cases hz2 : z = Str.ofString "childpos"
            · subst hz2; exact congrArg (fun i => some (Value.int (2 * i + 1) _)) (cast_b q)
            · by_cases hz3 : z = Str.ofString "rightpos"
              · exact ((if_neg hz).trans ((if_neg hz2).trans (if_pos hz3))).symm
              · simp only [hz, hz2, hz3, if_false]
      · (rename Fr _ _ _ _ => F2)
        (rename News _ _ _ _ => N2)
        have hch : childF ltMax d0 xs q = 2 * q + 1 := child_left (fun h => by omega)
        obtain ⟨f', hf', e'⟩ := suF_step hl9 hf9 (by omega) hch (by omega)
        refine TurnEnd.intro' (fun m' => (xs.set q (xs.getD (2 * q + 1) d0), 2 * q + 1, ?t1c, ?t2c, m')) F2 N2 ?hm ?hn ?hJ
        case hn => exact fun _ h => h
        case hJ => exact ⟨⟨by simpa using hl9, tups_set hT9 (hT9 _ (getD_mem (by omega))), by dsimp only; omega, by dsimp only; omega, f', hf', e' ▸ he9⟩, by dsimp only; omega⟩
        case hm =>
          intro z
          dsimp only
          by_cases hz : z = Str.ofString "pos"
          · subst hz; exact congrArg (fun i => some (Value.int i _)) (cast_a q)
          · by_cases hz2 : z = Str.ofString "childpos"
            · subst hz2; exact congrArg (fun i => some (Value.int (2 * i + 1) _)) (cast_a q)
            · by_cases hz3 : z = Str.ofString "rightpos"
              · exact ((if_neg hz).trans ((if_neg hz2).trans (if_pos hz3))).symm
              · simp only [hz, hz2, hz3, if_false]
    · simp only [decide_eq_false_iff_not] at hb
      w_strict (k_steps)
      all_goals simp only [Int.toNat_natCast] at *
      have hs9 : suF ltMax d0 (ps.length - p) ps p = (xs, q) := he9.symm.trans (suF_stop (by omega))
      k_dflt (refine' Calls.use (siftdown_max_ok _ _ _ _ D (xs.set q (ps.getD p d0)) n p q _ _ rest hne (tups_set hT9 (hT _ (getD_mem h2))) hp9 (by simp only [List.length_set]; omega) (by simp only [List.length_set]; omega)) ?B ?F ?X ?N ?T ?k ?d ?u ?_)
      case B => k_asm
      case F => k_asm
      case X => k_asm
      case N => k_asm
      case T => k_asm
      case k => rfl
      case d => ktr_room
      case u => ktr_units
      intro r' news' h' tk' F' N' hback
      obtain ⟨rfl, rfl⟩ := hback
      w_strict (k_steps)
      refine hret _ _ _ _ (by assumption) (by assumption) ⟨rfl, ?_⟩
      simp only [siftUp, hs9]

set_option maxRecDepth 100000 in
set_option maxHeartbeats 8000000 in
theorem siftup_ok (w mean mg mb) (D : Addr) (ps : List Item) (n : Nat) (p : Nat) (ty : Tok) (rest) (hne : ∀ q ∈ rest, q.1 ≠ D) (hT : ∀ q ∈ ps, TupIn rest q.1 q.2) (h2 : p < ps.length) (h3 : ps.length < 64) :
    Calls w mean mg mb 56 [.ref D, .int p ty] 2 ((D, listOf (ps.map Prod.fst).toArray n) :: rest)
      (fun r news' => r = .none ∧ news' = (D, listOf ((siftUp ltMin d0 ps p).map Prod.fst).toArray n) :: rest) := by
  unfold Calls
  k_fill
  intro dp un gd cn cs a ccd cl outer A₀ base h₀ L m s Q E B F X N T hk hd hu hret
  w_on
  w_strict (
  refine wpAny_call ?_
  k_dflt ktr_enter
  k_steps)
  (rename Fr _ _ _ _ => F1)
  (rename News _ _ _ _ => N1)
  refine while_st (σ := List Item × Nat × Tok × Tok × (Str → Option Value)) (fun m₀ c z => if z = Str.ofString "pos" then some (.int c.2.1 c.2.2.1) else if z = Str.ofString "childpos" then some (.int (2 * (c.2.1 : Int) + 1) c.2.2.2.1) else if z = Str.ofString "rightpos" then c.2.2.2.2 z else m₀ z)
    (fun c => (D, listOf (c.1.map Prod.fst).toArray n) :: rest) (fun c => ps.length - c.2.1) (fun c => c.1.length = ps.length ∧ (∀ q ∈ c.1, TupIn rest q.1 q.2) ∧ p ≤ c.2.1 ∧ c.2.1 < ps.length ∧ ∃ f, ps.length - c.2.1 ≤ f ∧ suF ltMin d0 f c.1 c.2.1 = suF ltMin d0 (ps.length - p) ps p)
    (fun m₀ => (ps, p, ty, ?tc, m₀)) F1 N1 ?hm ?hl ?hJ ?hE ?turn
  case hl => exact fun _ h => h
  case hJ => exact ⟨rfl, hT, Nat.le_refl _, h2, _, Nat.le_refl _, rfl⟩
  case hE => first | passes_own | with_unfolding_all passes_own
  case hm =>
    intro z
    dsimp only
    by_cases hz : z = Str.ofString "pos"
    · subst hz; rfl
    · by_cases hz2 : z = Str.ofString "childpos"
      · subst hz2; rfl
      · simp only [hz, hz2, if_false, ite_self]
  case turn =>
    rintro ⟨xs, q, tq, tc, uu⟩ h9 tk9 ⟨hl9, hT9, hp9, hq9, f9, hf9, he9⟩ F9 N9
    dsimp only at F9 N9 hl9 hT9 hp9 hq9 hf9 he9 ⊢
    w_strict (k_steps)
    refine Both.intro (fun hb => ?_) (fun hb => ?_)
    · simp only [decide_eq_true_eq] at hb
      w_strict (k_steps)
      all_goals simp only [Int.toNat_natCast, toNat_a, toNat_b] at *
      · (rename lexLt _ _ = true => hc)
        (rename Fr _ _ _ _ => F2)
        (rename News _ _ _ _ => N2)
        have hch : childF ltMin d0 xs q = 2 * q + 1 := child_left (fun _ => hc)
        obtain ⟨f', hf', e'⟩ := suF_step hl9 hf9 (by omega) hch (by omega)
        refine TurnEnd.intro' (fun m' => (xs.set q (xs.getD (2 * q + 1) d0), 2 * q + 1, ?t1a, ?t2a, m')) F2 N2 ?hm ?hn ?hJ
        case hn => exact fun _ h => h
        case hJ => exact ⟨⟨by simpa using hl9, tups_set hT9 (hT9 _ (getD_mem (by omega))), by dsimp only; omega, by dsimp only; omega, f', hf', e' ▸ he9⟩, by dsimp only; omega⟩
        case hm =>
          intro z
          dsimp only
          by_cases hz : z = Str.ofString "pos"
          · subst hz; exact congrArg (fun i => some (Value.int i _)) (cast_a q)
          · by_cases hz2 : z = Str.ofString "childpos"
            · subst hz2; exact congrArg (fun i => some (Value.int (2 * i + 1) _)) (cast_a q)
            · by_cases hz3 : z = Str.ofString "rightpos"
              · exact ((if_neg hz).trans ((if_neg hz2).trans (if_pos hz3))).symm
              · simp only [hz, hz2, hz3, if_false]
      · (rename lexLt _ _ = false => hc)
        (rename Fr _ _ _ _ => F2)
        (rename News _ _ _ _ => N2)
        have hch : childF ltMin d0 xs q = 2 * q + 2 := child_right (by omega) hc
        obtain ⟨f', hf', e'⟩ := suF_step hl9 hf9 (by omega) hch (by omega)
        refine TurnEnd.intro' (fun m' => (xs.set q (xs.getD (2 * q + 2) d0), 2 * q + 2, ?t1b, ?t2b, m')) F2 N2 ?hm ?hn ?hJ
        case hn => exact fun _ h => h
        case hJ => exact ⟨⟨by simpa using hl9, tups_set hT9 (hT9 _ (getD_mem (by omega))), by dsimp only; omega, by dsimp only; omega, f', hf', e' ▸ he9⟩, by dsimp only; omega⟩
        case hm =>
          intro z
          dsimp only
          by_cases hz : z = Str.ofString "pos"
          · subst hz; exact congrArg (fun i => some (Value.int i _)) (cast_b q)
          · by_cases hz2 : z = Str.ofString "childpos"
            · subst hz2; exact congrArg (fun i => some (Value.int (2 * i + 1) _)) (cast_b q)
            · by_cases hz3 : z = Str.ofString "rightpos"
              · exact ((if_neg hz).trans ((if_neg hz2).trans (if_pos hz3))).symm
              · simp only [hz, hz2, hz3, if_false]
      · (rename Fr _ _ _ _ => F2)
        (rename News _ _ _ _ => N2)
        have hch : childF ltMin d0 xs q = 2 * q + 1 := child_left (fun h => by omega)
        obtain ⟨f', hf', e'⟩ := suF_step hl9 hf9 (by omega) hch (by omega)
        refine TurnEnd.intro' (fun m' => (xs.set q (xs.getD (2 * q + 1) d0), 2 * q + 1, ?t1c, ?t2c, m')) F2 N2 ?hm ?hn ?hJ
        case hn => exact fun _ h => h
        case hJ => exact ⟨⟨by simpa using hl9, tups_set hT9 (hT9 _ (getD_mem (by omega))), by dsimp only; omega, by dsimp only; omega, f', hf', e' ▸ he9⟩, by dsimp only; omega⟩
        case hm =>
          intro z
          dsimp only
          by_cases hz : z = Str.ofString "pos"
          · subst hz; exact congrArg (fun i => some (Value.int i _)) (cast_a q)
          · by_cases hz2 : z = Str.ofString "childpos"
            · subst hz2; exact congrArg (fun i => some (Value.int (2 * i + 1) _)) (cast_a q)
            · by_cases hz3 : z = Str.ofString "rightpos"
              · exact ((if_neg hz).trans ((if_neg hz2).trans (if_pos hz3))).symm
              · simp only [hz, hz2, hz3, if_false]
    · simp only [decide_eq_false_iff_not] at hb
      w_strict (k_steps)
      all_goals simp only [Int.toNat_natCast] at *
      have hs9 : suF ltMin d0 (ps.length - p) ps p = (xs, q) := he9.symm.trans (suF_stop (by omega))
      k_dflt (refine' Calls.use (siftdown_ok _ _ _ _ D (xs.set q (ps.getD p d0)) n p q _ _ rest hne (tups_set hT9 (hT _ (getD_mem h2))) hp9 (by simp only [List.length_set]; omega) (by simp only [List.length_set]; omega)) ?B ?F ?X ?N ?T ?k ?d ?u ?_)
      case B => k_asm
      case F => k_asm
      case X => k_asm
      case N => k_asm
      case T => k_asm
      case k => rfl
      case d => ktr_room
      case u => ktr_units
      intro r' news' h' tk' F' N' hback
      obtain ⟨rfl, rfl⟩ := hback
      w_strict (k_steps)
      refine hret _ _ _ _ (by assumption) (by assumption) ⟨rfl, ?_⟩
      simp only [siftUp, hs9]
end
end Mine
end

section
open PySem PySem.W PyProof.Rows
set_option Elab.async false
namespace Mine
section
variable {prog : Program} {w : World} {A : Around} {E : Value → Shared → Prop} {s : Shared}

theorem range_typeIs {r : Addr} {a b c : Int} {t u v : Tok} (h : IsRange s.heap r a b c t u v) : s.TypeIs (.ref r) "range" := ⟨_, h, rfl⟩

abbrev rIter (x left step : Int) : Obj := { cls := .type "range_iterator", dict := none, data := .fields #[rawInt x, rawInt left, rawInt step], slots := #[] }

theorem rangeFields_ {r : Addr} {a b c : Int} {t u v : Tok} {Q : Int × Int × Int → Shared → Prop} (hr : IsRange s.heap r a b c t u v) (h : Q (a, b, c) s) :
    wpAny (model prog w) A (Builtin.Range.rangeFields (.ref r)) Q E s := by
  show wpAny _ _ (field (.ref r) 0 >>= _) _ _ s
  refine wpAny_bind (wpAny_field hr rfl (x := .int a t) rfl ?_)
  refine wpAny_bind (wpAny_of_eq (a := some a) rfl ?_)
  refine wpAny_bind (wpAny_field hr rfl (x := .int b u) rfl ?_)
  refine wpAny_bind (wpAny_of_eq (a := some b) rfl ?_)
  refine wpAny_bind (wpAny_field hr rfl (x := .int c v) rfl ?_)
  refine wpAny_bind (wpAny_of_eq (a := some c) rfl ?_)
  exact wpAny_pure h

theorem rangeSize_up (k : Nat) : Builtin.Range.rangeSize 0 (k : Int) 1 = k := by
  unfold Builtin.Range.rangeSize
  rw [if_pos (by decide)]
  split
  · simp
  · omega

theorem call_range_rev {r : Addr} {k : Nat} {t u v : Tok} {Q : Value → Shared → Prop} (hr : IsRange s.heap r 0 (k : Int) 1 t u v) (hk : k < 2 ^ 20)
    (h : Q (.ref s.heap.objs.size) { s with heap := s.heap.push (rIter ((k : Int) - 1) k (-1)) }) : wpAny (model prog w) A (call (.builtin "range.__reversed__") [.ref r]) Q E s := by
  refine wpAny_call_entry F.slot_range_reversed (range_typeIs hr) F.entry_range_reversed ?_ (F.args_range_reversed_1 _)
  unfold Builtin.«range.__reversed__»
  refine wpAny_bind (wpAny_of_eq (a := Value.ref r) rfl ?_)
  refine wpAny_bind (rangeFields_ hr ?_)
  have f : ∀ i : Int, -(2 ^ 20) ≤ i → i ≤ 2 ^ 20 → Builtin.Range.rangeFitsLong i = true := fun i a b => by
    unfold Builtin.Range.rangeFitsLong
    simp only [Bool.and_eq_true, decide_eq_true_eq]
    omega
  simp only [rangeSize_up]
  rw [f 0 (by omega) (by omega), f (k : Int) (by omega) (by omega), f 1 (by omega) (by omega), f (-1) (by omega) (by omega), f (0 - 1) (by omega) (by omega)]
  simp only [Bool.and_self, Bool.not_true, Bool.false_eq_true, if_false, if_true]
  refine wpAny_bind ?_
  unfold newFields
  refine wpAny_newObj_type (wpAny_pure ⟨_, rfl, ?_⟩)
  have e : (0 : Int) + ((k : Int) - 1) * 1 = (k : Int) - 1 := by omega
  rw [e]
  exact h

theorem code_reversed_range {r : Addr} {k : Nat} {t u v : Tok} {Q₁ : Value → Shared → Prop} (hr : IsRange s.heap r 0 (k : Int) 1 t u v) (hk : k < 2 ^ 20)
    (h : Q₁ (.ref s.heap.objs.size) { s with heap := s.heap.push (rIter ((k : Int) - 1) k (-1)) }) :
    codeAny (model prog w) A (.call (.builtin "reversed.__new__") ⟨[.type "reversed", .ref r], []⟩) (wants Q₁ E) s := by
  refine codeAny_of_tree ?_
  show wpAny _ A.in1 (do checkBuiltinCall "reversed.__new__" ⟨[.type "reversed", .ref r], []⟩; again (.builtin "reversed.__new__" ⟨[.type "reversed", .ref r], []⟩)) _ _ s
  refine wpAny_bind (wpAny_of_eq (F.newCall_reversed_1 _) (wpAny_pure ⟨plainId_quiet F.plain_reversed_new _, codeAny_builtin F.entry_reversed_new ?_⟩))
  rw [Around.under_plainId F.plain_reversed_new _]
  unfold Builtin.«reversed.__new__»
  refine wpAny_bind (wpAny_of_eq (newClass_reversed _) ?_)
  try dsimp only
  refine wpAny_bind (wpAny_of_eq (a := ()) (by first | rfl | kernel_rfl) ?_)
  refine wpAny_bind (wpAny_of_eq (a := ()) (by first | rfl | kernel_rfl) ?_)
  try dsimp only
  refine wpAny_bind (wpAny_specialOf (range_typeIs hr) F.slot_range_reversed.lookup ?_)
  try dsimp only
  refine wpAny_bind (wpAny_of_eq (F.slot_range_reversed.bind _) ?_)
  try dsimp only
  first
  | rw [if_neg (show ¬ ((Value.builtin "range.__reversed__" == Value.none) = true) from Bool.false_ne_true)]
  | (show wpAny _ _ (if (Value.builtin "range.__reversed__" == Value.none) = true then _ else _) _ _ _; rw [if_neg (show ¬ ((Value.builtin "range.__reversed__" == Value.none) = true) from Bool.false_ne_true)])
  refine wpAny_bind (wpAny_rule ?_)
  refine wpAny_bind (m := runValue (.call (.builtin "range.__reversed__") ⟨[.ref r], []⟩)) (show wpAny _ _ (call (.builtin "range.__reversed__") [.ref r]) _ _ _ from call_range_rev hr hk ?_)
  first
  | exact wpAny_pure h
  | exact wpAny_bind (wpAny_pure (wpAny_pure h))

theorem sub_ri_reversed : isSubtype (.type "range_iterator") (.type "reversed") = pure false := by rw [isSubtype_type]; kernel_rfl

theorem call_reversed_range {r : Addr} {k : Nat} {t u v : Tok} {Q : Value → Shared → Prop} (hr : IsRange s.heap r 0 (k : Int) 1 t u v) (hk : k < 2 ^ 20)
    (h : Q (.ref s.heap.objs.size) { s with heap := s.heap.push (rIter ((k : Int) - 1) k (-1)) }) : wpAny (model prog w) A (call (.type "reversed") [.ref r]) Q E s := by
  refine callType_other (U := "range_iterator") (Q₁ := fun obj s₁ => obj = .ref s.heap.objs.size ∧ s₁ = { s with heap := s.heap.push (rIter ((k : Int) - 1) k (-1)) }) (by decide +kernel) F.create_reversed ⟨_, _, F.mro_reversed⟩ F.made_reversed sub_ri_reversed (F.typeCall_reversed_1 _) (code_reversed_range hr hk ⟨rfl, rfl⟩) ?_
  rintro obj s₁ ⟨rfl, rfl⟩
  exact ⟨⟨_, Heap.get?_push_size _ rfl, rfl⟩, h⟩
end

/-- a for by what holds between its turns; own: what the iterator has of its own -/
def ForEnd {σ : Type} (g : Heap) (L : Addr) (mp : σ → Str → Option Value) (led : σ → List (Addr × Obj)) (own : List (Addr × Obj)) (J : σ → Prop) (s₁ : Shared) (s₂ : Shared) : Prop :=
  ∃ (c : σ) (h : Heap) (tk : Nat) (m' : Str → Option Value) (news' : List (Addr × Obj)), s₂ = { s₁ with heap := h, toks := tk } ∧ Fr g L h m' ∧ News g L h news' ∧ (∀ z, m' z = mp c z) ∧ (∀ p ∈ led c, p ∈ news') ∧ (∀ p ∈ own, p ∈ news') ∧ J c
theorem ForEnd.intro' {σ : Type} {g : Heap} {L : Addr} {mp : σ → Str → Option Value} {led : σ → List (Addr × Obj)} {own : List (Addr × Obj)} {J : σ → Prop} {s₁ : Shared} (c : (Str → Option Value) → σ) {h : Heap} {tk : Nat} {m' : Str → Option Value} {news' : List (Addr × Obj)}
    (F : Fr g L h m') (N : News g L h news') (hm : ∀ z, m' z = mp (c m') z) (hn : ∀ p ∈ led (c m'), p ∈ news') (ho : ∀ p ∈ own, p ∈ news') (hJ : J (c m')) : ForEnd g L mp led own J s₁ { s₁ with heap := h, toks := tk } := ⟨c m', h, tk, m', news', rfl, F, N, hm, hn, ho, hJ⟩
def ForPost {σ : Type} (g : Heap) (L : Addr) (mp : σ → Str → Option Value) (led : σ → List (Addr × Obj)) (own : List (Addr × Obj)) (J : σ → Prop) (s₁ : Shared) (Q : Flow → Shared → Prop) (f : Flow) (s₂ : Shared) : Prop :=
  match f with
  | .next => ForEnd g L mp led own J s₁ s₂
  | .cont => ForEnd g L mp led own J s₁ s₂
  | .brk => Q .next s₂
  | .ret v => Q (.ret v) s₂

section
variable {prog : Program} {w : World} {A : Around} {E : Value → Shared → Prop} {s : Shared} {env : Env} {x : Str} {body : List Stmt} {Q : Flow → Shared → Prop} {g : Heap} {m₀ : Str → Option Value} {news₀ : List (Addr × Obj)}
theorem for_st {σ : Type} {I : Addr} {fp wr : List Addr} {n : Nat} {P : Nat → Value → Prop} {St : Nat → Heap → Prop} (W : Walks prog w A I fp wr n P St)
    (mp : (Str → Option Value) → σ → Str → Option Value) (led : σ → List (Addr × Obj)) (J : Nat → σ → Prop) (c₀ : (Str → Option Value) → σ)
    (F : Fr g env.locals s.heap m₀) (N : News g env.locals s.heap news₀) (hLf : env.locals ∉ fp) (hwr : ∀ b ∈ wr, g.get? b = none) (hst : St 0 s.heap)
    (hm : ∀ z, m₀ z = mp m₀ (c₀ m₀) z) (hl : ∀ p ∈ led (c₀ m₀), p ∈ news₀) (hoff : ∀ i c, J i c → ∀ p ∈ led c, p.1 ∉ wr) (hJ : J 0 (c₀ m₀))
    (turn : ∀ i v c h tk own, i < n → P i v → J i c → (∀ p ∈ own, p.1 ∈ fp) → (∀ b ∈ fp, g.get? b = none → ∀ o, h.get? b = some o → (b, o) ∈ own) → St (i + 1) h → Fr g env.locals h (fun y => if y = x then some v else mp m₀ c y) → News g env.locals h (own ++ led c) →
      wpAny (model prog w) A (execs body env) (ForPost g env.locals (mp m₀) led own (J (i + 1)) s Q) E { s with heap := h, toks := tk })
    (done : ∀ c h tk, J n c → Fr g env.locals h (mp m₀ c) → News g env.locals h (led c) → Q .next { s with heap := h, toks := tk }) :
    LoopAtV prog w A g env x body Q E (.ref I) s := by
  refine ⟨I, fp, wr, n, P, St, m₀, led (c₀ m₀), fun i m news => ∃ c, m = mp m₀ c ∧ news = led c ∧ J i c, rfl, W, hLf, hwr, hoff 0 _ hJ, hst, F, (fun p hp => N p (hl p hp)), ⟨c₀ m₀, funext hm, rfl, hJ⟩, ?_, ?_⟩
  · rintro i v m₁ news₁ s₁ own ⟨h, tk, rfl⟩ hi hP ⟨c, rfl, rfl, hJc⟩ _ ho _ hall hst' F₁ N₁
    refine wpAny_mono (turn i v c h tk own hi hP hJc ho hall hst' F₁ N₁) (fun f s₂ hf => ?_) fun _ _ e => e
    have fin : ForEnd g env.locals (mp m₀) led own (J (i + 1)) s s₂ → LoopStepU g env.locals wr own (fun m news => ∃ c, m = mp m₀ c ∧ news = led c ∧ J (i + 1) c) { s with heap := h, toks := tk } .next s₂ := by
      rintro ⟨c', h', tk', m', news', rfl, F2, N2, hm', hn', ho', hJ2⟩
      have e : m' = mp m₀ c' := funext hm'
      subst e
      exact ⟨rfl, h', tk', _, led c', rfl, F2, (fun p hp => N2 p ((List.mem_append.mp hp).elim (ho' p) (hn' p))), hoff (i + 1) c' hJ2, c', rfl, rfl, hJ2⟩
    cases f with
    | next => exact .next (fin hf)
    | cont => exact .cont (fin hf)
    | brk => exact .brk hf
    | ret v => exact .ret hf
  · rintro h' tk m' news' F' N' _ ⟨c, rfl, rfl, hJc⟩
    exact done c h' tk hJc F' N'
end
end Mine
end

section
open PySem PySem.W PyProof.Rows
set_option Elab.async false
set_option pp.maxSteps 20000
set_option pp.deepTerms false
set_option pp.deepTerms.threshold 6
namespace Mine
theorem floor_half {prog : Program} {w : World} {A : Around} {E : Value → Shared → Prop} {s : Shared} {q : Nat} {t u : Tok} {Q : Value → Shared → Prop} (h : Q (.int ((q / 2 : Nat) : Int) s.toks) { s with toks := s.toks + 1 }) :
    wpAny (model prog w) A (binaryOp .FloorDiv (.int (q : Int) t) (.int 2 u)) Q E s :=
  floordiv_int (by decide) (by rw [show ((q : Int)).fdiv 2 = ((q / 2 : Nat) : Int) from by rw [Int.fdiv_eq_ediv_of_nonneg _ (by decide)]; omega]; exact h)
section
local macro_rules | `(tactic| walk_at "call builtin:len") => `(tactic| ((with_reducible show wpAny _ _ (call (Value.builtin _) [Value.ref _]) _ _ _); refine' pair_len ?N ?m ?c ?_; (case N => k_asm); (case m => k_mem); (case c => omega)))
local macro_rules | `(tactic| walk_at "binaryOp FloorDiv int int") => `(tactic| (refine floor_half ?_))
local macro_rules | `(tactic| walk_at "call type:reversed") => `(tactic| (refine call_reversed_range (by assumption) (by omega) (Hold.mk ?_)))
local macro_rules | `(tactic| walk_at "ForPost") => `(tactic| (dsimp only [ForPost]))
local macro_rules | `(tactic| walk_at "call ref") => `(tactic| (refine Hold.mk ?_))

set_option maxRecDepth 100000 in
set_option maxHeartbeats 8000000 in
theorem heapify_max_ok (w mean mg mb) (D : Addr) (ps : List Item) (n : Nat) (rest) (hne : ∀ q ∈ rest, q.1 ≠ D) (hT : ∀ q ∈ ps, TupIn rest q.1 q.2) (h3 : ps.length < 64) :
    Calls w mean mg mb 42 [.ref D] 3 ((D, listOf (ps.map Prod.fst).toArray n) :: rest)
      (fun r news' => r = .none ∧ news' = (D, listOf ((heapFrom ltMax d0 (ps.length / 2) ps).map Prod.fst).toArray n) :: rest) := by
  unfold Calls
  k_fill
  intro dp un gd cn cs a ccd cl outer A₀ base h₀ L m s Q E B F X N T hk hd hu hret
  w_on
  w_strict (
  refine wpAny_call ?_
  k_dflt ktr_enter
  k_steps)
  (rename Fr _ _ _ _ => F1)
  (rename News _ _ _ _ => N1)
  unfold Hold
  refine wpAny_pyIter_rangeiter (Heap.get?_push_size _ rfl) ?_
  refine for_st (σ := List Item × (Str → Option Value)) (Walks.range rfl _ (((ps.length / 2 : Nat) : Int) - 1) (-1) (ps.length / 2))
    (fun m₀ c z => if z = Str.ofString "i" then c.2 z else m₀ z) (fun c => (D, listOf (c.1.map Prod.fst).toArray n) :: rest)
    (fun i c => c.1.length = ps.length ∧ (∀ q ∈ c.1, TupIn rest q.1 q.2) ∧ heapFrom ltMax d0 (ps.length / 2 - i) c.1 = heapFrom ltMax d0 (ps.length / 2) ps)
    (fun m₀ => (ps, m₀)) (F1.push _) (fun p hp => ⟨Heap.get?_push_of_some _ (N1 p hp).1, (N1 p hp).2⟩) ?hLf ?hwr ?hst ?hm ?hl ?hoff ?hJ ?turn ?done
  case hLf => exact fun h => absurd F1.ns.lt ((List.mem_singleton.mp h) ▸ Nat.lt_irrefl _)
  case hwr => intro b hb; rw [List.mem_singleton.mp hb]; exact F1.fresh
  case hst => simpa using Heap.get?_push_size _ rfl
  case hm => intro z; exact (ite_self _).symm
  case hl => exact fun _ h => h
  case hoff =>
    intro i c _ p hp hI
    rcases List.mem_cons.mp hp with rfl | hp
    · exact absurd (Heap.lt_size (N1 _ (.head _)).1) ((List.mem_singleton.mp hI) ▸ Nat.lt_irrefl _)
    · exact absurd (Heap.lt_size (N1 _ (.tail _ hp)).1) ((List.mem_singleton.mp hI) ▸ Nat.lt_irrefl _)
  case hJ => exact ⟨rfl, hT, rfl⟩
  case turn =>
    rintro i v ⟨xs, uu⟩ h9 tk9 own hi ⟨tv, rfl⟩ ⟨hl9, hT9, he9⟩ hown hall _ F9 N9
    dsimp only at F9 N9 hl9 hT9 he9 ⊢
    have ei : ((ps.length / 2 : Nat) : Int) - 1 + (i : Int) * -1 = ((ps.length / 2 - 1 - i : Nat) : Int) := by omega
    rw [ei] at F9
    have hDI := Heap.lt_size (N1 _ (.head _)).1
    have hne9 : ∀ q ∈ own ++ rest, q.1 ≠ D := by
      intro q hq
      rcases List.mem_append.mp hq with hq | hq
      · rw [List.mem_singleton.mp (hown q hq)]; exact Nat.ne_of_gt hDI
      · exact hne q hq
    have N8 : News _ _ h9 ((D, listOf (xs.map Prod.fst).toArray n) :: (own ++ rest)) := fun p hp => N9 p (by
      rcases List.mem_cons.mp hp with rfl | hp
      · exact List.mem_append_right _ (.head _)
      · rcases List.mem_append.mp hp with hp | hp
        · exact List.mem_append_left _ hp
        · exact List.mem_append_right _ (.tail _ hp))
    clear N9
    w_strict (k_steps)
    unfold Hold
    k_dflt (refine' Calls.use (siftup_max_ok _ _ _ _ D xs n (ps.length / 2 - 1 - i) _ (own ++ rest) hne9 (fun q hq => (hT9 q hq).mono fun p hp => List.mem_append_right _ hp) (by omega) (by omega)) ?B ?F ?X ?N ?T ?k ?d ?u ?_)
    case B => k_asm
    case F => k_asm
    case X => k_asm
    case N => k_asm
    case T => k_asm
    case k => rfl
    case d => ktr_room
    case u => ktr_units
    intro r' news' h' tk' F' N' hback
    obtain ⟨rfl, rfl⟩ := hback
    w_strict (k_steps)
    refine ForEnd.intro' (fun m' => (siftUp ltMax d0 xs (ps.length / 2 - 1 - i), m')) F' N' ?hm ?hn ?ho ?hJ
    case hm =>
      intro z
      dsimp only
      by_cases hz : z = Str.ofString "i"
      · exact (if_pos hz).symm
      · simp only [hz, if_false]
    case hn =>
      intro p hp
      rcases List.mem_cons.mp hp with rfl | hp
      · exact .head _
      · exact .tail _ (List.mem_append_right _ hp)
    case ho => exact fun p hp => .tail _ (List.mem_append_left _ hp)
    case hJ =>
      have hpm := siftUp_perm (lt := ltMax) (d := d0) (xs := xs) (p := ps.length / 2 - 1 - i) (by omega)
      refine ⟨hpm.length_eq.trans hl9, fun q hq => hT9 q (hpm.mem_iff.mp hq), ?_⟩
      rw [← he9, show ps.length / 2 - i = (ps.length / 2 - 1 - i) + 1 by omega, show ps.length / 2 - (i + 1) = ps.length / 2 - 1 - i by omega]
      rfl
  case done =>
    rintro ⟨xs, uu⟩ h9 tk9 ⟨hl9, hT9, he9⟩ F9 N9
    dsimp only at F9 N9 hl9 hT9 he9 ⊢
    w_strict (k_steps)
    refine hret _ _ _ _ (by assumption) (by assumption) ⟨rfl, ?_⟩
    rw [← he9, Nat.sub_self]
    rfl

set_option maxRecDepth 100000 in
set_option maxHeartbeats 8000000 in
theorem heapify_ok (w mean mg mb) (D : Addr) (ps : List Item) (n : Nat) (rest) (hne : ∀ q ∈ rest, q.1 ≠ D) (hT : ∀ q ∈ ps, TupIn rest q.1 q.2) (h3 : ps.length < 64) :
    Calls w mean mg mb 28 [.ref D] 3 ((D, listOf (ps.map Prod.fst).toArray n) :: rest)
      (fun r news' => r = .none ∧ news' = (D, listOf ((heapFrom ltMin d0 (ps.length / 2) ps).map Prod.fst).toArray n) :: rest) := by
  unfold Calls
  k_fill
  intro dp un gd cn cs a ccd cl outer A₀ base h₀ L m s Q E B F X N T hk hd hu hret
  w_on
  w_strict (
  refine wpAny_call ?_
  k_dflt ktr_enter
  k_steps)
  (rename Fr _ _ _ _ => F1)
  (rename News _ _ _ _ => N1)
  unfold Hold
  refine wpAny_pyIter_rangeiter (Heap.get?_push_size _ rfl) ?_
  refine for_st (σ := List Item × (Str → Option Value)) (Walks.range rfl _ (((ps.length / 2 : Nat) : Int) - 1) (-1) (ps.length / 2))
    (fun m₀ c z => if z = Str.ofString "i" then c.2 z else m₀ z) (fun c => (D, listOf (c.1.map Prod.fst).toArray n) :: rest)
    (fun i c => c.1.length = ps.length ∧ (∀ q ∈ c.1, TupIn rest q.1 q.2) ∧ heapFrom ltMin d0 (ps.length / 2 - i) c.1 = heapFrom ltMin d0 (ps.length / 2) ps)
    (fun m₀ => (ps, m₀)) (F1.push _) (fun p hp => ⟨Heap.get?_push_of_some _ (N1 p hp).1, (N1 p hp).2⟩) ?hLf ?hwr ?hst ?hm ?hl ?hoff ?hJ ?turn ?done
  case hLf => exact fun h => absurd F1.ns.lt ((List.mem_singleton.mp h) ▸ Nat.lt_irrefl _)
  case hwr => intro b hb; rw [List.mem_singleton.mp hb]; exact F1.fresh
  case hst => simpa using Heap.get?_push_size _ rfl
  case hm => intro z; exact (ite_self _).symm
  case hl => exact fun _ h => h
  case hoff =>
    intro i c _ p hp hI
    rcases List.mem_cons.mp hp with rfl | hp
    · exact absurd (Heap.lt_size (N1 _ (.head _)).1) ((List.mem_singleton.mp hI) ▸ Nat.lt_irrefl _)
    · exact absurd (Heap.lt_size (N1 _ (.tail _ hp)).1) ((List.mem_singleton.mp hI) ▸ Nat.lt_irrefl _)
  case hJ => exact ⟨rfl, hT, rfl⟩
  case turn =>
    rintro i v ⟨xs, uu⟩ h9 tk9 own hi ⟨tv, rfl⟩ ⟨hl9, hT9, he9⟩ hown hall _ F9 N9
    dsimp only at F9 N9 hl9 hT9 he9 ⊢
    have ei : ((ps.length / 2 : Nat) : Int) - 1 + (i : Int) * -1 = ((ps.length / 2 - 1 - i : Nat) : Int) := by omega
    rw [ei] at F9
    have hDI := Heap.lt_size (N1 _ (.head _)).1
    have hne9 : ∀ q ∈ own ++ rest, q.1 ≠ D := by
      intro q hq
      rcases List.mem_append.mp hq with hq | hq
      · rw [List.mem_singleton.mp (hown q hq)]; exact Nat.ne_of_gt hDI
      · exact hne q hq
    have N8 : News _ _ h9 ((D, listOf (xs.map Prod.fst).toArray n) :: (own ++ rest)) := fun p hp => N9 p (by
      rcases List.mem_cons.mp hp with rfl | hp
      · exact List.mem_append_right _ (.head _)
      · rcases List.mem_append.mp hp with hp | hp
        · exact List.mem_append_left _ hp
        · exact List.mem_append_right _ (.tail _ hp))
    clear N9
    w_strict (k_steps)
    unfold Hold
    k_dflt (refine' Calls.use (siftup_ok _ _ _ _ D xs n (ps.length / 2 - 1 - i) _ (own ++ rest) hne9 (fun q hq => (hT9 q hq).mono fun p hp => List.mem_append_right _ hp) (by omega) (by omega)) ?B ?F ?X ?N ?T ?k ?d ?u ?_)
    case B => k_asm
    case F => k_asm
    case X => k_asm
    case N => k_asm
    case T => k_asm
    case k => rfl
    case d => ktr_room
    case u => ktr_units
    intro r' news' h' tk' F' N' hback
    obtain ⟨rfl, rfl⟩ := hback
    w_strict (k_steps)
    refine ForEnd.intro' (fun m' => (siftUp ltMin d0 xs (ps.length / 2 - 1 - i), m')) F' N' ?hm ?hn ?ho ?hJ
    case hm =>
      intro z
      dsimp only
      by_cases hz : z = Str.ofString "i"
      · exact (if_pos hz).symm
      · simp only [hz, if_false]
    case hn =>
      intro p hp
      rcases List.mem_cons.mp hp with rfl | hp
      · exact .head _
      · exact .tail _ (List.mem_append_right _ hp)
    case ho => exact fun p hp => .tail _ (List.mem_append_left _ hp)
    case hJ =>
      have hpm := siftUp_perm (lt := ltMin) (d := d0) (xs := xs) (p := ps.length / 2 - 1 - i) (by omega)
      refine ⟨hpm.length_eq.trans hl9, fun q hq => hT9 q (hpm.mem_iff.mp hq), ?_⟩
      rw [← he9, show ps.length / 2 - i = (ps.length / 2 - 1 - i) + 1 by omega, show ps.length / 2 - (i + 1) = ps.length / 2 - 1 - i by omega]
      rfl
  case done =>
    rintro ⟨xs, uu⟩ h9 tk9 ⟨hl9, hT9, he9⟩ F9 N9
    dsimp only at F9 N9 hl9 hT9 he9 ⊢
    w_strict (k_steps)
    refine hret _ _ _ _ (by assumption) (by assumption) ⟨rfl, ?_⟩
    rw [← he9, Nat.sub_self]
    rfl
end
end Mine
end

section
open PySem PySem.W PyProof.Rows
set_option Elab.async false
set_option pp.maxSteps 20000
set_option pp.deepTerms false
set_option pp.deepTerms.threshold 6
namespace Mine
section
local macro_rules | `(tactic| walk_at "subscriptTail") => `(tactic| ((with_reducible show wpAny _ _ (subscriptTail _ _ (Value.ref _) (Value.int _ _)) _ _ _); refine' pair_item ?N ?m ?a ?b ?c ?_ ?s; (case N => k_asm); (case m => k_mem); (case a => omega); (case b => omega); (case c => omega); (case s => with_unfolding_all rfl)))
local macro_rules | `(tactic| walk_at "setItem ref int") => `(tactic| (refine' pair_set ?F ?N ?ne ?a ?b ?c ?_; (case F => k_asm); (case N => k_asm); (case ne => assumption); (case a => omega); (case b => omega); (case c => omega); intro h' F' N'))
local macro_rules | `(tactic| walk_at "call ref") => `(tactic| (refine Hold.mk ?_))

set_option maxRecDepth 100000 in
set_option maxHeartbeats 8000000 in
theorem heapreplace_max_ok (w mean mg mb) (D : Addr) (ps : List Item) (x : Item) (n : Nat) (rest) (hne : ∀ q ∈ rest, q.1 ≠ D) (hT : ∀ q ∈ ps, TupIn rest q.1 q.2) (hx : TupIn rest x.1 x.2) (h2 : 0 < ps.length) (h3 : ps.length < 64) :
    Calls w mean mg mb 35 [.ref D, x.1] 3 ((D, listOf (ps.map Prod.fst).toArray n) :: rest)
      (fun r news' => r = (ps.getD 0 d0).1 ∧ news' = (D, listOf ((heapRep ltMax d0 ps x).map Prod.fst).toArray n) :: rest) := by
  unfold Calls
  k_fill
  intro dp un gd cn cs a ccd cl outer A₀ base h₀ L m s Q E B F X N T hk hd hu hret
  w_on
  w_strict (
  refine wpAny_call ?_
  k_dflt ktr_enter
  k_steps)
  unfold Hold
  simp only [show Int.toNat 0 = 0 from rfl] at *
  k_dflt (refine' Calls.use (siftup_max_ok _ _ _ _ D (ps.set 0 x) n 0 _ rest hne (tups_set hT hx) (by rw [List.length_set]; exact h2) (by rw [List.length_set]; exact h3)) ?B ?F ?X ?N ?T ?k ?d ?u ?_)
  case B => k_asm
  case F => k_asm
  case X => k_asm
  case N => k_asm
  case T => k_asm
  case k => rfl
  case d => ktr_room
  case u => ktr_units
  intro r' news' h' tk' F' N' hback
  obtain ⟨rfl, rfl⟩ := hback
  w_strict (k_steps)
  exact hret _ _ _ _ (by assumption) (by assumption) ⟨rfl, rfl⟩

set_option maxRecDepth 100000 in
set_option maxHeartbeats 8000000 in
theorem heapreplace_ok (w mean mg mb) (D : Addr) (ps : List Item) (x : Item) (n : Nat) (rest) (hne : ∀ q ∈ rest, q.1 ≠ D) (hT : ∀ q ∈ ps, TupIn rest q.1 q.2) (hx : TupIn rest x.1 x.2) (h2 : 0 < ps.length) (h3 : ps.length < 64) :
    Calls w mean mg mb 21 [.ref D, x.1] 3 ((D, listOf (ps.map Prod.fst).toArray n) :: rest)
      (fun r news' => r = (ps.getD 0 d0).1 ∧ news' = (D, listOf ((heapRep ltMin d0 ps x).map Prod.fst).toArray n) :: rest) := by
  unfold Calls
  k_fill
  intro dp un gd cn cs a ccd cl outer A₀ base h₀ L m s Q E B F X N T hk hd hu hret
  w_on
  w_strict (
  refine wpAny_call ?_
  k_dflt ktr_enter
  k_steps)
  unfold Hold
  simp only [show Int.toNat 0 = 0 from rfl] at *
  k_dflt (refine' Calls.use (siftup_ok _ _ _ _ D (ps.set 0 x) n 0 _ rest hne (tups_set hT hx) (by rw [List.length_set]; exact h2) (by rw [List.length_set]; exact h3)) ?B ?F ?X ?N ?T ?k ?d ?u ?_)
  case B => k_asm
  case F => k_asm
  case X => k_asm
  case N => k_asm
  case T => k_asm
  case k => rfl
  case d => ktr_room
  case u => ktr_units
  intro r' news' h' tk' F' N' hback
  obtain ⟨rfl, rfl⟩ := hback
  w_strict (k_steps)
  exact hret _ _ _ _ (by assumption) (by assumption) ⟨rfl, rfl⟩
end
end Mine
end

section
open PySem PySem.W PyProof.Rows
set_option Elab.async false
namespace Mine
/-- a call with keywords -/
def CallsK (w : World) (mean : ExcName → Option Value) (mg mb : Str → Option Value) (f : Addr) (vs : List Value) (kw : List (Str × Value)) (k : Nat) (news : List (Addr × Obj))
    (Back : Value → List (Addr × Obj) → Prop) : Prop :=
  ∀ (dp un : Nat) (gd : Option (List Code)) (cn : Str) (cs : Scope) (a : Addr) (ccd : Value) (cl : List (Str × Addr)) (outer : List Env) (A₀ : Around) (base h₀ : Heap) (L : Addr) (m : Str → Option Value) (s : Shared)
    (Q E : Value → Shared → Prop),
    Below A₀ base outer h₀ → Fr h₀ L s.heap m → (Mine.hd.heap_39 w.params).In h₀ → News h₀ L s.heap news →
    Top Mine.hd.view_39 (looseW Mine.hd.view_39 [Str.ofString "nsmallest", Str.ofString "nlargest"]) mean mg mb h₀ → cs.kind = .function →
    dp + k < recursionLimit → un + 8 * k < cLine →
    (∀ r news' h' tk', Fr h₀ L h' m → News h₀ L h' news' → Back r news' → Q r { s with heap := h', toks := tk' }) →
    wpAny (model PySem.Challenge.rw_mr0275_01.row.prog w) (ktrTop dp un gd cn cs L a ccd cl outer) (call (.ref f) vs kw) Q E s
end Mine
end

section
open PySem PySem.W PyProof.Rows
set_option Elab.async false
namespace Mine

/-- the comparison answers by ranks and changes nothing -/
def Ans (cmp : Nat → Nat → (Bool → Shared → Prop) → Shared → Prop) (rk : Nat → Int) (n : Nat) (s : Shared) : Prop :=
  ∀ i j (C : Bool → Shared → Prop), i < n → j < n → C (decide (rk i < rk j)) s → cmp i j C s

section
variable {cmp : Nat → Nat → (Bool → Shared → Prop) → Shared → Prop} {rk : Nat → Int} {n : Nat} {s : Shared}

abbrev rkAt (rk : Nat → Int) (p : Array Nat) (i : Nat) : Int := rk (p.getD i 0)
def UpTo (rk : Nat → Int) (p : Array Nat) (k : Nat) : Prop := ∀ i j, i ≤ j → j < k → rkAt rk p i ≤ rkAt rk p j
def DownTo (rk : Nat → Int) (p : Array Nat) (k : Nat) : Prop := ∀ i j, i ≤ j → j < k → rkAt rk p j ≤ rkAt rk p i
/-- a reordering of 0 .. n - 1 -/
def Ord (n : Nat) (p : Array Nat) : Prop := p.Perm (List.toArray (List.range n))
theorem Ord.size {p : Array Nat} (h : Ord n p) : p.size = n := by
  have := Array.Perm.size_eq h
  simpa using this
theorem Ord.lt {p : Array Nat} (h : Ord n p) {i : Nat} (hi : i < n) : p.getD i 0 < n := by
  have hs := h.size
  have hi' : i < p.size := by omega
  have e : p.getD i 0 = p[i] := by simp [Array.getD, hi']
  have hm : p[i] ∈ p := Array.getElem_mem hi'
  have := (Array.Perm.mem_iff h).mp hm
  rw [e]
  simpa using this
theorem getD_of {p q : Array Nat} {i j : Nat} (h : p[i]? = q[j]?) : p.getD i 0 = q.getD j 0 := by
  rw [Array.getD_eq_getD_getElem?, Array.getD_eq_getD_getElem?, h]
theorem Ord.rev {p : Array Nat} (h : Ord n p) (i j : Nat) : Ord n (kas_rev p i j) := (mirror_perm p i j _).trans h
theorem Ord.bub {p : Array Nat} (h : Ord n p) (i j : Nat) : Ord n (bubble p i j) := (bubble_perm p i j).trans h
theorem rk_rev {p : Array Nat} {i j : Nat} (hj : j ≤ p.size) (k : Nat) : rkAt rk (kas_rev p i j) k = if i ≤ k ∧ k < j then rkAt rk p (i + j - 1 - k) else rkAt rk p k := by
  have := getElem?_mirror_all (i := i) hj k
  unfold rkAt kas_rev
  split
  · rename_i h; rw [if_pos h] at this; rw [getD_of this]
  · rename_i h; rw [if_neg h] at this; rw [getD_of this]
theorem rk_bub {p : Array Nat} {src d : Nat} (hs : src < p.size) (hd : d ≤ src) (k : Nat) : rkAt rk (bubble p src d) k = if k = src - d then rkAt rk p src else if src - d < k ∧ k ≤ src then rkAt rk p (k - 1) else rkAt rk p k := by
  have := getElem?_bubble hs d hd k
  by_cases h : k = src - d
  · rw [if_pos h] at this ⊢; exact congrArg rk (getD_of this)
  · rw [if_neg h] at this ⊢
    by_cases h2 : src - d < k ∧ k ≤ src
    · rw [if_pos h2] at this ⊢; exact congrArg rk (getD_of this)
    · rw [if_neg h2] at this ⊢; exact congrArg rk (getD_of this)

theorem asc_ok (A : Ans cmp rk n s) {p : Array Nat} (O : Ord n p) {Q : Nat → Shared → Prop} : ∀ (f m : Nat), 1 ≤ m → m + f ≤ n → UpTo rk p m →
    (∀ r, m ≤ r → r ≤ m + f → UpTo rk p r → (r = m + f ∨ rkAt rk p r < rkAt rk p (r - 1)) → Q r s) → (kas_asc p f m).kasWp cmp Q s
  | 0, m, h1, hf, hs, h => h m (Nat.le_refl _) (Nat.le_refl _) hs (.inl rfl)
  | f + 1, m, h1, hf, hs, h => by
    refine A _ _ _ (O.lt (by omega)) (O.lt (by omega)) ?_
    by_cases hc : rkAt rk p m < rkAt rk p (m - 1)
    · simp only [decide_eq_true hc, if_true]
      exact h m (Nat.le_refl _) (by omega) hs (.inr hc)
    · simp only [decide_eq_false hc, Bool.false_eq_true, if_false]
      refine asc_ok A O f (m + 1) (by omega) (by omega) ?_ fun r a b c d => h r (by omega) (by omega) c (by rcases d with d | d; (left; omega); exact .inr d)
      intro i j hij hj
      by_cases hjm : j < m
      · exact hs i j hij hjm
      · have : j = m := by omega
        subst this
        by_cases him : i = j
        · subst him; exact Int.le_refl _
        · have := hs i (j - 1) (by omega) (by omega)
          omega

theorem rev_eq {p : Array Nat} {i j : Nat} (hj : j ≤ p.size) (he : ∀ k, i ≤ k → k < j → rkAt rk p k = rkAt rk p (j - 1)) (k : Nat) : rkAt rk (kas_rev p i j) k = rkAt rk p k := by
  rw [rk_rev hj]
  split
  · rename_i h
    rw [he k h.1 h.2, he _ (by omega) (by omega)]
  · rfl

theorem desc_ok (A : Ans cmp rk n s) {Q : Array Nat × Nat × Nat → Shared → Prop} : ∀ (f : Nat) (p : Array Nat) (m q : Nat), Ord n p → m + f ≤ n → q + 1 ≤ m → DownTo rk p m → (∀ k, m - (q + 1) ≤ k → k < m → rkAt rk p k = rkAt rk p (m - 1)) →
    (∀ p' r q', Ord n p' → m ≤ r → r ≤ m + f → q' + 1 ≤ r → DownTo rk p' r → (∀ k, r - (q' + 1) ≤ k → k < r → rkAt rk p' k = rkAt rk p' (r - 1)) → Q (p', r, q') s) → (kas_desc f p m q).kasWp cmp Q s
  | 0, p, m, q, O, hf, hq, hs, he, h => h p m q O (Nat.le_refl _) (Nat.le_refl _) hq hs he
  | f + 1, p, m, q, O, hf, hq, hs, he, h => by
    have ext : ∀ p' : Array Nat, DownTo rk p' m → rkAt rk p' m ≤ rkAt rk p' (m - 1) → DownTo rk p' (m + 1) := by
      intro p' hs' hc i j hij hj
      by_cases hjm : j < m
      · exact hs' i j hij hjm
      · have : j = m := by omega
        subst this
        by_cases him : i = j
        · subst him; exact Int.le_refl _
        · have := hs' i (j - 1) (by omega) (by omega)
          omega
    refine A _ _ _ (O.lt (by omega)) (O.lt (by omega)) ?_
    by_cases hc : rkAt rk p m < rkAt rk p (m - 1)
    · simp only [decide_eq_true hc, if_true]
      have O' := O.rev (m - (q + 1)) m
      have e : ∀ k, rkAt rk (kas_rev p (m - (q + 1)) m) k = rkAt rk p k := rev_eq (by rw [O.size]; omega) he
      by_cases hq0 : q > 0
      · rw [if_pos hq0]
        refine desc_ok A f _ (m + 1) 0 O' (by omega) (by omega) (ext _ (fun i j a b => by rw [e, e]; exact hs i j a b) (by rw [e, e]; omega)) (fun k a b => by rw [show k = m + 1 - 1 by omega]) fun p' r q' a b c d x y => h p' r q' a (by omega) (by omega) d x y
      · rw [if_neg hq0]
        refine desc_ok A f _ (m + 1) 0 O (by omega) (by omega) (ext _ hs (by omega)) (fun k a b => by rw [show k = m + 1 - 1 by omega]) fun p' r q' a b c d x y => h p' r q' a (by omega) (by omega) d x y
    · simp only [decide_eq_false hc, Bool.false_eq_true, if_false]
      refine A _ _ _ (O.lt (by omega)) (O.lt (by omega)) ?_
      by_cases hd : rkAt rk p (m - 1) < rkAt rk p m
      · simp only [decide_eq_true hd, if_true]
        exact h p m q O (Nat.le_refl _) (by omega) hq hs he
      · simp only [decide_eq_false hd, Bool.false_eq_true, if_false]
        refine desc_ok A f _ (m + 1) (q + 1) O (by omega) (by omega) (ext _ hs (by omega)) (fun k a b => ?_) fun p' r q' a b c d x y => h p' r q' a (by omega) (by omega) d x y
        rw [show m + 1 - 1 = m by omega]
        by_cases hk : k < m
        · rw [he k (by omega) hk]; omega
        · rw [show k = m by omega]

theorem tail3_ok (A : Ans cmp rk n s) {p : Array Nat} {m : Nat} {Q : Nat × Array Nat → Shared → Prop} (O : Ord n p) (h1 : 1 ≤ m) (hm : m ≤ n) (hs : DownTo rk p m)
    (h : ∀ r p', Ord n p' → 1 ≤ r → r ≤ n → UpTo rk p' r → Q (r, p') s) : (kas_tail3 m n p).kasWp cmp Q s := by
  unfold kas_tail3
  rw [KasT.kasWp_bind]
  refine asc_ok A (O.rev 0 m) (n - m) m h1 (by omega) ?_ fun r a b c _ => h r _ (O.rev 0 m) (by omega) (by omega) c
  intro i j hij hj
  rw [rk_rev (by rw [O.size]; omega), rk_rev (by rw [O.size]; omega), if_pos (by omega), if_pos (by omega)]
  exact hs _ _ (by omega) (by omega)

theorem descPart_ok (A : Ans cmp rk n s) {p : Array Nat} {m : Nat} {Q : Nat × Array Nat → Shared → Prop} (O : Ord n p) (hm : m + 1 ≤ n) (hs : DownTo rk p (m + 1))
    (h : ∀ r p', Ord n p' → 1 ≤ r → r ≤ n → UpTo rk p' r → Q (r, p') s) : (kas_descPart m n p).kasWp cmp Q s := by
  unfold kas_descPart
  rw [KasT.kasWp_bind]
  refine desc_ok A (n - (m + 1)) p (m + 1) 0 O (by omega) (by omega) hs (fun k a b => by rw [show k = m + 1 - 1 by omega]) fun p' r q' O' a b c d e => ?_
  dsimp only
  by_cases hq : q' > 0
  · rw [if_pos hq]
    have e' : ∀ k, rkAt rk (kas_rev p' (r - (q' + 1)) r) k = rkAt rk p' k := rev_eq (by rw [O'.size]; omega) e
    exact tail3_ok A (O'.rev _ _) (by omega) (by omega) (fun i j x y => by rw [e', e']; exact d i j x y) h
  · rw [if_neg hq]
    exact tail3_ok A O' (by omega) (by omega) d h

theorem count_ok (A : Ans cmp rk n s) {p : Array Nat} {Q : Nat × Array Nat → Shared → Prop} (O : Ord n p) (hn : 1 ≤ n)
    (h : ∀ r p', Ord n p' → 1 ≤ r → r ≤ n → UpTo rk p' r → Q (r, p') s) : (kas_count n p).kasWp cmp Q s := by
  unfold kas_count
  rw [KasT.kasWp_bind]
  refine asc_ok A O (n - 1) 1 (Nat.le_refl _) (by omega) (fun i j a b => by rw [show i = j by omega]; exact Int.le_refl _) fun r a b c d => ?_
  by_cases e1 : (r == n) = true
  · rw [if_pos e1]
    exact h r p O a (by omega) c
  · rw [if_neg e1]
    have hr : r < n := by
      have : r ≠ n := fun q => e1 (by rw [q]; exact beq_self_eq_true _)
      omega
    have hd : rkAt rk p r < rkAt rk p (r - 1) := by
      rcases d with d | d
      · omega
      · exact d
    by_cases e2 : r > 1
    · rw [if_pos e2]
      refine A _ _ _ (O.lt (by omega)) (O.lt (by omega)) ?_
      by_cases hc : rkAt rk p 0 < rkAt rk p (r - 1)
      · simp only [decide_eq_true hc, if_true]
        exact h r p O a (by omega) c
      · simp only [decide_eq_false hc, Bool.false_eq_true, if_false]
        have he : ∀ k, 0 ≤ k → k < r → rkAt rk p k = rkAt rk p (r - 1) := by
          intro k _ hk
          have x1 := c 0 k (by omega) hk
          have x2 := c k (r - 1) (by omega) (by omega)
          omega
        have e' : ∀ k, rkAt rk (kas_rev p 0 r) k = rkAt rk p k := rev_eq (by rw [O.size]; omega) he
        refine descPart_ok A (O.rev _ _) (by omega) (fun i j hij hj => ?_) h
        rw [e', e']
        by_cases hjr : j < r
        · rw [he i (by omega) (by omega), he j (by omega) hjr]; exact Int.le_refl _
        · have : j = r := by omega
          subst this
          by_cases him : i = j
          · subst him; exact Int.le_refl _
          · have := he i (by omega) (by omega)
            omega
    · rw [if_neg e2]
      have : r = 1 := by omega
      subst this
      refine descPart_ok A O (by omega) (fun i j hij hj => ?_) h
      by_cases him : i = j
      · subst him; exact Int.le_refl _
      · have hi : i = 0 := by omega
        have hj : j = 1 := by omega
        subst hi; subst hj
        exact Int.le_of_lt hd

theorem place_ok (A : Ans cmp rk n s) {p : Array Nat} {k : Nat} {Q : Nat → Shared → Prop} (O : Ord n p) (hk : k < n) (hs : UpTo rk p k) : ∀ (f l r : Nat), r - l ≤ f → l ≤ r → r ≤ k → (∀ i, i < l → rkAt rk p i ≤ rkAt rk p k) → (∀ i, r ≤ i → i < k → rkAt rk p k < rkAt rk p i) →
    (∀ l', l' ≤ k → (∀ i, i < l' → rkAt rk p i ≤ rkAt rk p k) → (∀ i, l' ≤ i → i < k → rkAt rk p k < rkAt rk p i) → Q l' s) → (kas_place p k f l r).kasWp cmp Q s
  | 0, l, r, hf, hl, hr, h1, h2, h => h l (by omega) h1 (fun i a b => h2 i (by omega) b)
  | f + 1, l, r, hf, hl, hr, h1, h2, h => by
    unfold kas_place
    by_cases hlr : l ≥ r
    · rw [if_pos hlr]
      exact h l (by omega) h1 (fun i a b => h2 i (by omega) b)
    · rw [if_neg hlr]
      refine A _ _ _ (O.lt (by omega)) (O.lt (by omega)) ?_
      by_cases hc : rkAt rk p k < rkAt rk p ((l + r) / 2)
      · simp only [decide_eq_true hc, if_true]
        refine place_ok A O hk hs f l ((l + r) / 2) (by omega) (by omega) (by omega) h1 (fun i a b => ?_) h
        have := hs ((l + r) / 2) i a b
        omega
      · simp only [decide_eq_false hc, Bool.false_eq_true, if_false]
        refine place_ok A O hk hs f ((l + r) / 2 + 1) r (by omega) (by omega) hr (fun i a => ?_) h2 h
        have := hs i ((l + r) / 2) (by omega) (by omega)
        omega

theorem bin_ok (A : Ans cmp rk n s) {Q : Array Nat → Shared → Prop} : ∀ (f : Nat) (p : Array Nat) (k : Nat), Ord n p → k + f = n → UpTo rk p k → (∀ p', Ord n p' → UpTo rk p' n → Q p' s) → (kas_bin f p k).kasWp cmp Q s
  | 0, p, k, O, hk, hs, h => h p O (by rw [← hk]; exact hs)
  | f + 1, p, k, O, hk, hs, h => by
    rw [show kas_bin (f + 1) p k = (kas_place p k k 0 k).bind fun l => kas_bin f (bubble p k (k - l)) (k + 1) from rfl, KasT.kasWp_bind]
    refine place_ok A O (by omega) hs k 0 k (by omega) (by omega) (Nat.le_refl _) (fun i a => by omega) (fun i a b => by omega) fun l hl h1 h2 => ?_
    refine bin_ok A f _ (k + 1) (O.bub _ _) (by omega) (fun i j hij hj => ?_) h
    have hz := O.size
    rw [rk_bub (by omega) (by omega), rk_bub (by omega) (by omega)]
    have x1 := fun a b => hs a b
    repeat' split
    all_goals first | exact Int.le_refl _ | exact hs _ _ (by omega) (by omega) | exact h1 _ (by omega) | exact Int.le_of_lt (h2 _ (by omega) (by omega)) | (exfalso; omega)

theorem sort_ok (A : Ans cmp rk n s) {Q : Array Nat → Shared → Prop} (hn : 1 ≤ n) (h : ∀ p, Ord n p → UpTo rk p n → Q p s) : (kas_sort n).kasWp cmp Q s := by
  unfold kas_sort
  rw [KasT.kasWp_bind]
  refine count_ok A (Array.Perm.refl _) hn fun r p' O a b c => ?_
  dsimp only
  by_cases hr : r < n
  · rw [if_pos hr]
    refine bin_ok A _ _ _ O (by omega) ?_ h
    rw [show max r 1 = r by omega]; exact c
  · rw [if_neg hr]
    exact h p' O (by rw [show n = r by omega]; exact c)
end
end Mine
end

section
open PySem PySem.Spec PySem.Calls PySem.W PyProof.Rows PyProof.Rows.LCg
set_option Elab.async false
set_option maxHeartbeats 2000000
namespace Mine

/-- an iterator whose items a block's target takes -/
structure TW (prog : Program) (w : World) (A : Around) (target : PySem.Expr) (xs : List Str) (I : Addr) (fp wr : List Addr) (n : Nat) (Nm : Nat → (Str → Option Value) → Prop) (St : Nat → Heap → Prop) (fin : List (Addr × Obj)) : Prop where
  sub : ∀ b ∈ wr, b ∈ fp
  frame : ∀ i h h', St i h → (∀ b ∈ fp, ∀ o, h.get? b = some o → h'.get? b = some o) → St i h'
  item : ∀ i (s : Shared) (cenv : Env) (m : Str → Option Value) (K Z : Shared → Prop) (E : Value → Shared → Prop), i < n → St i s.heap → s.heap.Ns cenv.locals m → cenv.locals ∉ fp →
    (∀ x ∈ xs, cenv.kindOf x = some .local) → (cenv.scope.kind == .class || (cenv.scope.kind == .module && cenv.locals != cenv.globals)) = false →
    (∀ h' tk m₂, Nm i m₂ → St (i + 1) h' → h'.Ns cenv.locals m₂ → (∀ b o, b ∉ wr → b ≠ cenv.locals → s.heap.get? b = some o → h'.get? b = some o) → K { s with heap := h', toks := tk }) →
    wpAny (model prog w) A (pyNext (.ref I)) (fun r s₁ => match r with
      | none => Z s₁
      | some v => wpAny (model prog w) A (letOwnedTupleGo target (.ref I) v) (fun _ s₀ => wpAny (model prog w) A (assign target cenv v) (fun _ s₂ => K s₂) E s₀) E s₁) E s
  done : ∀ (s : Shared) (Q : Option Value → Shared → Prop) (E : Value → Shared → Prop), St n s.heap →
    (∀ h' tk, (∀ p ∈ fin, h'.get? p.1 = some p.2) → (∀ b o, b ∉ wr → s.heap.get? b = some o → h'.get? b = some o) → Q none { s with heap := h', toks := tk }) → wpAny (model prog w) A (pyNext (.ref I)) Q E s
  self : ∀ i (s : Shared) (Q : Value → Shared → Prop) (E : Value → Shared → Prop), St i s.heap → Q (.ref I) s → wpAny (model prog w) A (pyIter (.ref I)) Q E s

theorem fr_off {h₀ h h' : Heap} {L C : Addr} {wr : List Addr} {m : Str → Option Value} (F : Fr h₀ L h m) (hk : ∀ b o, b ∉ wr → b ≠ C → h.get? b = some o → h'.get? b = some o) (hL : L ∉ wr) (hLC : L ≠ C) (hw : ∀ b ∈ wr, h₀.get? b = none) (hC : h₀.get? C = none) : Fr h₀ L h' m :=
  ⟨F.ns.at' fun o e => hk L o hL hLC e, fun b o e => hk b o (fun q => by rw [hw b q] at e; cases e) (fun q => by rw [q, hC] at e; cases e) (F.keep b o e), F.above⟩

section
variable {prog : Program} {w : World} {A : Around} {E : Value → Shared → Prop} {s : Shared} {h₀ : Heap} {L : Addr} {m : Str → Option Value} {env : Env}

/-- the tokens only grow in a turn -/
theorem toks_turn {M : Model} {it : Value} {target : PySem.Expr} {cenv : Env} {X Z : Shared → Prop}
    (h : wpAny M A (pyNext it) (fun r s₁ => match r with
      | none => Z s₁
      | some v => wpAny M A (letOwnedTupleGo target it v) (fun _ s₀ => wpAny M A (assign target cenv v) (fun _ s₂ => s.toks ≤ s₂.toks → X s₂) E s₀) E s₁) E s) :
    wpAny M A (pyNext it) (fun r s₁ => match r with
      | none => Z s₁
      | some v => wpAny M A (letOwnedTupleGo target it v) (fun _ s₀ => wpAny M A (assign target cenv v) (fun _ s₂ => X s₂) E s₀) E s₁) E s := by
  refine wpAny_with_toks (n := s.toks) (Nat.le_refl _) (wpAny_mono h (fun r s₁ h₁ hn₁ => ?_) fun _ _ e _ => e)
  cases r with
  | none => exact h₁
  | some v => exact wpAny_with_toks hn₁ (wpAny_mono h₁ (fun _ s₀ h₀ hn₀ => wpAny_with_toks hn₀ (wpAny_mono h₀ (fun _ s₂ h₂ hn₂ => h₂ hn₂) fun _ _ e _ => e)) fun _ _ e _ => e)

/-- what a turn of the block must show -/
def TurnsOk (prog : Program) (w : World) (A : Around) (h₀ : Heap) (L : Addr) (m : Str → Option Value) (env : Env) (elt : PySem.Expr) (scope : Scope) (cl : List (Str × Addr)) (s₂ : Shared) (fp : List Addr) (n : Nat) (Nm : Nat → (Str → Option Value) → Prop) (St : Nat → Heap → Prop) (J : Nat → List Value → List (Addr × Obj) → Nat → Prop) : Prop :=
  ∀ i ys nw own C oC D m₂ h tk (E' : Value → Shared → Prop), i < n → ys.length = i → J i ys nw tk → NsObj oC m₂ → Nm i m₂ → St (i + 1) h → Fr h₀ L h m → News h₀ L h ((C, oC) :: (D, lst ys) :: (own ++ nw)) → (∀ p ∈ own, p.1 ∈ fp) → (∀ b ∈ fp, h₀.get? b = none → ∀ o, h.get? b = some o → (b, o) ∈ own) →
    C ≠ D → C ∉ fp → D ∉ fp → (∀ p ∈ nw, p.1 ≠ C ∧ p.1 ≠ D) →
    wpAny (model prog w) A (eval elt (compEnvC scope cl C env)) (fun y s₃ => ∃ h' tk' nw', s₃ = { s₂ with heap := h', toks := tk' } ∧ Fr h₀ L h' m ∧ News h₀ L h' ((C, oC) :: (D, lst ys) :: (own ++ nw')) ∧ (∀ p ∈ nw', p.1 ≠ C ∧ p.1 ≠ D) ∧ J (i + 1) (ys ++ [y]) nw' tk') E' { s₂ with heap := h, toks := tk }

theorem comp_block {target elt iter : PySem.Expr} {xs : List Str} {scope : Scope} {cl : List (Str × Addr)} {pos : Pos} {s₂ : Shared} {I : Addr} {fp wr : List Addr} {n : Nat} {Nm : Nat → (Str → Option Value) → Prop} {St : Nat → Heap → Prop} {fin : List (Addr × Obj)} {news : List (Addr × Obj)}
    {J : Nat → List Value → List (Addr × Obj) → Nat → Prop} {RR : Value → Addr → Result → Shared → Prop}
    (W : TW prog w A target xs I fp wr n Nm St fin) (hsz : n ≤ sizeLine) (hcell : ∀ y ∈ scope.names, y.2 ≠ .cell) (hkind : scope.kind = .function) (hx : ∀ x ∈ xs, scope.names.lookup x = some .local)
    (hst : St 0 s₂.heap) (hfp : ∀ b ∈ fp, b < s₂.heap.objs.size) (F : Fr h₀ L s₂.heap m) (N : News h₀ L s₂.heap news) (hLf : L ∉ fp) (hwr : ∀ b ∈ wr, h₀.get? b = none)
    (hoff : ∀ i ys nw tk, J i ys nw tk → ∀ p ∈ nw, p.1 ∉ wr) (hmono : ∀ i ys nw tk tk', J i ys nw tk → tk ≤ tk' → J i ys nw tk') (hJ : J 0 [] news s₂.toks) (hfin : ∀ p ∈ fin, p.1 ∈ fp ∧ h₀.get? p.1 = none)
    (turn : TurnsOk prog w A h₀ L m env elt scope cl s₂ fp n Nm St J)
    (hRR : ∀ D C h tk m' ys nw, Fr h₀ L h m → News h₀ L h ((D, lst ys) :: (fin ++ nw)) → h.Ns C m' → h₀.get? C = none → h₀.get? D = none → C ≠ L → D ≠ L → C ≠ D → (∀ p ∈ fin ++ nw, p.1 ≠ C ∧ p.1 ≠ D) → ys.length = n → J n ys nw tk → RR (.ref D) C (.ok .next) { s₂ with heap := h, toks := tk }) :
    wpAny (model prog w) A (newList []) (fun acc s₃ => wpAny (model prog w) A (newFunctionEnv scope env.globals cl [] env.qual none .none (some env)) (fun cenv s₄ =>
      codeAny (model prog w) A (.compStart (.ListComp elt [⟨target, iter, [], 0⟩] scope pos) 0 (.ref I) acc { cenv with scope := relabel scope env }) (RR acc cenv.locals) s₄) E s₃) E s₂ := by
  refine wpAny_newObj_type (wpAny_newFunctionEnv hcell (by intro y hy; simp at hy) (fun h₁ hns₁ hsb₁ => ?_) hkind)
  dsimp only at hns₁ hsb₁ ⊢
  generalize hH2 : s₂.heap.push { cls := .type "list", dict := none, data := .seq ([] : List Value).toArray } = H2 at hns₁ hsb₁ ⊢
  have hC : H2.objs.size = s₂.heap.objs.size + 1 := by rw [← hH2, Heap.size_push]
  generalize hCa : H2.objs.size = C at *
  generalize hDa : s₂.heap.objs.size = D at *
  have lt : ∀ {b o}, s₂.heap.get? b = some o → b < D := fun e => hDa ▸ Heap.lt_size e
  have hCD : C ≠ D := by rw [hC]; exact Nat.succ_ne_self _
  have offs : ∀ b, b < D → b ≠ C ∧ b ≠ D := fun b hb => ⟨by rw [hC]; exact Nat.ne_of_lt (Nat.lt_succ_of_lt hb), Nat.ne_of_lt hb⟩
  have hCf : C ∉ fp := fun hm => (offs _ (hfp _ hm)).1 rfl
  have hDf : D ∉ fp := fun hm => (offs _ (hfp _ hm)).2 rfl
  have old : ∀ b o, s₂.heap.get? b = some o → h₁.get? b = some o := fun b o e => hsb₁.extBut b o (offs b (lt e)).1 (Heap.get?_push_of_some _ (hH2 ▸ Heap.get?_push_of_some _ e))
  have hacc : h₁.get? D = some (lst []) := hsb₁.extBut _ _ (Ne.symm hCD) (Heap.get?_push_of_some _ (hH2 ▸ hDa ▸ Heap.get?_push_size _ rfl))
  have none₀ : ∀ a, D ≤ a → h₀.get? a = none := fun a ha => by
    cases e : h₀.get? a with
    | none => rfl
    | some o' => exact absurd (lt (F.keep a o' e)) (Nat.not_lt.mpr ha)
  have hD₀ := none₀ D (Nat.le_refl _)
  have hC₀ := none₀ C (by rw [hC]; exact Nat.le_succ _)
  have hLlt : L < D := hDa ▸ F.ns.lt
  have hLC : L ≠ C := (offs L hLlt).1
  have hLD : L ≠ D := (offs L hLlt).2
  have hLw : L ∉ wr := fun q => hLf (W.sub _ q)
  have hCw : C ∉ wr := fun q => hCf (W.sub _ q)
  have hDw : D ∉ wr := fun q => hDf (W.sub _ q)
  have loop : ∀ s₃ : Shared, s₃ = { s₂ with heap := h₁, toks := s₂.toks + ([] : List (Str × Value)).length } →
      codeAny (model prog w) A (.compLoop (.ListComp elt [⟨target, iter, [], 0⟩] scope pos) 0 (.ref I) (.ref D) (compEnvC scope cl C env)) (RR (.ref D) C) s₃ := by
    rintro s₃ rfl
    refine kcp_loop (fun k s' => ∃ h' tk i ys m' nw, s' = { s₂ with heap := h', toks := tk } ∧ i ≤ n ∧ k = n + 1 - i ∧ ys.length = i ∧ St i h' ∧ Fr h₀ L h' m ∧ h'.Ns C m' ∧ News h₀ L h' ((D, lst ys) :: nw) ∧ (∀ p ∈ nw, p.1 ≠ C ∧ p.1 ≠ D) ∧ J i ys nw tk) ?_ (n + 1)
      ⟨h₁, _, 0, [], _, news, rfl, Nat.zero_le _, rfl, rfl, W.frame _ _ _ hst fun b _ o e => old b o e, F.keeps old, hns₁, fun p hp => ?_, fun p hp => offs _ (lt (N p hp).1), hJ⟩
    · rintro k s' ⟨h', tk, i, ys, m', nw, rfl, hi, rfl, hyl, hst', F', hn', N', off', J'⟩
      by_cases hlt : i < n
      · refine toks_turn (W.item i _ (compEnvC scope cl C env) m' _ _ _ hlt hst' hn' hCf (fun x h => lookup_relabel_local (hx x h)) (by simp [compEnvC, relabel, hkind]) fun h₃ tk₃ m₂ hNm hst₃ hn₃ hk₃ => ?_)
        intro htk₃
        dsimp only at htk₃
        replace J' := hmono _ _ _ _ tk₃ J' htk₃
        obtain ⟨oC, heC, hoC⟩ := ns_obj hn₃
        have F₃ : Fr h₀ L h₃ m := fr_off F' hk₃ hLw hLC hwr hC₀
        have hown : ∀ p ∈ fp.filterMap (fun b => if h₀.get? b = none then (h₃.get? b).map (fun o => (b, o)) else none), p.1 ∈ fp ∧ h₀.get? p.1 = none ∧ h₃.get? p.1 = some p.2 := by
          intro p hp
          obtain ⟨b, hb, e⟩ := List.mem_filterMap.mp hp
          split at e
          · rename_i hb0
            cases eo : h₃.get? b with
            | none => rw [eo] at e; cases e
            | some o => rw [eo] at e; cases e; exact ⟨hb, hb0, eo⟩
          · cases e
        have hall : ∀ b ∈ fp, h₀.get? b = none → ∀ o, h₃.get? b = some o → (b, o) ∈ fp.filterMap (fun b => if h₀.get? b = none then (h₃.get? b).map (fun o => (b, o)) else none) := by
          intro b hb hb0 o eo
          refine List.mem_filterMap.mpr ⟨b, hb, ?_⟩
          rw [if_pos hb0, eo]; rfl
        generalize fp.filterMap (fun b => if h₀.get? b = none then (h₃.get? b).map (fun o => (b, o)) else none) = own at hown hall
        have N₃ : News h₀ L h₃ ((C, oC) :: (D, lst ys) :: (own ++ nw)) := fun p hp => by
          rcases List.mem_cons.mp hp with rfl | hp
          · exact ⟨heC, Ne.symm hLC, hC₀⟩
          · rcases List.mem_cons.mp hp with rfl | hp
            · exact ⟨hk₃ _ _ hDw (Ne.symm hCD) (N' _ (.head _)).1, (N' _ (.head _)).2⟩
            · rcases List.mem_append.mp hp with hp | hp
              · exact ⟨(hown p hp).2.2, fun q => hLf (q ▸ (hown p hp).1), (hown p hp).2.1⟩
              · exact ⟨hk₃ _ _ (hoff _ _ _ _ J' p hp) (off' p hp).1 (N' _ (.tail _ hp)).1, (N' _ (.tail _ hp)).2⟩
        refine wpAny_mono (turn i ys nw own C oC D m₂ h₃ tk₃ _ hlt hyl J' hoC hNm hst₃ F₃ N₃ (fun p hp => (hown p hp).1) hall hCD hCf hDf off') (fun y s₄ h₄ => ?_) fun _ _ e => e
        obtain ⟨h₄, tk₄, nw₄, rfl, F₄, N₄, off₄, J₄⟩ := h₄
        have zC := (N₄ _ (.head _)).1
        have zD := (N₄ _ (.tail _ (.head _))).1
        have hst₄ : St (i + 1) h₄ := W.frame _ _ _ hst₃ fun b hb o e => by
          cases e0 : h₀.get? b with
          | none => exact (N₄ (b, o) (.tail _ (.tail _ (List.mem_append_left _ (hall b hb e0 o e))))).1
          | some o' =>
            have e1 := F₃.keep b o' e0
            rw [e] at e1
            cases e1
            exact F₄.keep b o e0
        refine append_at (hsz := by show ys.toArray.size ≤ sizeLine; rw [List.size_toArray, hyl]; exact Nat.le_trans hi hsz) zD fun h₅ hs₅ hD₅ => ?_
        refine ⟨n + 1 - (i + 1), by omega, h₅, tk₄, i + 1, ys ++ [y], _, nw₄, rfl, hlt, rfl, by rw [List.length_append, List.length_singleton, hyl], W.frame _ _ _ hst₄ fun b hb o e => hs₅.extBut b o (fun q => hDf (q ▸ hb)) e, F₄.change hs₅ (Ne.symm hLD) hD₀,
          (hoC.ns zC).sameBut hs₅ hCD, fun p hp => ?_, off₄, J₄⟩
        rcases List.mem_cons.mp hp with rfl | hp
        · exact ⟨hD₅.trans (congrArg some (lst_snoc ys y)), Ne.symm hLD, hD₀⟩
        · have z := N₄ p (.tail _ (.tail _ (List.mem_append_right _ hp)))
          exact ⟨hs₅.extBut _ _ (off₄ p hp).2 z.1, z.2⟩
      · obtain rfl : i = n := Nat.le_antisymm hi (Nat.not_lt.mp hlt)
        refine wpAny_with_toks (n := tk) (Nat.le_refl _) (W.done _ _ _ hst' fun h₂ tk₂ hf₂ hk₂ => ?_)
        intro htk₂
        dsimp only at htk₂
        replace J' := hmono _ _ _ _ tk₂ J' htk₂
        refine hRR D C h₂ tk₂ m' ys nw (fr_off F' (fun b o a _ e => hk₂ b o a e) hLw hLC hwr hC₀) (fun p hp => ?_) (hn'.at' fun o e => hk₂ _ o hCw e) hC₀ hD₀ (Ne.symm hLC) (Ne.symm hLD) hCD (fun p hp => ?_) hyl J'
        · rcases List.mem_cons.mp hp with rfl | hp
          · exact ⟨hk₂ _ _ hDw (N' _ (.head _)).1, (N' _ (.head _)).2⟩
          · rcases List.mem_append.mp hp with hp | hp
            · exact ⟨hf₂ p hp, fun q => hLf (q ▸ (hfin p hp).1), (hfin p hp).2⟩
            · exact ⟨hk₂ _ _ (hoff _ _ _ _ J' p hp) (N' _ (.tail _ hp)).1, (N' _ (.tail _ hp)).2⟩
        · rcases List.mem_append.mp hp with hp | hp
          · exact ⟨fun q => hCf (q ▸ (hfin p hp).1), fun q => hDf (q ▸ (hfin p hp).1)⟩
          · exact off' p hp
    · rcases List.mem_cons.mp hp with rfl | hp
      · exact ⟨hacc, Ne.symm hLD, hD₀⟩
      · exact ⟨old _ _ (N p hp).1, (N p hp).2⟩
  exact codeAny_compStart_list (loop _ rfl) (W.self 0 _ _ _ (W.frame _ _ _ hst fun b _ o e => old b o e) (loop _ rfl))

/-- the block over an iterator: all that it wants -/
def BlockOk (prog : Program) (w : World) (A : Around) (h₀ : Heap) (L : Addr) (m : Str → Option Value) (env : Env) (target elt : PySem.Expr) (xs : List Str) (scope : Scope) (cl : List (Str × Addr)) (mD : Addr → Str → Option Value) (Cn : Addr → Shared → Prop) (it : Value) (s₂ : Shared) : Prop :=
  ∃ I fp wr n Nm St fin news J, it = .ref I ∧ TW prog w A target xs I fp wr n Nm St fin ∧ n ≤ sizeLine ∧ St 0 s₂.heap ∧ (∀ b ∈ fp, b < s₂.heap.objs.size) ∧ Fr h₀ L s₂.heap m ∧ News h₀ L s₂.heap news ∧ L ∉ fp ∧ (∀ b ∈ wr, h₀.get? b = none) ∧
    (∀ i ys nw tk, J i ys nw tk → ∀ p ∈ nw, p.1 ∉ wr) ∧ (∀ i ys nw tk tk', J i ys nw tk → tk ≤ tk' → J i ys nw tk') ∧ J 0 [] news s₂.toks ∧ (∀ p ∈ fin, p.1 ∈ fp ∧ h₀.get? p.1 = none) ∧ TurnsOk prog w A h₀ L m env elt scope cl s₂ fp n Nm St J ∧
    ∀ D h tk ys nw, Fr h₀ L h (mD D) → News h₀ L h ((D, lst ys) :: (fin ++ nw)) → (∀ p ∈ fin ++ nw, p.1 ≠ D) → ys.length = n → J n ys nw tk → Cn D { s₂ with heap := h, toks := tk }

theorem comp_eval {target elt iter : PySem.Expr} (xs : List Str) {scope : Scope} {cl : List (Str × Addr)} {pos : Pos} {Q : Value → Shared → Prop} (F₀ : Fr h₀ L s.heap m)
    (hclos : closureFor scope env = pure cl) (hcell : ∀ y ∈ scope.names, y.2 ≠ .cell) (hkind : scope.kind = .function) (hnames : ∀ y ∈ scope.names, y.2 = .local → scope.names.lookup y.1 = some .local) (hx : ∀ x ∈ xs, scope.names.lookup x = some .local)
    (h : wpAny (model prog w) A (eval iter env) (fun xv s₁ => Hold (wpAny (model prog w) A (pyIter xv) (BlockOk prog w A h₀ L m env target elt xs scope cl (fun _ => m) (fun D s₃ => Q (.ref D) s₃)) E s₁)) E s)
    (hs : ∀ x, foldedSetIterable iter env x = pure x := by intro _; rfl) :
    wpAny (model prog w) A (eval (.ListComp elt [⟨target, iter, [], 0⟩] scope pos) env) Q E s := by
  rw [eval_ListComp]
  refine wpAny_comprehension_free (use := none) rfl hs hclos hkind hnames (wpAny_mono h (fun xv s₁ h₁ => ?_) fun _ _ e => e)
  refine wpAny_mono h₁ (fun it s₂ h₂ => ?_) fun _ _ e => e
  obtain ⟨I, fp, wr, n, Nm, St, fin, news, J, rfl, W, hsz, hst, hfp, F, N, hLf, hwr, hoff, hmono, hJ, hfin, turn, done⟩ := h₂
  refine comp_block W hsz hcell hkind hx hst hfp F N hLf hwr hoff hmono hJ hfin turn fun D C h tk m' ys nw F' N' hn hC₀ hD₀ hCL hDL hCD off hyl hJ' => ?_
  refine ⟨m', hn, fun h'' hs'' => done D h'' tk ys nw (F'.change hs'' hCL hC₀) (fun p hp => ⟨hs''.extBut _ _ ?_ (N' p hp).1, (N' p hp).2⟩) (fun p hp => (off p hp).2) hyl hJ'⟩
  rcases List.mem_cons.mp hp with rfl | hp
  · exact Ne.symm hCD
  · exact (off p hp).1

theorem comp_assign {target elt iter : PySem.Expr} (xs : List Str) {y : Str} {py : Pos} {scope : Scope} {cl : List (Str × Addr)} {pos spos : Pos} {Q : Flow → Shared → Prop} (F₀ : Fr h₀ L s.heap m) (hLe : env.locals = L)
    (hsw : swapsWith (.ListComp elt [⟨target, iter, [], 0⟩] scope pos) (some (.Name y py)) spos.line env = pure true)
    (hclos : closureFor scope env = pure cl) (hcell : ∀ y ∈ scope.names, y.2 ≠ .cell) (hkind : scope.kind = .function) (hnames : ∀ y ∈ scope.names, y.2 = .local → scope.names.lookup y.1 = some .local) (hx : ∀ x ∈ xs, scope.names.lookup x = some .local)
    (hy : env.kindOf y = some .local) (hp : (env.scope.kind == .class || (env.scope.kind == .module && env.locals != env.globals)) = false)
    (h : wpAny (model prog w) A (eval iter env) (fun xv s₁ => Hold (wpAny (model prog w) A (pyIter xv) (BlockOk prog w A h₀ L m env target elt xs scope cl (fun D z => if z = y then some (.ref D) else m z) (fun _ s₃ => Q .next s₃)) E s₁)) E s)
    (hs : ∀ x, foldedSetIterable iter env x = pure x := by intro _; rfl) :
    wpAny (model prog w) A (exec (.Assign [.Name y py] (.ListComp elt [⟨target, iter, [], 0⟩] scope pos) spos) env) Q E s := by
  subst hLe
  rw [exec_Assign_Name_used _ _ _ _ hsw]
  refine wpAny_bind (wpAny_standAt (wpAny_bind ?_))
  show wpAny _ A (do let _ ← comprehension (.ListComp elt [⟨target, iter, [], 0⟩] scope pos) scope env _ (newList []) false (eval iter env) (some (assign (.Name y py) env))) _ _ s
  refine wpAny_bind (wpAny_mono (wpAny_comprehension_free (use := some (assign (.Name y py) env)) (Q := fun _ s' => Q .next s') rfl hs hclos hkind hnames
    (wpAny_mono h (fun xv s₁ h₁ => ?_) fun _ _ e => e)) (fun _ s' hq => wpAny_pure (wpAny_pure hq)) fun _ _ e => e)
  refine wpAny_mono h₁ (fun it s₂ h₂ => ?_) fun _ _ e => e
  obtain ⟨I, fp, wr, n, Nm, St, fin, news, J, rfl, W, hsz, hst, hfp, F, N, hLf, hwr, hoff, hmono, hJ, hfin, turn, done⟩ := h₂
  refine comp_block W hsz hcell hkind hx hst hfp F N hLf hwr hoff hmono hJ hfin turn fun D C h tk m' ys nw F' N' hn hC₀ hD₀ hCL hDL hCD off hyl hJ' => ?_
  show wpAny _ A (assign (.Name y py) env (.ref D)) _ _ _
  refine wpAny_assign_Name (wpAny_storeName_local hy F'.ns (fun h₂ hn₂ hs₂ => ?_) hp)
  have hL₀ : h₀.get? env.locals = none := Heap.get?_none_of_le F'.above
  have F₂ : Fr h₀ env.locals h₂ (fun z => if z = y then some (.ref D) else m z) := ⟨hn₂, fun b o e => hs₂.extBut b o (fun q => by rw [q, hL₀] at e; cases e) (F'.keep b o e), F'.above⟩
  refine ⟨m', hn.sameBut hs₂ hCL, fun h'' hs'' => done D h'' _ ys nw (F₂.change hs'' hCL hC₀) (fun p hp => ?_) (fun p hp => (off p hp).2) hyl (hmono _ _ _ _ _ hJ' (Nat.le_succ _))⟩
  have z : h₂.get? p.1 = some p.2 := hs₂.extBut _ _ (N' p hp).2.1 (N' p hp).1
  refine ⟨hs''.extBut _ _ ?_ z, (N' p hp).2⟩
  rcases List.mem_cons.mp hp with rfl | hp
  · exact Ne.symm hCD
  · exact (off p hp).1
end
end Mine
end

section
open PySem PySem.Spec PySem.Calls PySem.W PyProof.Rows PyProof.Rows.LCg
set_option Elab.async false
set_option maxHeartbeats 2000000
namespace Mine
section
variable {prog : Program} {w : World} {A : Around} {E : Value → Shared → Prop} {s : Shared}

theorem nextOf_range {it : Addr} {x left step : Int} {Q : Value → Shared → Prop} (hit : IsRangeIter s.heap it x left step) (hleft : 0 < left)
    (hQ : ∀ h', IsRangeIter h' it (x + step) (left - 1) step → Heap.SameBut it s.heap h' → Q (.int x s.toks) { s with heap := h', toks := s.toks + 1 }) :
    wpAny (model prog w) A (Builtin.SmallTypes.nextOf (.ref it)) Q E s := by
  have hT : s.TypeIs (.ref it) "range_iterator" := ⟨_, hit, rfl⟩
  unfold Builtin.SmallTypes.nextOf
  refine wpAny_bind (wpAny_callSpecial?_slot (name := Str.ofString "__next__") hT F.slot_range_iterator_next
    (call_meets F.slot_range_iterator_next hT F.entry_range_iterator_next (F.args_range_iterator_next_1 _) (AutoRange.range_iterator___next___range_iterator_1 it x left step (by omega)) ⟨hit, ?_⟩))
  exact wpAny_pure (hQ _ (Heap.get?_update_self _ (Heap.get?_update_self _ hit rfl) rfl) ((Heap.SameBut.update ..).trans (Heap.SameBut.update ..)))

theorem nextOf_range_end {it : Addr} {x left step : Int} {Q : Value → Shared → Prop} (hh : A.handled = none) (hit : IsRangeIter s.heap it x left step) (hleft : left ≤ 0)
    (hE : ∀ h' e, Heap.ExtBut it s.heap h' → (∃ o, h'.get? e = some o ∧ o.cls = .type "StopIteration") → E (.ref e) { s with heap := h' }) :
    wpAny (model prog w) A (Builtin.SmallTypes.nextOf (.ref it)) Q E s := by
  have hT : s.TypeIs (.ref it) "range_iterator" := ⟨_, hit, rfl⟩
  unfold Builtin.SmallTypes.nextOf
  refine wpAny_bind (wpAny_callSpecial?_slot (name := Str.ofString "__next__") hT F.slot_range_iterator_next
    (wpAny_call_entry F.slot_range_iterator_next hT F.entry_range_iterator_next ?_ (F.args_range_iterator_next_1 _)))
  show wpAny _ _ (field (.ref it) 0 >>= _) _ _ s
  refine wpAny_bind (wpAny_field hit rfl (x := rawInt x) rfl ?_)
  show wpAny _ _ (field (.ref it) 1 >>= _) _ _ s
  refine wpAny_bind (wpAny_field hit rfl (x := rawInt left) rfl ?_)
  show wpAny _ _ (field (.ref it) 2 >>= _) _ _ s
  refine wpAny_bind (wpAny_field hit rfl (x := rawInt step) rfl ?_)
  show wpAny _ _ (if left ≤ 0 then _ else _) _ _ s
  rw [if_pos hleft]
  refine wpAny_bind (wpAny_rule ?_)
  refine wpAny_bind ?_
  show wpAny _ _ (newExc (.type "StopIteration") [] >>= _) _ _ _
  refine wpAny_bind ?_
  simp only [newExc, newTuple]
  refine wpAny_bind (wpAny_newObj_type ?_ (by size_fits))
  refine wpAny_bind (m := firstArgMember _ _) (wpAny_of_eq (a := Value.none) (by first | rfl | (simp only [firstArgMember]; rfl)) ?_)
  refine wpAny_newObj_type ?_ (by size_fits)
  simp only [raiseNew]
  refine wpAny_bind (wpAny_handled ?_)
  first | rw [show A.in1.handled = none from hh] | rw [hh]
  refine wpAny_bind (wpAny_pure (wpAny_throw ?_))
  exact hE _ _ (((Heap.ExtBut.refl it s.heap).push _).push _) ⟨_, Heap.get?_push_size _ rfl, rfl⟩

/-- a list's iterator, whole -/
abbrev lIt (l : Addr) (i : Nat) : Obj := { cls := .type "list_iterator", data := .fields #[.ref l, .int i 0] }
theorem lIt_is {h : Heap} {it l : Addr} {i : Nat} (e : h.get? it = some (lIt l i)) : h.IsListIter it l i := ⟨_, e, rfl, rfl⟩

theorem listNext {it l : Addr} {i : Nat} {items : Array Value} {x : Value} {Q : PySem.Fin → Shared → Prop} (hit : s.heap.get? it = some (lIt l i)) (hl : s.heap.IsList l items) (hx : items[i]? = some x)
    (hQ : ∀ h', h'.get? it = some (lIt l (i + 1)) → Heap.SameBut it s.heap h' → Q (.done (.ret x)) { s with heap := h' }) :
    wpAny (model prog w) A (Builtin.«list_iterator.__next__» ⟨[.ref it], []⟩) Q E s := by
  obtain ⟨ol, hol, _, nl, hdl⟩ := hl
  show wpAny _ _ (field (.ref it) 0 >>= _) _ _ s
  refine wpAny_bind (wpAny_field hit rfl (x := .ref l) rfl ?_)
  show wpAny _ _ (if (Value.ref l == Value.none) = true then _ else _) _ _ s
  rw [if_neg (show ¬ ((Value.ref l == Value.none) = true) from Bool.false_ne_true)]
  show wpAny _ _ (field (.ref it) 1 >>= _) _ _ s
  refine wpAny_bind (wpAny_field hit rfl (x := .int i 0) rfl ?_)
  show wpAny _ _ (seqItems? (.ref l) >>= _) _ _ s
  refine wpAny_bind (wpAny_seqItems hol hdl ?_)
  simp only [Int.toNat_natCast, hx]
  refine wpAny_bind (wpAny_setField_rec hit (by simp) fun h₁ h1 hs₁ => wpAny_pure (hQ h₁ ?_ hs₁))
  exact h1

theorem nextOf_listX {it l : Addr} {i : Nat} {items : Array Value} {x : Value} {Q : Value → Shared → Prop} (hit : s.heap.get? it = some (lIt l i)) (hl : s.heap.IsList l items) (hx : items[i]? = some x)
    (hQ : ∀ h', h'.get? it = some (lIt l (i + 1)) → Heap.SameBut it s.heap h' → Q x { s with heap := h' }) :
    wpAny (model prog w) A (Builtin.SmallTypes.nextOf (.ref it)) Q E s := by
  have hT : s.TypeIs (.ref it) "list_iterator" := (lIt_is hit).typeIs
  unfold Builtin.SmallTypes.nextOf
  refine wpAny_bind (wpAny_callSpecial?_slot (name := Str.ofString "__next__") hT slot_listiter_next (wpAny_call_entry slot_listiter_next hT entry_listiter_next (listNext hit hl hx fun h' a b => ?_) (args_listiter_next _)))
  exact ⟨_, rfl, wpAny_pure (hQ h' a b)⟩

/-- the objects of a zip over a range and a list's iterator are apart -/
structure ZApart (z TI TO i1 i2 l : Addr) : Prop where
  TIz : TI ≠ z
  TOz : TO ≠ z
  i1z : i1 ≠ z
  i2z : i2 ≠ z
  TITO : TI ≠ TO
  TIi1 : TI ≠ i1
  TIi2 : TI ≠ i2
  TOi1 : TO ≠ i1
  TOi2 : TO ≠ i2
  i12 : i1 ≠ i2
  lz : l ≠ z
  lTO : l ≠ TO
  li1 : l ≠ i1
  li2 : l ≠ i2

theorem zipR_item {z TI TO i1 i2 l : Addr} {k : Nat} {x0 left step : Int} {ys : Array Value} {y a b : Value} {Q : Option Value → Shared → Prop} (D : ZApart z TI TO i1 i2 l)
    (hz : IsZip s.heap z TI TO .none) (hTI : IsPair s.heap TI (.ref i1) (.ref i2)) (hTO : IsPair s.heap TO a b)
    (h1 : IsRangeIter s.heap i1 x0 left step) (hleft : 0 < left) (h2 : s.heap.get? i2 = some (lIt l k)) (hl : s.heap.IsList l ys) (hy : ys[k]? = some y)
    (hQ : ∀ h' (T : Addr) tk, IsZip h' z TI TO (rawInt (T : Nat)) → IsPair h' TO (.int x0 tk) y → IsRangeIter h' i1 (x0 + step) (left - 1) step → h'.get? i2 = some (lIt l (k + 1)) → IsPair h' T (.int x0 tk) y → s.heap.objs.size ≤ T →
      (∀ c o, c ≠ z → c ≠ TO → c ≠ i1 → c ≠ i2 → s.heap.get? c = some o → h'.get? c = some o) → Q (some (.ref T)) { s with heap := h', toks := tk + 1 }) :
    wpAny (model prog w) A (pyNext (.ref z)) Q E s := by
  have hT : s.TypeIs (.ref z) "zip" := ⟨_, hz, rfl⟩
  unfold pyNext
  refine wpAny_bind (wpAny_attempt (wpAny_callSpecial?_slot (name := Str.ofString "__next__") hT F.slot_zip_next (wpAny_call_entry F.slot_zip_next hT F.entry_zip_next ?_ (F.args_zip_next_1 _))))
  show wpAny _ _ (field (.ref z) 2 >>= _) _ _ _
  refine wpAny_bind (wpAny_field hz rfl (x := .bool false) rfl ?_)
  show wpAny _ _ (field (.ref z) 3 >>= _) _ _ _
  refine wpAny_bind (wpAny_field hz rfl (x := .ref TI) rfl ?_)
  refine wpAny_bind (wpAny_seqItems hTI rfl ?_)
  show wpAny _ _ (Builtin.SmallTypes.ownedTupleIsFree (.ref z) >>= _) _ _ _
  refine wpAny_bind ?_
  unfold Builtin.SmallTypes.ownedTupleIsFree
  refine wpAny_bind (wpAny_field hz rfl (x := .none) rfl (wpAny_pure ?_))
  simp only [if_true]
  refine wpAny_bind (wpAny_rule ?_)
  refine wpAny_bind (wpAny_field hz rfl (x := .ref TO) rfl ?_)
  refine wpAny_bind (wpAny_setField_rec hz (by simp) fun h₁ hz₁ hs₁ => ?_)
  replace hz₁ : IsZip h₁ z TI TO .ellipsis := hz₁
  refine wpAny_bind ?_
  simp only [List.zipIdx_cons, List.zipIdx_nil, List.forIn_cons, List.forIn_nil]
  refine wpAny_bind (wpAny_bind (wpAny_onRaise ?_))
  show wpAny _ _ (Builtin.SmallTypes.nextOf (.ref i1) >>= _) _ _ _
  refine wpAny_bind (nextOf_range (hs₁.extBut _ _ D.i1z h1) hleft fun h₂ h1₂ hs₂ => wpAny_pure ?_)
  have hTO₂ : IsPair h₂ TO a b := hs₂.extBut _ _ D.TOi1 (hs₁.extBut _ _ D.TOz hTO)
  refine wpAny_bind (wpAny_seqItems hTO₂ rfl ?_)
  refine wpAny_bind (wpAny_updateSeq_pair hTO₂ fun h₃ hTO₃ hs₃ => ?_)
  replace hTO₃ : IsPair h₃ TO (.int x0 s.toks) b := hTO₃
  refine wpAny_bind (wpAny_letGo (wpAny_pure ?_))
  refine wpAny_bind (wpAny_bind (wpAny_onRaise ?_))
  show wpAny _ _ (Builtin.SmallTypes.nextOf (.ref i2) >>= _) _ _ _
  refine wpAny_bind (nextOf_listX (hs₃.extBut _ _ D.TOi2.symm (hs₂.extBut _ _ D.i12.symm (hs₁.extBut _ _ D.i2z h2)))
    (((hl.extBut hs₁.extBut D.lz).extBut hs₂.extBut D.li1).extBut hs₃.extBut D.lTO) hy fun h₄ h2₄ hs₄ => wpAny_pure ?_)
  have hTO₄ : IsPair h₄ TO (.int x0 s.toks) b := hs₄.extBut _ _ D.TOi2 hTO₃
  refine wpAny_bind (wpAny_seqItems hTO₄ rfl ?_)
  refine wpAny_bind (wpAny_updateSeq_pair hTO₄ fun h₅ hTO₅ hs₅ => ?_)
  replace hTO₅ : IsPair h₅ TO (.int x0 s.toks) y := hTO₅
  refine wpAny_bind (wpAny_letGo (wpAny_pure (wpAny_pure ?_)))
  refine wpAny_bind (wpAny_seqItems hTO₅ rfl ?_)
  refine wpAny_bind (wpAny_newTuple ?_)
  have hsz : h₅.objs.size = s.heap.objs.size := by rw [hs₅.1, hs₄.1, hs₃.1, hs₂.1, hs₁.1]
  have hz₅ : IsZip h₅ z TI TO .ellipsis := hs₅.extBut _ _ D.TOz.symm (hs₄.extBut _ _ D.i2z.symm (hs₃.extBut _ _ D.TOz.symm (hs₂.extBut _ _ D.i1z.symm hz₁)))
  have hk₅ : ∀ c o, c ≠ z → c ≠ TO → c ≠ i1 → c ≠ i2 → s.heap.get? c = some o → h₅.get? c = some o := fun c o c1 c2 c3 c4 e =>
    hs₅.extBut _ _ c2 (hs₄.extBut _ _ c4 (hs₃.extBut _ _ c2 (hs₂.extBut _ _ c3 (hs₁.extBut _ _ c1 e))))
  have h1₅ : IsRangeIter h₅ i1 (x0 + step) (left - 1) step := hs₅.extBut _ _ D.TOi1.symm (hs₄.extBut _ _ D.i12 (hs₃.extBut _ _ D.TOi1.symm h1₂))
  have h2₅ : h₅.get? i2 = some (lIt l (k + 1)) := hs₅.extBut _ _ D.TOi2.symm h2₄
  have hzlt : z < h₅.objs.size := Heap.lt_size hz₅
  show wpAny _ _ (Builtin.SmallTypes.ownedTupleHandOut (.ref z) (.ref h₅.objs.size) >>= _) _ _ _
  refine wpAny_bind ?_
  unfold Builtin.SmallTypes.ownedTupleHandOut
  have hz₆ : IsZip (h₅.push { cls := .type "tuple", data := .seq #[.int x0 s.toks, y] }) z TI TO .ellipsis := Heap.get?_push_of_some _ hz₅
  refine wpAny_bind (wpAny_setField_rec hz₆ (by simp) fun h₇ hz₇ hs₇ => ?_)
  replace hz₇ : IsZip h₇ z TI TO (rawInt h₅.objs.size) := hz₇
  refine wpAny_setField_rec hz₇ (by simp) fun h₈ hz₈ hs₈ => ?_
  replace hz₈ : IsZip h₈ z TI TO (rawInt h₅.objs.size) := hz₈
  have up : ∀ c o, c ≠ z → h₅.get? c = some o → h₈.get? c = some o := fun c o c1 e => hs₈.extBut _ _ c1 (hs₇.extBut _ _ c1 (Heap.get?_push_of_some _ e))
  have hT₈ : IsPair h₈ h₅.objs.size (.int x0 s.toks) y := hs₈.extBut _ _ (Nat.ne_of_gt hzlt) (hs₇.extBut _ _ (Nat.ne_of_gt hzlt) (Heap.get?_push_size _ rfl))
  refine wpAny_pure ⟨_, rfl, wpAny_pure ?_⟩
  exact hQ h₈ h₅.objs.size s.toks hz₈ (up _ _ D.TOz hTO₅) (up _ _ D.i1z h1₅) (up _ _ D.i2z h2₅) hT₈ (Nat.le_of_eq hsz.symm) fun c o c1 c2 c3 c4 e => up c o c1 (hk₅ c o c1 c2 c3 c4 e)

theorem zipR_end {z TI TO i1 i2 l : Addr} {x0 left step : Int} {a b : Value} {Q : Option Value → Shared → Prop} (hh : A.handled = none) (D : ZApart z TI TO i1 i2 l)
    (hz : IsZip s.heap z TI TO .none) (hTI : IsPair s.heap TI (.ref i1) (.ref i2)) (hTO : IsPair s.heap TO a b) (h1 : IsRangeIter s.heap i1 x0 left step) (hleft : left ≤ 0)
    (hQ : ∀ h', (∀ c o, c ≠ z → c ≠ TO → c ≠ i1 → s.heap.get? c = some o → h'.get? c = some o) → Q none { s with heap := h' }) : wpAny (model prog w) A (pyNext (.ref z)) Q E s := by
  have hT : s.TypeIs (.ref z) "zip" := ⟨_, hz, rfl⟩
  unfold pyNext
  refine wpAny_bind (wpAny_attempt (wpAny_callSpecial?_slot (name := Str.ofString "__next__") hT F.slot_zip_next (wpAny_call_entry F.slot_zip_next hT F.entry_zip_next ?_ (F.args_zip_next_1 _))))
  show wpAny _ _ (field (.ref z) 2 >>= _) _ _ _
  refine wpAny_bind (wpAny_field hz rfl (x := .bool false) rfl ?_)
  show wpAny _ _ (field (.ref z) 3 >>= _) _ _ _
  refine wpAny_bind (wpAny_field hz rfl (x := .ref TI) rfl ?_)
  refine wpAny_bind (wpAny_seqItems hTI rfl ?_)
  show wpAny _ _ (Builtin.SmallTypes.ownedTupleIsFree (.ref z) >>= _) _ _ _
  refine wpAny_bind ?_
  unfold Builtin.SmallTypes.ownedTupleIsFree
  refine wpAny_bind (wpAny_field hz rfl (x := .none) rfl (wpAny_pure ?_))
  simp only [if_true]
  refine wpAny_bind (wpAny_rule ?_)
  refine wpAny_bind (wpAny_field hz rfl (x := .ref TO) rfl ?_)
  refine wpAny_bind (wpAny_setField_rec hz (by simp) fun h₁ hz₁ hs₁ => ?_)
  replace hz₁ : IsZip h₁ z TI TO .ellipsis := hz₁
  refine wpAny_bind ?_
  simp only [List.zipIdx_cons, List.zipIdx_nil, List.forIn_cons, List.forIn_nil]
  refine wpAny_bind (wpAny_bind (wpAny_onRaise ?_))
  show wpAny _ _ (Builtin.SmallTypes.nextOf (.ref i1) >>= _) _ _ _
  refine wpAny_bind (nextOf_range_end hh (hs₁.extBut _ _ D.i1z h1) hleft fun h₂ e hs₂ he => ?_)
  obtain ⟨oe, hoe, hce⟩ := he
  have hz₂ : IsZip h₂ z TI TO .ellipsis := hs₂ _ _ D.i1z.symm hz₁
  have hez : e ≠ z := fun x => by subst x; rw [hz₂] at hoe; cases hoe; simp at hce
  refine wpAny_setField_rec hz₂ (by simp) fun h₃ _ hs₃ => ?_
  refine wpAny_bind (wpAny_isInstance (T := "StopIteration") (b := true) ⟨oe, hs₃.extBut _ _ hez hoe, hce⟩ isSubtype_stop ?_)
  exact wpAny_pure (hQ _ fun c o c1 _ c3 x => hs₃.extBut _ _ c1 (hs₂ _ _ c3 (hs₁.extBut _ _ c1 x)))

/-- names take a tuple's items -/
theorem assign_names {env : Env} {kk : Nat} {tp : Pos} {T : Addr} {m : Str → Option Value} {Q : Unit → Shared → Prop} (hh : A.handled = none) (hp : (env.scope.kind == .class || (env.scope.kind == .module && env.locals != env.globals)) = false) (nps : List (Str × Pos)) (vals : List Value)
    (ht : s.heap.IsTuple T vals.toArray) (hlen : nps.length = vals.length) (hk : ∀ x ∈ nps.map Prod.fst, env.kindOf x = some .local) (hn : s.heap.Ns env.locals m)
    (h : ∀ (h' : Heap) (tk : Nat), h'.Ns env.locals (fun z => ((nps.map Prod.fst).zip vals).reverse.lookup z |>.or (m z)) → (∀ c o, c ≠ env.locals → s.heap.get? c = some o → h'.get? c = some o) → Q () { s with heap := h', toks := tk }) :
    wpAny (model prog w) A (assign (.Tuple (nps.map fun p => .Name p.1 p.2) kk tp) env (.ref T)) Q E s := by
  have e1 : ∀ nps : List (Str × Pos), (assignEach (nps.map fun p => PySem.Expr.Name p.1 p.2) env).map (·.2) = nps.map fun p => assign (.Name p.1 p.2) env := by
    intro nps
    induction nps with
    | nil => rfl
    | cons p r ih => exact congrArg (_ :: ·) ih
  have e2 : ∀ nps : List (Str × Pos), (assignEach (nps.map fun p => PySem.Expr.Name p.1 p.2) env).findIdx? (·.1) = none := by
    intro nps
    induction nps with
    | nil => rfl
    | cons p r ih =>
      show List.findIdx? (·.1) ((false, _) :: assignEach (r.map fun p => PySem.Expr.Name p.1 p.2) env) = none
      rw [List.findIdx?_cons, ih]; rfl
  refine wpAny_assign_Tuple hh ht ?_ (e2 nps) fun h₁ he₁ => ?_
  · have := congrArg List.length (e1 nps)
    simp only [List.length_map] at this
    rw [this, hlen]; rfl
  rw [e1 nps]
  have hL : env.locals ≠ s.heap.objs.size := Nat.ne_of_lt hn.lt
  have hn₁ : h₁.Ns env.locals m := hn.at' fun o e => he₁ _ o hL e
  have up₁ : ∀ c o, s.heap.get? c = some o → h₁.get? c = some o := fun c o e => he₁ c o (Nat.ne_of_lt (Heap.lt_size e)) e
  have key : ∀ (nps : List (Str × Pos)) (vals : List Value) (m : Str → Option Value) (g : Heap) (tk : Nat), nps.length = vals.length → (∀ x ∈ nps.map Prod.fst, env.kindOf x = some .local) → g.Ns env.locals m →
      (∀ (h' : Heap) (tk : Nat), h'.Ns env.locals (fun z => ((nps.map Prod.fst).zip vals).reverse.lookup z |>.or (m z)) → (∀ c o, c ≠ env.locals → g.get? c = some o → h'.get? c = some o) → Q () { s with heap := h', toks := tk }) →
      wpAny (model prog w) A (assignInOrder (nps.map fun p => assign (.Name p.1 p.2) env) vals) Q E { s with heap := g, toks := tk } := by
    intro nps
    induction nps with
    | nil =>
      intro vals m g tk hl _ hn h
      cases vals with
      | nil => exact assignInOrder_nil (h g tk (by simpa using hn) fun _ _ _ e => e)
      | cons _ _ => simp at hl
    | cons p r ih =>
      intro vals m g tk hl hk hn h
      cases vals with
      | nil => simp at hl
      | cons v vals =>
        refine assignInOrder_cons ?_
        refine wpAny_assign_Name (wpAny_storeName_local (hk p.1 (by simp)) hn (fun h₂ hn₂ hs₂ => ?_) hp)
        refine ih vals _ h₂ (tk + 1) (by simpa using hl) (fun x hx => hk x (by simp only [List.map_cons, List.mem_cons]; exact .inr hx)) hn₂ fun h' tk' hn' hk' => h h' tk' ?_ fun c o hc e => hk' c o hc (hs₂.extBut c o hc e)
        have ef : (fun z => (((r.map Prod.fst).zip vals).reverse.lookup z).or (if z = p.1 then some v else m z)) = fun z => ((((p :: r).map Prod.fst).zip (v :: vals)).reverse.lookup z).or (m z) := by
          funext z
          simp only [List.map_cons, List.zip_cons_cons, List.reverse_cons, List.lookup_append]
          by_cases hz : z = p.1
          · subst hz
            cases (((r.map Prod.fst).zip vals).reverse.lookup p.1) <;> simp
          · have hb : (z == p.1) = false := by simpa using hz
            cases (((r.map Prod.fst).zip vals).reverse.lookup z) <;> simp [hz, hb, List.lookup]
        rw [← ef]
        exact hn'
  refine key nps vals m h₁ s.toks hlen hk hn₁ fun h' tk hn' hk' => h h' tk hn' fun c o hc e => hk' c o hc (up₁ c o e)
end
end Mine
end

section
open PySem PySem.Spec PySem.Calls PySem.W PyProof.Rows PyProof.Rows.LCg
set_option Elab.async false
set_option maxHeartbeats 2000000
namespace Mine

theorem TW.zipR {prog : Program} {w : World} {A : Around} (hh : A.handled = none) {z TI TO i1 i2 l : Addr} (D : ZApart z TI TO i1 i2 l) (items : Array Value) (x0 c : Int) (n : Nat) (hn : n ≤ items.size) (a b : Str) (pa pb tp : Pos) (kk : Nat) (hab : a ≠ b) :
    TW prog w A (.Tuple [.Name a pa, .Name b pb] kk tp) [a, b] z [z, TI, TO, i1, i2, l] [z, TO, i1, i2] n
      (fun i m₂ => ∃ t y, m₂ a = some (.int (x0 + (i : Int) * c) t) ∧ items[i]? = some y ∧ m₂ b = some y)
      (fun i h => IsZip h z TI TO .none ∧ IsPair h TI (.ref i1) (.ref i2) ∧ (∃ a b, IsPair h TO a b) ∧ IsRangeIter h i1 (x0 + (i : Int) * c) ((n : Int) - (i : Int)) c ∧ h.get? i2 = some (lIt l i) ∧ h.IsList l items)
      [(i2, lIt l n)] where
  sub := fun b hb => by simp at hb ⊢; rcases hb with rfl | rfl | rfl | rfl <;> simp
  frame := fun i h h' hst hk => by
    obtain ⟨hz, hTI, ⟨a, b, hTO⟩, h1, h2, hl⟩ := hst
    exact ⟨hk z (by simp) _ hz, hk TI (by simp) _ hTI, ⟨a, b, hk TO (by simp) _ hTO⟩, hk i1 (by simp) _ h1, hk i2 (by simp) _ h2, hl.at fun o e => hk l (by simp) o e⟩
  item := fun i s cenv m K Z E hi hst hns hCf hk hp hQ => by
    obtain ⟨hz, hTI, ⟨a0, b0, hTO⟩, h1, h2, hl⟩ := hst
    have hix : i < items.size := Nat.lt_of_lt_of_le hi hn
    simp only [List.mem_cons, List.not_mem_nil, or_false, not_or] at hCf
    have hsz := hns.lt
    refine zipR_item D hz hTI hTO h1 (by omega) h2 hl (Array.getElem?_eq_getElem hix) fun h' T tk a1 a2 a3 a4 a5 a6 ak => ?_
    dsimp only
    refine wpAny_letOwnedTupleGo_zip a1 fun h₂ hz₂ hs₂ => ?_
    have lt : ∀ {c o}, s.heap.get? c = some o → T ≠ c := fun e => Nat.ne_of_gt (Nat.lt_of_lt_of_le (Heap.lt_size e) a6)
    have hTt : h₂.IsTuple T #[.int (x0 + (i : Int) * c) tk, items[i]] := ⟨_, hs₂.extBut _ _ (lt hz) a5, rfl, _, rfl⟩
    have ns₂ : h₂.Ns cenv.locals m := hns.at' fun o e => hs₂.extBut _ _ hCf.1 (ak _ o hCf.1 hCf.2.2.1 hCf.2.2.2.1 hCf.2.2.2.2.1 e)
    refine assign_names (nps := [(a, pa), (b, pb)]) (vals := [.int (x0 + (i : Int) * c) tk, items[i]]) hh hp hTt rfl (by simpa using hk) ns₂ fun h₃ tk₃ hn₃ hk₃ => ?_
    have e1 : x0 + (((i + 1 : Nat)) : Int) * c = x0 + (i : Int) * c + c := by push_cast; rw [Int.add_mul, Int.one_mul, Int.add_assoc]
    have e2 : (n : Int) - (((i + 1 : Nat)) : Int) = (n : Int) - (i : Int) - 1 := by push_cast; omega
    refine hQ h₃ tk₃ _ ⟨tk, items[i], ?_, Array.getElem?_eq_getElem hix, ?_⟩ ⟨hk₃ _ _ (Ne.symm hCf.1) hz₂, hk₃ _ _ (Ne.symm hCf.2.1) (hs₂.extBut _ _ D.TIz (ak _ _ D.TIz D.TITO D.TIi1 D.TIi2 hTI)), ⟨_, _, hk₃ _ _ (Ne.symm hCf.2.2.1) (hs₂.extBut _ _ D.TOz a2)⟩, ?_, hk₃ _ _ (Ne.symm hCf.2.2.2.2.1) (hs₂.extBut _ _ D.i2z a4), ?_⟩ hn₃ ?_
    · have hb : (a == b) = false := by simpa using hab
      simp [List.lookup, hb]
    · simp [List.lookup]
    · rw [e1, e2]; exact hk₃ _ _ (Ne.symm hCf.2.2.2.1) (hs₂.extBut _ _ D.i1z a3)
    · exact hl.at fun o e => hk₃ _ _ (Ne.symm hCf.2.2.2.2.2) (hs₂.extBut _ _ D.lz (ak _ _ D.lz D.lTO D.li1 D.li2 e))
    · intro b' o hb hbC e
      simp only [List.mem_cons, List.not_mem_nil, or_false, not_or] at hb
      exact hk₃ _ _ hbC (hs₂.extBut _ _ hb.1 (ak _ _ hb.1 hb.2.1 hb.2.2.1 hb.2.2.2 e))
  done := fun s Q E hst hQ => by
    obtain ⟨hz, hTI, ⟨a0, b0, hTO⟩, h1, h2, hl⟩ := hst
    refine zipR_end hh D hz hTI hTO h1 (by omega) fun h' hk => hQ h' s.toks (fun p hp => ?_) fun b o hb e => ?_
    · rw [List.mem_singleton.mp hp]
      exact hk _ _ D.i2z (Ne.symm D.TOi2) (Ne.symm D.i12) h2
    · simp only [List.mem_cons, List.not_mem_nil, or_false, not_or] at hb
      exact hk _ _ hb.1 hb.2.1 hb.2.2.1 e
  self := fun i s Q E hst hQ => wpAny_pyIter_zip hst.1 hQ

theorem TW.tups {prog : Program} {w : World} {A : Around} (hh : A.handled = none) {I ax : Addr} (hne : ax ≠ I) (items : Array Value) (Ts : Nat → Addr) (vals : Nat → List Value) (nps : List (Str × Pos)) (tp : Pos) (kk : Nat)
    (hit : ∀ j, j < items.size → items[j]? = some (.ref (Ts j))) (hTI : ∀ j, j < items.size → Ts j ≠ I) (hlen : ∀ j, j < items.size → nps.length = (vals j).length) :
    TW prog w A (.Tuple (nps.map fun p => .Name p.1 p.2) kk tp) (nps.map Prod.fst) I (I :: ax :: (List.range items.size).map Ts) [I] items.size
      (fun i m₂ => ∀ x v, ((nps.map Prod.fst).zip (vals i)).reverse.lookup x = some v → m₂ x = some v)
      (fun j h => h.IsListIter I ax j ∧ h.IsList ax items ∧ ∀ k, k < items.size → h.IsTuple (Ts k) (vals k).toArray) [] where
  sub := fun b hb => by simp at hb; simp [hb]
  frame := fun _ _ _ st hk => ⟨st.1.at fun o e => hk I (by simp) o e, st.2.1.at fun o e => hk ax (by simp) o e,
    fun k hk' => (st.2.2 k hk').at fun o e => hk (Ts k) (List.mem_cons_of_mem _ (List.mem_cons_of_mem _ (List.mem_map.mpr ⟨k, List.mem_range.mpr hk', rfl⟩))) o e⟩
  item := fun i s cenv m K Z E hi st hns hCf hk hp hQ => by
    have hCI : cenv.locals ≠ I := fun q => hCf (q ▸ .head _)
    have hCx : cenv.locals ≠ ax := fun q => hCf (q ▸ .tail _ (.head _))
    refine wpAny_pyNext_list_item st.1 st.2.1 (x := .ref (Ts i)) (hit i hi) fun h' hit' hs' => ?_
    have tup : ∀ k, k < items.size → h'.IsTuple (Ts k) (vals k).toArray := fun k hk' => (st.2.2 k hk').extBut hs'.extBut (hTI k hk')
    dsimp only
    refine wpAny_letOwnedTupleGo_listiter hit' ?_
    refine assign_names (nps := nps) (vals := vals i) hh hp (tup i hi) (hlen i hi) hk (hns.at' fun o e => hs'.extBut _ _ hCI e) fun h₃ tk₃ hn₃ hk₃ => ?_
    refine hQ h₃ tk₃ _ (fun x v e => by rw [e]; rfl) ⟨hit'.at fun o e => hk₃ _ _ (Ne.symm hCI) e, (st.2.1.extBut hs'.extBut hne).at fun o e => hk₃ _ _ (Ne.symm hCx) e, fun k hk' => (tup k hk').at fun o e => hk₃ _ _ (fun q => hCf ?_) e⟩ hn₃
      fun b o hb hbC e => hk₃ _ _ hbC (hs'.extBut _ _ (fun q => hb (by simp [q])) e)
    exact .tail _ (.tail _ (List.mem_map.mpr ⟨k, List.mem_range.mpr hk', q⟩))
  done := fun s Q E st hQ => wpAny_pyNext_list_end hh st.1 st.2.1 (by simp) fun h' he' => hQ h' s.toks (fun _ h => nomatch h) fun b o hb e => he' b o (fun h => hb (by simp [h])) e
  self := fun _ _ _ _ st hQ => wpAny_pyIter_listiter st.1 hQ

section
variable {prog : Program} {w : World} {A : Around} {E : Value → Shared → Prop} {s : Shared}
abbrev zrH1 (h : Heap) (a b c : Int) : Heap := h.push { cls := .type "range_iterator", data := .fields #[rawInt a, rawInt (Builtin.Range.rangeSize a b c), rawInt c] }
abbrev zrH2 (h : Heap) (a b c : Int) (it : Addr) : Heap := (zrH1 h a b c).push { cls := .type "tuple", data := .seq #[.ref h.objs.size, .ref it] }
abbrev zrH3 (h : Heap) (a b c : Int) (it : Addr) : Heap := (zrH2 h a b c it).push { cls := .type "tuple", data := .seq #[.none, .none] }
abbrev zrH4 (h : Heap) (a b c : Int) (it : Addr) : Heap := (zrH3 h a b c it).push { cls := .type "zip", data := .fields #[.none, .bool false, .bool false, .ref (zrH1 h a b c).objs.size, .ref (zrH2 h a b c it).objs.size] }

theorem meets_zipR (r it l : Addr) (a b c : Int) (t u v : Tok) (i : Nat) (hsm : Builtin.Range.small a b c = true) :
    Meets (Builtin.«zip.__new__» ⟨[.type "zip", .ref r, .ref it], []⟩) (fun _ R s => IsRange s.heap r a b c t u v ∧ s.heap.IsListIter it l i ∧
      R (.ok (.ret (.ref (zrH3 s.heap a b c it).objs.size))) { s with heap := zrH4 s.heap a b c it }) :=
  .of_wp fun prog w A R s h => by
    obtain ⟨hp, g, d, tk, os⟩ := s; obtain ⟨hr, hi, h⟩ := h
    have hsub := sub_zip
    have hR : IsRange (Shared.heap ⟨hp, g, d, tk, os⟩) r a b c t u v := hr
    have hI : Heap.IsListIter (Shared.heap ⟨hp.push { cls := .type "range_iterator", data := .fields #[rawInt a, rawInt (Builtin.Range.rangeSize a b c), rawInt c] }, g, d, tk, os⟩) it l i := Heap.IsListIter.at hi fun o e => Heap.get?_push_of_some _ e
    wp_walk using wpAny_pyIter_range hR hsm, wpAny_pyIter_listiter hI
    exact ⟨_, rfl, h⟩

theorem call_zipR {r it l : Addr} {a b c : Int} {t u v : Tok} {i : Nat} {Q : Value → Shared → Prop} (hr : IsRange s.heap r a b c t u v) (hi : s.heap.IsListIter it l i) (hsm : Builtin.Range.small a b c = true)
    (h : ∀ h', IsZip h' (s.heap.objs.size + 3) (s.heap.objs.size + 1) (s.heap.objs.size + 2) .none → IsPair h' (s.heap.objs.size + 1) (.ref s.heap.objs.size) (.ref it) →
      IsPair h' (s.heap.objs.size + 2) .none .none → IsRangeIter h' s.heap.objs.size a (Builtin.Range.rangeSize a b c) c → h'.objs.size = s.heap.objs.size + 4 →
      (∀ c o, s.heap.get? c = some o → h'.get? c = some o) → Q (.ref (s.heap.objs.size + 3)) { s with heap := h' }) :
    wpAny (model prog w) A (call (.type "zip") [.ref r, .ref it]) Q E s := by
  refine callType_new F.called_zip (by decide) (F.typeCall_zip_2 _ _) (F.newCall_zip_2 _ _) (fun obj => F.args_object_init_3 obj _ _) F.entry_zip_new
    (meets_zipR r it l a b c t u v i hsm) ⟨hr, hi, ?_⟩
  have z1 : (zrH1 s.heap a b c).objs.size = s.heap.objs.size + 1 := Heap.size_push ..
  have z2 : (zrH2 s.heap a b c it).objs.size = s.heap.objs.size + 2 := by rw [Heap.size_push, z1]
  have z3 : (zrH3 s.heap a b c it).objs.size = s.heap.objs.size + 3 := by rw [Heap.size_push, z2]
  have z4 : (zrH4 s.heap a b c it).objs.size = s.heap.objs.size + 4 := by rw [Heap.size_push, z3]
  have g4 : (zrH4 s.heap a b c it).get? (zrH3 s.heap a b c it).objs.size = some _ := Heap.get?_push_size _ rfl
  have g3 : (zrH4 s.heap a b c it).get? (zrH2 s.heap a b c it).objs.size = some _ := Heap.get?_push_of_some _ (Heap.get?_push_size _ rfl)
  have g2 : (zrH4 s.heap a b c it).get? (zrH1 s.heap a b c).objs.size = some _ := Heap.get?_push_of_some _ (Heap.get?_push_of_some _ (Heap.get?_push_size _ rfl))
  have g1 : (zrH4 s.heap a b c it).get? s.heap.objs.size = some _ := Heap.get?_push_of_some _ (Heap.get?_push_of_some _ (Heap.get?_push_of_some _ (Heap.get?_push_size _ rfl)))
  show _ ∧ _
  rw [z1, z2, z3] at g4
  rw [z2] at g3
  rw [z1] at g2
  rw [z3]
  exact ⟨⟨_, g4, rfl⟩, h _ g4 g2 g3 g1 z4 fun c o x => Heap.get?_push_of_some _ (Heap.get?_push_of_some _ (Heap.get?_push_of_some _ (Heap.get?_push_of_some _ x)))⟩
end
end Mine
end

section
open PySem PySem.Spec PySem.Calls PySem.W PyProof.Rows PyProof.Rows.LCg
set_option Elab.async false
set_option maxHeartbeats 2000000
namespace Mine
section
variable {prog : Program} {w : World} {A : Around} {E : Value → Shared → Prop} {s : Shared} {h₀ : Heap} {L R : Addr} {m : Str → Option Value} {news : List (Addr × Obj)} {vs : List Value} {c : Nat}

theorem list_iter {Q : Value → Shared → Prop} (F : Fr h₀ L s.heap m) (N : News h₀ L s.heap news) (hm : (R, listOf vs.toArray c) ∈ news)
    (h : ∀ (I : Addr) h', Fr h₀ L h' m → News h₀ L h' ((I, lIt R 0) :: news) → (∀ p ∈ news, p.1 < I) → Q (.ref I) { s with heap := h' }) :
    wpAny (model prog w) A (call (.builtin "iter") [.ref R]) Q E s := by
  refine call_function_entry (by decide +kernel) (by decide +kernel) kdk_entry_iter (kdk_args_iter _) ?_
  unfold Builtin.«iter»
  refine wpAny_bind (m := someArgs "iter" 1 2 _) (wpAny_of_eq (a := [Value.ref R]) (by first | rfl | kernel_rfl!) ?_)
  show wpAny _ _ (pyIter (.ref R) >>= _) _ _ _
  refine wpAny_bind (wpAny_pyIter_list (PySem.IsL.isList (n := c) (N _ hm).1) ?_)
  exact wpAny_pure ⟨_, rfl, h _ _ (F.push _) (News.push F N _ rfl) (fun q hq => Heap.lt_size (N q hq).1)⟩

theorem list_len {Q : Value → Shared → Prop} (N : News h₀ L s.heap news) (hm : (R, listOf vs.toArray c) ∈ news) (hl : vs.length = 32) (h : Q (.int 32 (s.toks + 1)) { s with toks := s.toks + 1 + 1 }) :
    wpAny (model prog w) A (call (.builtin "len") [.ref R]) Q E s :=
  len_list (PySem.IsL.isList (n := c) (N _ hm).1) (by simp; omega) (by simpa [hl] using h)

/-- zip of a range and a list's iterator, its objects in the ledger -/
theorem zip_range {r it : Addr} {a b st : Int} (k : Int) {t u v : Tok} {i : Nat} {Q : Value → Shared → Prop} (F : Fr h₀ L s.heap m) (N : News h₀ L s.heap news) (hr : IsRange s.heap r a b st t u v) (hm : (it, lIt R i) ∈ news) (hsm : Builtin.Range.small a b st = true) (hsz : Builtin.Range.rangeSize a b st = k)
    (h : ∀ (z TI TO i1 : Addr) h', Fr h₀ L h' m → News h₀ L h' ((z, { cls := .type "zip", dict := none, data := .fields #[.none, .bool false, .bool false, .ref TI, .ref TO], slots := #[] }) :: (TI, { cls := .type "tuple", data := .seq #[.ref i1, .ref it] }) ::
        (TO, { cls := .type "tuple", data := .seq #[.none, .none] }) :: (i1, rIter a k st) :: news) → (∀ p ∈ news, p.1 < i1) → i1 < TI ∧ TI < TO ∧ TO < z → L < i1 → Q (.ref z) { s with heap := h' }) :
    wpAny (model prog w) A (call (.type "zip") [.ref r, .ref it]) Q E s := by
  subst hsz
  refine call_zipR hr (lIt_is (N _ hm).1) hsm fun h' hz hTI hTO h1 hsz hk => ?_
  have hL : L < s.heap.objs.size := F.ns.lt
  have nw : ∀ k, h₀.get? (s.heap.objs.size + k) = none := fun k => Heap.get?_none_of_le (Nat.le_trans F.above (Nat.le_trans (Nat.le_of_lt hL) (Nat.le_add_right _ k)))
  have nL : ∀ k, s.heap.objs.size + k ≠ L := fun k => Nat.ne_of_gt (Nat.lt_of_lt_of_le hL (Nat.le_add_right _ k))
  refine h (s.heap.objs.size + 3) (s.heap.objs.size + 1) (s.heap.objs.size + 2) s.heap.objs.size h' (F.keeps hk) (fun p hp => ?_) (fun p hp => Heap.lt_size (N p hp).1) ⟨Nat.lt_succ_self _, Nat.lt_succ_self _, Nat.lt_succ_self _⟩ hL
  rcases List.mem_cons.mp hp with rfl | hp
  · exact ⟨hz, nL 3, nw 3⟩
  rcases List.mem_cons.mp hp with rfl | hp
  · exact ⟨hTI, nL 1, nw 1⟩
  rcases List.mem_cons.mp hp with rfl | hp
  · exact ⟨hTO, nL 2, nw 2⟩
  rcases List.mem_cons.mp hp with rfl | hp
  · exact ⟨h1, nL 0, nw 0⟩
  · exact ⟨hk _ _ (N p hp).1, (N p hp).2⟩
end

theorem fits_small {i : Int} (a : -(2 ^ 20) ≤ i) (b : i ≤ 2 ^ 20) : Builtin.Range.rangeFitsLong i = true := by
  unfold Builtin.Range.rangeFitsLong
  simp only [Bool.and_eq_true, decide_eq_true_eq]
  omega
theorem size_up {n : Int} (h : 0 ≤ n) : Builtin.Range.rangeSize 0 n 1 = n := by
  unfold Builtin.Range.rangeSize
  rw [if_pos (by decide)]
  split
  · simp
  · omega
theorem size_none {n : Int} (h : n ≤ 0) : Builtin.Range.rangeSize 0 n 1 = 0 := by
  unfold Builtin.Range.rangeSize
  rw [if_pos (by decide), if_neg (by omega)]
theorem size_down {n : Int} (h : 0 ≤ n) : Builtin.Range.rangeSize 0 (-n) (-1) = n := by
  unfold Builtin.Range.rangeSize
  rw [if_neg (by decide)]
  split
  · simp
  · omega
theorem size_noneD {n : Int} (h : n ≤ 0) : Builtin.Range.rangeSize 0 (-n) (-1) = 0 := by
  unfold Builtin.Range.rangeSize
  rw [if_neg (by decide), if_neg (by omega)]
theorem small_up {n : Int} (h : -4 ≤ n) (h2 : n < 2 ^ 19) : Builtin.Range.small 0 n 1 = true := by
  unfold Builtin.Range.small
  rcases Int.le_total 0 n with h0 | h0
  · rw [size_up h0, fits_small (by omega) (by omega), fits_small (i := n) (by omega) (by omega), fits_small (i := 1) (by omega) (by omega)]
    simp [fits_small (i := n) (by omega) (by omega)]
  · rw [size_none h0, fits_small (i := 0) (by omega) (by omega), fits_small (i := n) (by omega) (by omega), fits_small (i := 1) (by omega) (by omega)]
    simp
theorem small_down {n : Int} (h : -4 ≤ n) (h2 : n < 2 ^ 19) : Builtin.Range.small 0 (-n) (-1) = true := by
  unfold Builtin.Range.small
  rcases Int.le_total 0 n with h0 | h0
  · rw [size_down h0, fits_small (i := 0) (by omega) (by omega), fits_small (i := n) (by omega) (by omega), fits_small (i := -n) (by omega) (by omega), fits_small (i := -1) (by omega) (by omega)]
    simp [fits_small (i := -n) (by omega) (by omega)]
  · rw [size_noneD h0, fits_small (i := 0) (by omega) (by omega), fits_small (i := -n) (by omega) (by omega), fits_small (i := -1) (by omega) (by omega)]
    simp
end Mine
end

section
open PySem PySem.Spec PySem.Calls PySem.W PyProof.Rows PyProof.Rows.LCg
set_option Elab.async false
set_option maxHeartbeats 2000000
namespace Mine
section
variable {prog : Program} {w : World} {A : Around} {E : Value → Shared → Prop} {s : Shared} {g : Heap} {L R : Addr} {m : Str → Option Value} {vs : List Value} {ns : List Int} {c : Nat} {env : Env}

theorem ints_at {vs : List Value} {ns : List Int} (h : IntsAre vs ns) {i : Nat} {v : Value} (e : vs.toArray[i]? = some v) : ∃ x t, ns[i]? = some x ∧ v = .int x t := by
  obtain ⟨k, t, e', hk⟩ := IntsAre.at h i v (by simpa using e)
  exact ⟨k, t, hk, e'⟩

theorem allLt_mem {d : Addr} : ∀ {l : List (Addr × Obj)}, AllLt d l → ∀ p ∈ l, p.1 < d
  | [], _, _, h => nomatch h
  | q :: r, h, p, hp => by
    rcases List.mem_cons.mp hp with rfl | hp
    · exact h.1
    · exact allLt_mem h.2 p hp

/-- a new tuple of ints has come upon the ledger -/
def TupEnd (g : Heap) (L : Addr) (m : Str → Option Value) (s : Shared) (led : List (Addr × Obj)) (ks : List Int) (y : Value) (s₃ : Shared) : Prop :=
  ∃ h' tk' T vals nv, y = .ref T ∧ s₃ = { s with heap := h', toks := tk' } ∧ Fr g L h' m ∧ News g L h' ((T, { cls := .type "tuple", data := .seq (List.toArray vals) nv }) :: led) ∧ IntsAre vals ks ∧ (∀ p ∈ led, p.1 < T)
theorem TupEnd.intro {led : List (Addr × Obj)} {ks : List Int} {h' : Heap} {tk' : Nat} {T : Addr} {vals : List Value} {nv : Nat} (F : Fr g L h' m) (N : News g L h' ((T, { cls := .type "tuple", data := .seq (List.toArray vals) nv }) :: led)) (hi : IntsAre vals ks) (hl : AllLt T led) :
    TupEnd g L m s led ks (.ref T) { s with heap := h', toks := tk' } := ⟨h', tk', T, vals, nv, rfl, rfl, F, N, hi, allLt_mem hl⟩

/-- what the element of a block makes: a new tuple of ints -/
def MakesTup (prog : Program) (w : World) (A : Around) (g : Heap) (L : Addr) (m : Str → Option Value) (env : Env) (elt : PySem.Expr) (scope : Scope) (cl : List (Str × Addr)) (s : Shared) (a b : Str) (base : List (Addr × Obj)) (o x : Int) (ks : List Int) : Prop :=
  ∀ t tx own tl C oC D m₂ ys h tk (E' : Value → Shared → Prop), NsObj oC m₂ → m₂ a = some (.int o t) → m₂ b = some (.int x tx) → Fr g L h m → News g L h ((C, oC) :: (D, lst ys) :: (base ++ (own ++ tl))) →
    wpAny (model prog w) A (eval elt (compEnvC scope cl C env)) (TupEnd g L m s ((C, oC) :: (D, lst ys) :: (base ++ (own ++ tl))) ks) E' { s with heap := h, toks := tk }

theorem zip_block {z TI TO i1 it : Addr} {x0 st : Int} {n : Nat} {base : List (Addr × Obj)} {a b : Str} {pa pb tp : Pos} {kk : Nat} {elt : PySem.Expr} {scope : Scope} {cl : List (Str × Addr)} {mD : Addr → Str → Option Value} {Cn : Addr → Shared → Prop} (mk : Int → Int → List Int)
    (hh : A.handled = none) (hab : a ≠ b) (F : Fr g L s.heap m)
    (N : News g L s.heap ((z, { cls := .type "zip", dict := none, data := .fields #[.none, .bool false, .bool false, .ref TI, .ref TO], slots := #[] }) :: (TI, { cls := .type "tuple", data := .seq #[.ref i1, .ref it] }) ::
        (TO, { cls := .type "tuple", data := .seq #[.none, .none] }) :: (i1, rIter x0 n st) :: (it, lIt R 0) :: base))
    (hb : ∀ p ∈ base, p.1 < it) (hlt : it < i1 ∧ i1 < TI ∧ TI < TO ∧ TO < z) (hL : L < it) (hR : (R, listOf vs.toArray c) ∈ base) (hI : IntsAre vs ns) (hl : vs.length = 32) (hn : n ≤ 32)
    (turn : ∀ (i : Nat) x, i < n → ns[i]? = some x → MakesTup prog w A g L m env elt scope cl s a b base (x0 + (i : Int) * st) x (mk x (x0 + (i : Int) * st)))
    (done : ∀ D h tk (ps : List Item) (tl : List (Addr × Obj)), Fr g L h (mD D) → News g L h ((D, listOf (ps.map Prod.fst).toArray (ps.map Prod.fst).length) :: (it, lIt R n) :: (tl ++ base)) → (∀ p ∈ (it, lIt R n) :: (tl ++ base), p.1 ≠ D) → (∀ q ∈ ps, TupIn tl q.1 q.2) → (∀ p ∈ tl, it < p.1) →
      ps.map Prod.snd = (List.range n).map (fun i => mk (ns.getD i 0) (x0 + (i : Int) * st)) → Cn D { s with heap := h, toks := tk }) :
    Hold (wpAny (model prog w) A (pyIter (.ref z)) (BlockOk prog w A g L m env (.Tuple [.Name a pa, .Name b pb] kk tp) elt [a, b] scope cl mD Cn) E s) := by
  have hz := N _ (.head _)
  have hTI := N _ (.tail _ (.head _))
  have hTO := N _ (.tail _ (.tail _ (.head _)))
  have hi1 := N _ (.tail _ (.tail _ (.tail _ (.head _))))
  have hit := N _ (.tail _ (.tail _ (.tail _ (.tail _ (.head _)))))
  have Nb : News g L s.heap base := fun p hp => N p (.tail _ (.tail _ (.tail _ (.tail _ (.tail _ hp)))))
  have hRl : s.heap.IsList R vs.toArray := PySem.IsL.isList (n := c) (Nb _ hR).1
  have hRit : R < it := hb _ hR
  obtain ⟨l1, l2, l3, l4⟩ := hlt
  have lt2 : ∀ {x y z : Addr}, x < y → y < z → x < z := Nat.lt_trans
  have D : ZApart z TI TO i1 it R :=
    { TIz := Nat.ne_of_lt (lt2 l3 l4), TOz := Nat.ne_of_lt l4, i1z := Nat.ne_of_lt (lt2 l2 (lt2 l3 l4)), i2z := Nat.ne_of_lt (lt2 l1 (lt2 l2 (lt2 l3 l4))), TITO := Nat.ne_of_lt l3, TIi1 := Nat.ne_of_gt l2, TIi2 := Nat.ne_of_gt (lt2 l1 l2), TOi1 := Nat.ne_of_gt (lt2 l2 l3), TOi2 := Nat.ne_of_gt (lt2 l1 (lt2 l2 l3)),
      i12 := Nat.ne_of_gt l1, lz := Nat.ne_of_lt (lt2 hRit (lt2 l1 (lt2 l2 (lt2 l3 l4)))), lTO := Nat.ne_of_lt (lt2 hRit (lt2 l1 (lt2 l2 l3))), li1 := Nat.ne_of_lt (lt2 hRit l1), li2 := Nat.ne_of_lt hRit }
  have hnl := hI.length
  have wz : ∀ b ∈ [z, TO, i1, it], it ≤ b ∧ b ≤ z := by
    intro b hb'
    simp only [List.mem_cons, List.not_mem_nil, or_false] at hb'
    rcases hb' with rfl | rfl | rfl | rfl
    · exact ⟨Nat.le_of_lt (lt2 l1 (lt2 l2 (lt2 l3 l4))), Nat.le_refl _⟩
    · exact ⟨Nat.le_of_lt (lt2 l1 (lt2 l2 l3)), Nat.le_of_lt l4⟩
    · exact ⟨Nat.le_of_lt l1, Nat.le_of_lt (lt2 l2 (lt2 l3 l4))⟩
    · exact ⟨Nat.le_refl _, Nat.le_of_lt (lt2 l1 (lt2 l2 (lt2 l3 l4)))⟩
  refine wpAny_pyIter_zip hz.1 ?_
  refine ⟨z, [z, TI, TO, i1, it, R], [z, TO, i1, it], n, _, _, [(it, lIt R n)], base, fun i ys nw _ => ∃ (ps : List Item) (tl : List (Addr × Obj)), ys = ps.map Prod.fst ∧ nw = tl ++ base ∧ (∀ q ∈ ps, TupIn tl q.1 q.2) ∧ (∀ p ∈ tl, z < p.1) ∧ ps.map Prod.snd = (List.range i).map (fun i => mk (ns.getD i 0) (x0 + (i : Int) * st)),
    rfl, TW.zipR hh D vs.toArray x0 st n (by simp; omega) a b pa pb tp kk hab, by rw [sizeLine_eq]; omega, ⟨hz.1, hTI.1, ⟨_, _, hTO.1⟩, by simpa using hi1.1, hit.1, hRl⟩, ?_, F, Nb, ?_, ?_, ?_, fun _ _ _ _ _ h _ => h, ?_, ?_, ?_, ?_⟩
  · intro b hb'
    simp only [List.mem_cons, List.not_mem_nil, or_false] at hb'
    rcases hb' with rfl | rfl | rfl | rfl | rfl | rfl
    · exact Heap.lt_size hz.1
    · exact Heap.lt_size hTI.1
    · exact Heap.lt_size hTO.1
    · exact Heap.lt_size hi1.1
    · exact Heap.lt_size hit.1
    · exact Heap.lt_size (Nb _ hR).1
  · simp only [List.mem_cons, List.not_mem_nil, or_false, not_or]
    exact ⟨Nat.ne_of_lt (lt2 hL (lt2 l1 (lt2 l2 (lt2 l3 l4)))), Nat.ne_of_lt (lt2 hL (lt2 l1 l2)), Nat.ne_of_lt (lt2 hL (lt2 l1 (lt2 l2 l3))), Nat.ne_of_lt (lt2 hL l1), Nat.ne_of_lt hL, fun q => (Nb _ hR).2.1 q.symm⟩
  · intro b hb'
    exact Heap.get?_none_of_le (Nat.le_trans F.above (Nat.le_trans (Nat.le_of_lt hL) (wz b hb').1))
  · rintro i ys nw tk ⟨ps, tl, rfl, rfl, hT, htl, _⟩ p hp hw
    rcases List.mem_append.mp hp with hp | hp
    · exact Nat.lt_irrefl _ (Nat.lt_of_lt_of_le (htl p hp) (wz _ hw).2)
    · exact Nat.lt_irrefl _ (Nat.lt_of_lt_of_le (hb p hp) (wz _ hw).1)
  · exact ⟨[], [], rfl, rfl, (by intro q hq; cases hq), (by intro q hq; cases hq), rfl⟩
  · intro p hp
    rw [List.mem_singleton.mp hp]
    exact ⟨by simp, hit.2.2⟩
  · rintro i ys nw own C oC D' m₂ h tk E' hi hyl ⟨ps, tl, rfl, rfl, hT, htl, hks⟩ hoC ⟨t, y, ha, hy, hb2⟩ hSt F' N' hown hall hCD hCf hDf hoff
    obtain ⟨x, tx, hx, rfl⟩ := ints_at hI hy
    have hzo : ∃ o, (z, o) ∈ own := ⟨_, hall z (by simp) hz.2.2 _ hSt.1⟩
    refine wpAny_mono (turn i x hi hx t tx own tl C oC D' m₂ (ps.map Prod.fst) h tk E' hoC ha hb2 F' (fun p hp => N' p ?_)) (fun y s₃ h₃ => ?_) fun _ _ e => e
    · rcases List.mem_cons.mp hp with rfl | hp
      · exact .head _
      rcases List.mem_cons.mp hp with rfl | hp
      · exact .tail _ (.head _)
      refine .tail _ (.tail _ ?_)
      rcases List.mem_append.mp hp with hp | hp
      · exact List.mem_append_right _ (List.mem_append_right _ hp)
      rcases List.mem_append.mp hp with hp | hp
      · exact List.mem_append_left _ hp
      · exact List.mem_append_right _ (List.mem_append_left _ hp)
    · obtain ⟨h', tk', T, vals, nv, rfl, rfl, F₃, N₃, hi₃, hT₃⟩ := h₃
      refine ⟨h', tk', (T, { cls := .type "tuple", data := .seq (List.toArray vals) nv }) :: tl ++ base, rfl, F₃, fun p hp => N₃ p ?_, ?_, ps ++ [(.ref T, mk x (x0 + (i : Int) * st))], (T, { cls := .type "tuple", data := .seq (List.toArray vals) nv }) :: tl, by simp, rfl, ?_, ?_, ?_⟩
      · rcases List.mem_cons.mp hp with rfl | hp
        · exact .tail _ (.head _)
        rcases List.mem_cons.mp hp with rfl | hp
        · exact .tail _ (.tail _ (.head _))
        rcases List.mem_append.mp hp with hp | hp
        · exact .tail _ (.tail _ (.tail _ (List.mem_append_right _ (List.mem_append_left _ hp))))
        rcases List.mem_append.mp hp with hp | hp
        · rcases List.mem_cons.mp hp with rfl | hp
          · exact .head _
          · exact .tail _ (.tail _ (.tail _ (List.mem_append_right _ (List.mem_append_right _ hp))))
        · exact .tail _ (.tail _ (.tail _ (List.mem_append_left _ hp)))
      · intro p hp
        rcases List.mem_append.mp hp with hp | hp
        · rcases List.mem_cons.mp hp with rfl | hp
          · exact ⟨Nat.ne_of_gt (hT₃ (C, oC) (.head _)), Nat.ne_of_gt (hT₃ _ (.tail _ (.head _)))⟩
          · exact hoff p (List.mem_append_left _ hp)
        · exact hoff p (List.mem_append_right _ hp)
      · intro q hq
        rcases List.mem_append.mp hq with hq | hq
        · exact (hT q hq).mono fun _ h => .tail _ h
        · rw [List.mem_singleton.mp hq]
          exact ⟨T, vals, nv, rfl, .head _, hi₃⟩
      · intro p hp
        rcases List.mem_cons.mp hp with rfl | hp
        · obtain ⟨o, ho⟩ := hzo
          exact hT₃ (z, o) (.tail _ (.tail _ (List.mem_append_right _ (List.mem_append_left _ ho))))
        · exact htl p hp
      · rw [List.map_append, hks, List.range_succ, List.map_append]
        simp [hx]
  · rintro D' h tk ys nw F' N' hne hyl ⟨ps, tl, rfl, rfl, hT, htl, hks⟩
    exact done D' h tk ps tl F' N' hne hT (fun p hp => lt2 (lt2 l1 (lt2 l2 (lt2 l3 l4))) (htl p hp)) hks
end
end Mine
end

section
open PySem PySem.W PyProof.Rows
namespace Mine
theorem lex_as : ∀ a b : List Int, lexLt a b = true → lexLt b a = false
  | [], [], h => by simp [lexLt] at h
  | [], _ :: _, _ => rfl
  | _ :: _, [], h => by simp [lexLt] at h
  | a :: as, b :: bs, h => by
    unfold lexLt at h ⊢
    by_cases e : a = b
    · rw [if_pos e] at h; rw [if_pos e.symm]; exact lex_as as bs h
    · rw [if_neg e] at h; rw [if_neg (Ne.symm e)]
      simp only [decide_eq_true_eq] at h
      simp only [decide_eq_false_iff_not]; omega
theorem lex_tr : ∀ a b c : List Int, lexLt b a = false → lexLt c b = false → lexLt c a = false
  | [], _, [], _, _ => rfl
  | [], _, _ :: _, _, _ => rfl
  | _ :: _, [], [], h, _ => by simp [lexLt] at h
  | _ :: _, _ :: _, [], _, h => by simp [lexLt] at h
  | _ :: _, [], _ :: _, h, _ => by simp [lexLt] at h
  | a :: as, b :: bs, c :: cs, h, h' => by
    unfold lexLt at h h' ⊢
    by_cases e : b = a
    · rw [if_pos e] at h
      by_cases e' : c = b
      · rw [if_pos e'] at h'; rw [if_pos (e'.trans e)]; exact lex_tr as bs cs h h'
      · rw [if_neg e'] at h'; rw [if_neg (e ▸ e')]; rw [← e]; exact h'
    · rw [if_neg e] at h
      simp only [decide_eq_false_iff_not] at h
      by_cases e' : c = b
      · rw [e', if_neg e]; simp only [decide_eq_false_iff_not]; omega
      · rw [if_neg e'] at h'
        simp only [decide_eq_false_iff_not] at h'
        rw [if_neg (by omega)]; simp only [decide_eq_false_iff_not]; omega
theorem ltMin_strict : Strict ltMin := ⟨fun a b c h h' => lex_tr a.2 b.2 c.2 h h', fun a b h => lex_as a.2 b.2 h⟩
theorem ltMax_strict : Strict ltMax := ⟨fun a b c h h' => lex_tr c.2 b.2 a.2 h' h, fun a b h => lex_as b.2 a.2 h⟩
end Mine
end

section
open PySem PySem.Spec PySem.Calls PySem.W PyProof.Rows PyProof.Rows.LCg
set_option Elab.async false
set_option maxHeartbeats 2000000
namespace Mine
section
variable {prog : Program} {w : World} {A : Around} {E : Value → Shared → Prop} {s : Shared} {g : Heap} {L : Addr} {m : Str → Option Value} {news : List (Addr × Obj)} {x : Item} {env : Env}

theorem tup_fst {Q : Value → Shared → Prop} {value slice : PySem.Expr} {u : Tok} {k : Int} {ks : List Int} (N : News g L s.heap news) (hx : TupIn news x.1 x.2) (e : x.2 = k :: ks) (h : ∀ t, Q (.int k t) s)
    (hs : ∀ a, subscripted slice false (.ref a) (.int 0 u) = operate [.ref a, .int 0 u] (getItem (.ref a) (.int 0 u))) :
    wpAny (model prog w) A (subscriptTail value slice x.1 (.int 0 u)) Q E s := by
  obtain ⟨a, xs, n, ea, ma, ia⟩ := hx
  rw [ea]
  rw [e] at ia
  cases ia with
  | cons _ t ia' =>
    have ht : IsTup s.heap a (List.toArray (.int k t :: _)) := ⟨_, (N _ ma).1, rfl, _, rfl⟩
    exact tail_any ht.typeIs slot_tuple_getitem.lookup (PyProof.Rows.getItem_tuple ht (by omega) (by omega) (j := 0) (by simp [seqIndex?]) (x := .int k t) (by simp) (h t)) (hs a)

theorem fr_store {h h' : Heap} {m' : Str → Option Value} (F : Fr g L h m) (hn : h'.Ns L m') (hk : ∀ c o, c ≠ L → h.get? c = some o → h'.get? c = some o) : Fr g L h' m' := by
  have hL₀ : g.get? L = none := Heap.get?_none_of_le F.above
  exact ⟨hn, fun b o e => hk b o (fun q => by rw [q, hL₀] at e; cases e) (F.keep b o e), F.above⟩

theorem tup_unpack2 {Q : Unit → Shared → Prop} {a b : Str} {pa pb tp : Pos} {kk : Nat} {k o : Int} (F : Fr g env.locals s.heap m) (N : News g env.locals s.heap news) (hx : TupIn news x.1 x.2) (e : x.2 = [k, o]) (hh : A.handled = none)
    (ha : env.kindOf a = some .local) (hb : env.kindOf b = some .local) (hp : (env.scope.kind == .class || (env.scope.kind == .module && env.locals != env.globals)) = false)
    (h : ∀ h' tk t1 t2, Fr g env.locals h' (fun z => if z = b then some (.int o t2) else if z = a then some (.int k t1) else m z) → News g env.locals h' news → Q () { s with heap := h', toks := tk }) :
    wpAny (model prog w) A (assign (.Tuple [.Name a pa, .Name b pb] kk tp) env x.1) Q E s := by
  obtain ⟨T, xs, n, ea, ma, ia⟩ := hx
  rw [ea]
  rw [e] at ia
  cases ia with
  | cons _ t1 ia' =>
    cases ia' with
    | cons _ t2 ia'' =>
      cases ia''
      have ht : s.heap.IsTuple T #[.int k t1, .int o t2] := ⟨_, (N _ ma).1, rfl, _, rfl⟩
      exact kcp_assign hh ht ha hb hp F.ns fun h' tk hn hk => h h' tk t1 t2 (fr_store F hn hk) fun p hp => ⟨hk _ _ (N p hp).2.1 (N p hp).1, (N p hp).2⟩

theorem tup_unpack3 {Q : Unit → Shared → Prop} {a b c : Str} {pa pb pc tp : Pos} {kk : Nat} {k o e : Int} (F : Fr g env.locals s.heap m) (N : News g env.locals s.heap news) (hx : TupIn news x.1 x.2) (ex : x.2 = [k, o, e]) (hh : A.handled = none)
    (ha : env.kindOf a = some .local) (hb : env.kindOf b = some .local) (hc : env.kindOf c = some .local) (hp : (env.scope.kind == .class || (env.scope.kind == .module && env.locals != env.globals)) = false)
    (h : ∀ h' tk t1 t2 t3, Fr g env.locals h' (fun z => if z = c then some (.int e t3) else if z = b then some (.int o t2) else if z = a then some (.int k t1) else m z) → News g env.locals h' news → Q () { s with heap := h', toks := tk }) :
    wpAny (model prog w) A (assign (.Tuple [.Name a pa, .Name b pb, .Name c pc] kk tp) env x.1) Q E s := by
  obtain ⟨T, xs, n, ea, ma, ia⟩ := hx
  rw [ea]
  rw [ex] at ia
  cases ia with
  | cons _ t1 ia' =>
    cases ia' with
    | cons _ t2 ia'' =>
      cases ia'' with
      | cons _ t3 ia3 =>
        cases ia3
        have ht : s.heap.IsTuple T #[.int k t1, .int o t2, .int e t3] := ⟨_, (N _ ma).1, rfl, _, rfl⟩
        refine wpAny_assign_Tuple hh ht rfl rfl fun h₁ he₁ => ?_
        have hL : env.locals ≠ s.heap.objs.size := Nat.ne_of_lt F.ns.lt
        have up₁ : ∀ c o, s.heap.get? c = some o → h₁.get? c = some o := fun c o e => he₁ c o (Nat.ne_of_lt (Heap.lt_size e)) e
        have hn₁ : h₁.Ns env.locals m := F.ns.at' fun o e => up₁ _ o e
        show wpAny _ _ (assignInOrder [assign (.Name a pa) env, assign (.Name b pb) env, assign (.Name c pc) env] [_, _, _]) _ _ _
        refine assignInOrder_cons (wpAny_assign_Name (wpAny_storeName_local ha hn₁ (fun h₂ hn₂ hs₂ => ?_) hp))
        refine assignInOrder_cons (wpAny_assign_Name (wpAny_storeName_local hb hn₂ (fun h₃ hn₃ hs₃ => ?_) hp))
        refine assignInOrder_cons (wpAny_assign_Name (wpAny_storeName_local hc hn₃ (fun h₄ hn₄ hs₄ => ?_) hp))
        refine assignInOrder_nil ?_
        have up : ∀ c o, c ≠ env.locals → s.heap.get? c = some o → h₄.get? c = some o := fun c o hc e => hs₄.extBut c o hc (hs₃.extBut c o hc (hs₂.extBut c o hc (up₁ c o e)))
        exact h h₄ _ t1 t2 t3 (fr_store F hn₄ up) fun p hp => ⟨up _ _ (N p hp).2.1 (N p hp).1, (N p hp).2⟩

theorem Walks.listFrom {prog : Program} {w : World} {A : Around} (hh : A.handled = none) (I ax : Addr) (hne : ax ≠ I) (items : Array Value) (k : Nat) (hk : k ≤ items.size) :
    Walks prog w A I [I, ax] [I] (items.size - k) (fun i v => items[k + i]? = some v) (fun i h => h.get? I = some (lIt ax (k + i)) ∧ h.IsList ax items) where
  sub := fun b hb => by simp at hb; simp [hb]
  frame := fun _ _ _ st hk => ⟨hk I (by simp) _ st.1, st.2.at fun o e => hk ax (by simp) o e⟩
  item := fun i s Q E hi st hQ => by
    have hT : s.TypeIs (.ref I) "list_iterator" := (lIt_is st.1).typeIs
    have hx : items[k + i]? = some (items[k + i]'(by omega)) := Array.getElem?_eq_getElem (by omega)
    unfold pyNext
    refine wpAny_bind (wpAny_attempt (wpAny_callSpecial?_slot (name := Str.ofString "__next__") hT slot_listiter_next (wpAny_call_entry slot_listiter_next hT entry_listiter_next (listNext st.1 st.2 hx fun h' a b => ?_) (args_listiter_next _))))
    refine ⟨_, rfl, wpAny_pure (hQ _ h' s.toks hx ⟨a, st.2.extBut b.extBut hne⟩ fun c o hc e => b.extBut c o (fun q => hc (by simp [q])) e)⟩
  done := fun s Q E st hQ => wpAny_pyNext_list_end hh (lIt_is st.1) st.2 (by rw [show k + (items.size - k) = items.size by omega]; simp) fun h' he' => hQ h' s.toks fun b o hb e => he' b o (fun h => hb (by simp [h])) e
  self := fun _ _ _ _ st hQ => wpAny_pyIter_listiter (lIt_is st.1) hQ
end
end Mine
end

section
open PySem PySem.W PyProof.Rows
namespace Mine
/-- the key of an item -/
def hdK (q : Item) : Int := q.2.headD 0
/-- ks: the best of done, as many as ks -/
def Best (le : Int → Int → Prop) (ks done : List Int) : Prop := ∃ dr : List Int, (ks ++ dr).Perm done ∧ ∀ x ∈ ks, ∀ y ∈ dr, le x y

theorem Best.start {le : Int → Int → Prop} {ks done : List Int} (h : ks.Perm done) : Best le ks done := ⟨[], by simpa using h, fun _ _ _ h => nomatch h⟩
theorem Best.perm {le : Int → Int → Prop} {ks ks' done : List Int} (h : Best le ks done) (p : ks'.Perm ks) : Best le ks' done := by
  obtain ⟨dr, h1, h2⟩ := h
  exact ⟨dr, (p.append_right dr).trans h1, fun x hx => h2 x (p.mem_iff.mp hx)⟩
theorem Best.skip {le : Int → Int → Prop} (tr : ∀ a b c, le a b → le b c → le a c) {ks done : List Int} {r e : Int} (h : Best le ks done) (hm : ∀ x ∈ ks, le x r) (hr : le r e) : Best le ks (done ++ [e]) := by
  obtain ⟨dr, h1, h2⟩ := h
  refine ⟨dr ++ [e], ?_, fun x hx y hy => ?_⟩
  · rw [← List.append_assoc]; exact h1.append_right [e]
  · rcases List.mem_append.mp hy with hy | hy
    · exact h2 x hx y hy
    · rw [List.mem_singleton.mp hy]; exact tr _ _ _ (hm x hx) hr
theorem Best.swap {le : Int → Int → Prop} (tr : ∀ a b c, le a b → le b c → le a c) {ks ks' done : List Int} {r e : Int} (h : Best le ks done) (hp : ks.Perm (r :: ks')) (hm : ∀ x ∈ ks, le x r) (hr : le e r) : Best le (e :: ks') (done ++ [e]) := by
  obtain ⟨dr, h1, h2⟩ := h.perm hp.symm
  have hrm : r ∈ r :: ks' := .head _
  refine ⟨r :: dr, ?_, fun x hx y hy => ?_⟩
  · have e1 : (e :: ks' ++ r :: dr).Perm (e :: (r :: ks' ++ dr)) := by
      show (e :: (ks' ++ r :: dr)).Perm (e :: (r :: (ks' ++ dr)))
      exact List.Perm.cons _ List.perm_middle
    exact e1.trans ((List.Perm.cons e h1).trans (List.perm_append_singleton e done).symm)
  · rcases List.mem_cons.mp hx with rfl | hx
    · rcases List.mem_cons.mp hy with rfl | hy
      · exact hr
      · exact tr _ _ _ hr (h2 r hrm y hy)
    · rcases List.mem_cons.mp hy with rfl | hy
      · exact hm x (hp.mem_iff.mpr (.tail _ hx))
      · exact h2 x (.tail _ hx) y hy

theorem lex_hd {a b : List Int} (ha : a ≠ []) (hb : b ≠ []) (h : lexLt a b = false) : b.headD 0 ≤ a.headD 0 := by
  cases a with
  | nil => exact absurd rfl ha
  | cons x a =>
    cases b with
    | nil => exact absurd rfl hb
    | cons y b =>
      unfold lexLt at h
      show y ≤ x
      by_cases e : x = y
      · omega
      · rw [if_neg e] at h
        simp only [decide_eq_false_iff_not] at h
        omega

/-- the root of a heap is the worst -/
theorem max_root {qs : List Item} (h : Heaped ltMax d0 0 qs) (hne : ∀ q ∈ qs, q.2 ≠ []) : ∀ x ∈ qs.map hdK, x ≤ hdK (qs.getD 0 d0) := by
  intro x hx
  obtain ⟨q, hq, rfl⟩ := List.mem_map.mp hx
  obtain ⟨i, hi, rfl⟩ := List.getElem_of_mem hq
  have h1 := heaped_root ltMax_strict h i hi
  have e : qs.getD i d0 = qs[i] := by simp [hi]
  have h0 : 0 < qs.length := by omega
  have e0 : qs.getD 0 d0 = qs[0] := by simp [h0]
  rw [e, e0] at h1
  rw [e0]
  exact lex_hd (hne _ (List.getElem_mem h0)) (hne _ hq) h1
theorem min_root {qs : List Item} (h : Heaped ltMin d0 0 qs) (hne : ∀ q ∈ qs, q.2 ≠ []) : ∀ x ∈ qs.map hdK, hdK (qs.getD 0 d0) ≤ x := by
  intro x hx
  obtain ⟨q, hq, rfl⟩ := List.mem_map.mp hx
  obtain ⟨i, hi, rfl⟩ := List.getElem_of_mem hq
  have h1 := heaped_root ltMin_strict h i hi
  have e : qs.getD i d0 = qs[i] := by simp [hi]
  have h0 : 0 < qs.length := by omega
  have e0 : qs.getD 0 d0 = qs[0] := by simp [h0]
  rw [e, e0] at h1
  rw [e0]
  exact lex_hd (hne _ hq) (hne _ (List.getElem_mem h0)) h1

theorem set0_perm {qs : List Item} (h : 0 < qs.length) (x : Item) : ∃ r, qs.Perm (qs.getD 0 d0 :: r) ∧ (qs.set 0 x).Perm (x :: r) := by
  cases qs with
  | nil => simp at h
  | cons q r => exact ⟨r, .refl _, .refl _⟩
theorem rep_best {le : Int → Int → Prop} (tr : ∀ a b c, le a b → le b c → le a c) {lt : Item → Item → Bool} {qs : List Item} {x : Item} {done : List Int} (h : Best le (qs.map hdK) done) (h0 : 0 < qs.length) (hm : ∀ y ∈ qs.map hdK, le y (hdK (qs.getD 0 d0))) (hr : le (hdK x) (hdK (qs.getD 0 d0))) :
    Best le ((heapRep lt d0 qs x).map hdK) (done ++ [hdK x]) := by
  obtain ⟨r, p1, p2⟩ := set0_perm h0 x
  refine (h.swap tr (p1.map hdK) hm hr).perm ?_
  exact ((heapRep_perm h0).trans p2).map hdK

theorem take_snoc {ns : List Int} {i : Nat} {x : Int} (h : ns[i]? = some x) : ns.take (i + 1) = ns.take i ++ [x] := by
  rw [List.take_add_one, h]; rfl
theorem range_take {ns : List Int} {n : Nat} (h : n ≤ ns.length) : (List.range n).map (fun i => ns.getD i 0) = ns.take n := by
  apply List.ext_getElem
  · simp; omega
  · intro i h1 h2
    simp only [List.length_map, List.length_range] at h1
    have : i < ns.length := by omega
    simp [this]
/-- the best k of ns, in order -/
def Sel (le : Int → Int → Prop) (k : Nat) (ns out : List Int) : Prop := out.length = min k ns.length ∧ out.Pairwise le ∧ Best le out ns
theorem sorted_hd {ys : List Item} (h : ys.Pairwise (fun a b => lexLt b.2 a.2 = false)) (hne : ∀ q ∈ ys, q.2 ≠ []) : (ys.map hdK).Pairwise (· ≤ ·) := by
  rw [List.pairwise_map]
  refine h.imp_of_mem fun ha hb hab => ?_
  exact lex_hd (hne _ hb) (hne _ ha) hab
theorem sorted_hdR {ys : List Item} (h : ys.Pairwise (fun a b => lexLt a.2 b.2 = false)) (hne : ∀ q ∈ ys, q.2 ≠ []) : (ys.map hdK).Pairwise (fun x y => x ≥ y) := by
  rw [List.pairwise_map]
  refine h.imp_of_mem fun ha hb hab => ?_
  exact lex_hd (hne _ ha) (hne _ hb) hab
end Mine
end

section
open PySem PySem.Spec PySem.Calls PySem.W PyProof.Rows PyProof.Rows.LCg
set_option Elab.async false
set_option maxHeartbeats 4000000
set_option maxRecDepth 100000
namespace Mine

def srtTree (a : Addr) (b : Bool) : Sem PySem.Fin := do
    let items ← Builtin.List.listItems (.ref a)
    Builtin.List.listUpdate (.ref a) fun _ => #[]
    let before ← seqEpoch a
    let held ← newTuple items.toList
    let keyStore ← newList []
    holding [held, keyStore] do
      if b then rule "list.sort.reverse"
      let kind ← if items.size < 2 then pure general' else keyKind' items
      let ((), s) ← (if items.size < 2 then pure () else sortRuns').run (SortSt.mk' kind (if b then (items.zip items).reverse else items.zip items) #[] 7 none)
      let sorted := (arrOf s).map (·.2)
      let touched := (← seqEpoch a) != before
      Builtin.List.listUpdate (.ref a) fun _ => if b then sorted.reverse else sorted
      if let some e := failedOf s then rule "list.sort.comparison-raised"; throw e
      if touched then rule "list.sort.modified"; raiseError "ValueError" "list modified during sort"
      ret .none
theorem srt_1 (a : Addr) : Builtin.«list.sort» ⟨[.ref a], []⟩ = srtTree a false := rfl
theorem srt_2 (a : Addr) (b : Bool) : Builtin.«list.sort» ⟨[.ref a], [(Str.ofString "reverse", .bool b)]⟩ = srtTree a b := rfl
theorem srt_3 (a : Addr) : Builtin.«list.sort» ⟨[.ref a], [(Str.ofString "key", .none)]⟩ = srtTree a false := rfl
theorem srt_4 (a : Addr) (b : Bool) : Builtin.«list.sort» ⟨[.ref a], [(Str.ofString "key", .none), (Str.ofString "reverse", .bool b)]⟩ = srtTree a b := rfl

section
variable {prog : Program} {w : World} {A : Around} {E : Value → Shared → Prop} {s : Shared} {g : Heap} {L a : Addr} {m : Str → Option Value} {news : List (Addr × Obj)} {vs : List Value}

/-- a comparison that answers by ranks and changes nothing, for the whole of a sort -/
def Ranks (prog : Program) (w : World) (A : Around) (b : Bool) (vs : List Value) (rk : Nat → Int) (s : Shared) : Prop :=
  ∀ (Q : SortKind → Shared → Prop), (∀ κ, Ans (kas_ask prog w A κ (katRev b vs)) rk vs.length s → Q κ s) → wpAny (model prog w) A (keyKind' vs.toArray) Q (fun _ _ => False) s

theorem srt_ok {b : Bool} {n : Nat} {P : PySem.Fin → Shared → Prop} (rk : Nat → Int) (F : Fr g L s.heap m) (N : News g L s.heap news) (ho : s.heap.get? a = some (seqObj "list" vs.toArray n)) (haL : a ≠ L) (ha0 : g.get? a = none) (hna : ∀ p ∈ news, p.1 ≠ a)
    (h2 : 2 ≤ vs.length) (h64 : vs.length < 64)
    (hk : ∀ h', Fr g L h' m → News g L h' news → Ranks prog w A b vs rk { s with heap := h' })
    (h : ∀ p c h', Ord vs.length p → UpTo rk p vs.length → Fr g L h' m → News g L h' ((a, listOf (List.toArray (katRev b (p.toList.map fun i => (katRev b vs).getD i Value.none))) c) :: news) → P (.done (.ret .none)) { s with heap := h' }) :
    wpAny (model prog w) A (srtTree a b) P E s := by
  have ha : a < s.heap.objs.size := Heap.lt_size ho
  have s1 := Heap.SameBut.update s.heap a (Obj.mapSeq fun _ => (#[] : Array Value))
  obtain ⟨e1, ho1⟩ : ∃ e1, (s.heap.update a (Obj.mapSeq fun _ => (#[] : Array Value))).get? a = some (seqObj "list" #[] e1) := ⟨_, get?_update_seq ho fun _ => #[]⟩
  have F3 : Fr g L (((s.heap.update a (Obj.mapSeq fun _ => (#[] : Array Value))).push (seqObj "tuple" vs.toArray 0)).push (seqObj "list" #[] 0)) m := ((kas_fr F s1 haL ha0).push _).push _
  have N3 : News g L (((s.heap.update a (Obj.mapSeq fun _ => (#[] : Array Value))).push (seqObj "tuple" vs.toArray 0)).push (seqObj "list" #[] 0)) news :=
    (kas_news N s1 hna).grown fun b x e => Heap.get?_push_of_some _ (Heap.get?_push_of_some _ e)
  have o3 : (((s.heap.update a (Obj.mapSeq fun _ => (#[] : Array Value))).push (seqObj "tuple" vs.toArray 0)).push (seqObj "list" #[] 0)).get? a = some (seqObj "list" #[] e1) := Heap.get?_push_of_some _ (Heap.get?_push_of_some _ ho1)
  have hlr : (katRev b vs).length = vs.length := kat_len b vs
  unfold srtTree
  refine wpAny_bind (listItems_at ho rfl ?_)
  refine wpAny_bind (listUpdate_at ho rfl ?_ (by rw [List.size_toArray, sizeLine_eq]; omega) (Nat.zero_le _))
  refine wpAny_bind (seqEpoch_at ho1 rfl ?_)
  refine wpAny_bind (wpAny_newTuple ?_ (by show vs.length ≤ _; rw [sizeLine_eq]; omega))
  refine wpAny_bind (wpAny_newList ?_ (Nat.zero_le _))
  refine wpAny_holding ?_
  have step : ∀ (s : Shared) (t : Sem PySem.Fin), wpAny (model prog w) A t P E s → wpAny (model prog w) A (if b = true then (do let _ ← rule "list.sort.reverse"; t) else t) P E s := by
    intro s t ht
    split
    · exact wpAny_bind (wpAny_rule ht)
    · exact ht
  have hn2 : ¬ vs.toArray.size < 2 := by rw [List.size_toArray]; omega
  generalize ((s.heap.update a (Obj.mapSeq fun _ => (#[] : Array Value))).push (seqObj "tuple" vs.toArray 0)).push (seqObj "list" #[] 0) = H3 at F3 N3 o3 ⊢
  show wpAny (model prog w) A _ P E { s with heap := H3 }
  dsimp only
  refine step _ _ ?_
  rw [if_neg hn2, if_neg hn2]
  refine wpAny_bind (wpAny_mono (hk H3 F3 N3 _ fun κ hA => ?_) (fun _ _ h => h) fun _ _ x => x.elim)
  rw [kat_pairs b rfl]
  refine wpAny_bind (wpAny_mono (kat_run (ks := katRev b vs) (vs := katRev b vs) (Q := fun st' s' => s' = { s with heap := H3 } ∧ ∃ p : Array Nat, p.size = (katRev b vs).length ∧ arrOf st' = p.map (kas_item ((List.toArray (katRev b vs)).zip (List.toArray (katRev b vs)))) ∧ failedOf st' = none ∧ Ord vs.length p ∧ UpTo rk p vs.length)
    (G := fun p s' => s' = { s with heap := H3 } ∧ Ord vs.length p ∧ UpTo rk p vs.length)
    rfl (by rw [hlr]; exact h2) (by rw [hlr]; exact h64) (fun p' st' s' a1 a2 a3 a4 => ⟨a4.1, p', a1, a2, a3, a4.2⟩) (by rw [hlr]; exact sort_ok hA (by omega) fun p hp hu => ⟨rfl, hp, hu⟩)) ?_ fun _ _ x => x)
  rintro ⟨⟨⟩, st'⟩ s' ⟨rfl, p, hp, har, hf, hO, hU⟩
  dsimp only
  rw [kat_snds rfl har, kat_outs]
  have hsz : (List.toArray (katRev b (p.toList.map fun i => (katRev b vs).getD i Value.none))).size = vs.length := by rw [List.size_toArray, kat_len, List.length_map, Array.length_toList, hp, hlr]
  have s2 := Heap.SameBut.update H3 a (Obj.mapSeq fun _ => List.toArray (katRev b (p.toList.map fun i => (katRev b vs).getD i Value.none)))
  obtain ⟨c2, hc2⟩ : ∃ c2, (H3.update a (Obj.mapSeq fun _ => List.toArray (katRev b (p.toList.map fun i => (katRev b vs).getD i Value.none)))).get? a = some (seqObj "list" (List.toArray (katRev b (p.toList.map fun i => (katRev b vs).getD i Value.none))) c2) := ⟨_, get?_update_seq o3 fun _ => List.toArray (katRev b (p.toList.map fun i => (katRev b vs).getD i Value.none))⟩
  refine wpAny_bind (seqEpoch_at o3 rfl ?_)
  refine wpAny_bind (listUpdate_at o3 rfl ?_ (Nat.zero_le _) (Nat.le_trans (Nat.le_of_eq hsz) (by rw [sizeLine_eq]; omega)))
  rw [hf]
  simp only [bne_self_eq_false, Bool.false_eq_true, if_false]
  refine wpAny_pure (h p c2 _ hO hU (kas_fr F3 s2 haL ha0) fun q hq => ?_)
  rcases List.mem_cons.mp hq with rfl | hq
  · exact ⟨hc2, haL, ha0⟩
  · exact kas_news N3 s2 hna q hq
end
end Mine
end

section
open PySem PySem.Spec PySem.Calls PySem.W PyProof.Rows PyProof.Rows.LCg
set_option Elab.async false
set_option maxHeartbeats 4000000
set_option maxRecDepth 100000
namespace Mine

theorem lex_trans {a b c : List Int} (h1 : lexLt a b = true) (h2 : lexLt b c = true) : lexLt a c = true := by
  cases h : lexLt a c with
  | true => rfl
  | false => have := lex_tr b c a (lex_as _ _ h2) h; rw [h1] at this; cases this
/-- how many of l lie below k -/
def below (l : List Item) (k : List Int) : Nat := l.countP (fun z => lexLt z.2 k)
theorem below_lt {l : List Item} {x : Item} {k : List Int} (hx : x ∈ l) (h : lexLt x.2 k = true) : below l x.2 < below l k := by
  obtain ⟨l1, l2, rfl⟩ := List.append_of_mem hx
  unfold below
  rw [List.countP_append, List.countP_append, List.countP_cons, List.countP_cons]
  have m : ∀ l' : List Item, l'.countP (fun z => lexLt z.2 x.2) ≤ l'.countP (fun z => lexLt z.2 k) := fun l' => List.countP_mono_left fun z _ hz => lex_trans hz h
  have a1 := m l1
  have a2 := m l2
  have e1 : lexLt x.2 x.2 = false := by
    cases e : lexLt x.2 x.2 with
    | false => rfl
    | true => have := lex_as _ _ e; rw [e] at this; exact this
  simp only [e1, h, if_true, Bool.false_eq_true, if_false]
  omega
theorem below_le {l : List Item} {a b : List Int} (h : lexLt a b = false) : below l b ≤ below l a := by
  refine List.countP_mono_left fun z _ hz => ?_
  cases e : lexLt z.2 a with
  | true => rfl
  | false => have := lex_tr b a z.2 h e; rw [this] at hz; cases hz
theorem below_iff {l : List Item} {x : Item} {k : List Int} (hx : x ∈ l) : decide ((below l x.2 : Int) < (below l k : Int)) = lexLt x.2 k := by
  cases h : lexLt x.2 k with
  | true => have := below_lt hx h; simp only [decide_eq_true_eq]; omega
  | false => have := below_le (l := l) h; simp only [decide_eq_false_iff_not]; omega

section
variable {prog : Program} {w : World} {A : Around} {E : Value → Shared → Prop} {s : Shared} {g : Heap} {L a : Addr} {m : Str → Option Value} {news : List (Addr × Obj)} {vs : List Value}

theorem lex_kat {Q : Bool → Shared → Prop} {fin : Bool} : ∀ {xs ys : List Value} {ks ls : List Int} (i : Nat), IntsAre xs ks → IntsAre ys ls → fin = decide (xs.length < ys.length) → Q (lexLt ks ls) s → KatLex prog w A true fin Q (xs.zip ys) i s
  | _, _, _, _, i, .nil, .nil, hf, h => by
    refine kat_nil ?_
    rw [hf]; exact h
  | _, _, _, _, i, .nil, .cons _ _ _, hf, h => by
    refine kat_nil ?_
    rw [hf]; simpa [lexLt] using h
  | _, _, _, _, i, .cons _ _ _, .nil, hf, h => by
    refine kat_nil ?_
    rw [hf]; simpa [lexLt] using h
  | _, _, _, _, i, .cons k t hx, .cons l u hy, hf, h => by
    rw [List.zip_cons_cons]
    refine kat_cons (wpAny_eqBool_int ?_)
    unfold lexLt at h
    by_cases e : k = l
    · rw [if_pos e] at h
      have eb : (k == l) = true := by simp [e]
      rw [eb]
      exact kat_yes (lex_kat (i + 1) hx hy (by rw [hf]; simp) h)
    · rw [if_neg e] at h
      have eb : (k == l) = false := by simp [e]
      rw [eb]
      refine kat_no ?_
      by_cases hi : i = 0
      · subst hi
        exact oneLt_int h
      · have : (true && i == 0) = false := by simp [hi]
        rw [this]
        exact kat_one _ _ (PyProof.Rows.lt_int h)

theorem tup_key {Q : Bool → Shared → Prop} {x y : Item} (N : News g L s.heap news) (hx : TupIn news x.1 x.2) (hy : TupIn news y.1 y.2) (h : Q (lexLt x.2 y.2) s) : wpAny (model prog w) A (keyLt' (tuples' true) x.1 y.1) Q E s := by
  obtain ⟨a, xs, na, ea, ma, ia⟩ := hx
  obtain ⟨b, ys, nb, eb, mb, ib⟩ := hy
  rw [ea, eb]
  exact kat_lt (N _ ma).1 rfl (N _ mb).1 rfl (lex_kat 0 ia ib (by simp) h)

theorem tups_kat (N : News g L s.heap news) : ∀ {xs : List Item}, (∀ q ∈ xs, TupIn news q.1 q.2) → (∀ q ∈ xs, q.2 ≠ []) → ∃ fs, fs.length = xs.length ∧ KatTups s.heap (xs.map Prod.fst) fs ∧ ∀ v ∈ fs, ∃ i t, v = .int i t
  | [], _, _ => ⟨[], rfl, KatTups.nil, fun _ h => nomatch h⟩
  | q :: r, hT, hne => by
    obtain ⟨fs, hl, hk, hi⟩ := tups_kat N (xs := r) (fun q hq => hT q (.tail _ hq)) (fun q hq => hne q (.tail _ hq))
    obtain ⟨a, xs, n, ea, ma, ia⟩ := hT q (.head _)
    have hne' := hne q (.head _)
    rcases q with ⟨v, ks⟩
    cases ia with
    | nil => exact absurd rfl hne'
    | cons i t ia' =>
      refine ⟨.int i t :: fs, by simp [hl], ?_, ?_⟩
      · subst ea
        exact KatTups.cons (N _ ma).1 rfl rfl (by simp) hk
      · intro v hv
        rcases List.mem_cons.mp hv with rfl | hv
        · exact ⟨_, _, rfl⟩
        · exact hi v hv

theorem rev_map {α β : Type} (b : Bool) (f : α → β) (l : List α) : katRev b (l.map f) = (katRev b l).map f := by
  cases b with
  | false => rfl
  | true => unfold katRev; simp
theorem rev_mem {α : Type} {b : Bool} {l : List α} {x : α} : x ∈ katRev b l ↔ x ∈ l := by
  cases b with
  | false => exact Iff.rfl
  | true => unfold katRev; simp
theorem rev_perm {α : Type} (b : Bool) (l : List α) : (katRev b l).Perm l := by
  cases b with
  | false => exact .refl _
  | true => unfold katRev; simpa using List.reverse_perm l

theorem fst_getD {xs : List Item} (i : Nat) : (xs.map Prod.fst).getD i Value.none = (xs.getD i d0).1 := by
  by_cases h : i < xs.length
  · simp [h]
  · simp [Nat.le_of_not_lt h, d0]

theorem ranks_tup {xs : List Item} {b : Bool} (N : News g L s.heap news) (hT : ∀ q ∈ xs, TupIn news q.1 q.2) (hne : ∀ q ∈ xs, q.2 ≠ []) (h2 : 2 ≤ xs.length) :
    Ranks prog w A b (xs.map Prod.fst) (fun i => (below (katRev b xs) ((katRev b xs).getD i d0).2 : Int)) s := by
  intro Q hQ
  obtain ⟨fs, hl, hk, hi⟩ := tups_kat N hT hne
  refine kat_kind (T := .type "int") hk (by omega) (fun v hv => ?_) rfl (hQ _ ?_)
  · obtain ⟨i, t, rfl⟩ := hi v hv
    exact .now
  · intro i j C hi hj hC
    rw [List.length_map] at hi hj
    have hmi : (katRev b xs).getD i d0 ∈ katRev b xs := by
      have : i < (katRev b xs).length := by rw [kat_len]; exact hi
      exact getD_mem this
    have hmj : (katRev b xs).getD j d0 ∈ katRev b xs := by
      have : j < (katRev b xs).length := by rw [kat_len]; exact hj
      exact getD_mem this
    rw [below_iff hmi] at hC
    unfold kas_ask
    rw [rev_map, fst_getD, fst_getD]
    exact tup_key N (hT _ (rev_mem.mp hmi)) (hT _ (rev_mem.mp hmj)) hC

/-- the sorted list of items -/
theorem ord_items {xs : List Item} {n : Nat} {p : Array Nat} (hO : Ord n p) (hn : xs.length = n) : (p.toList.map fun i => xs.getD i d0).Perm xs := by
  have h1 : p.toList.Perm (List.range n) := by
    have := Array.perm_iff_toList_perm.mp hO
    simpa using this
  have h2 := h1.map (fun i => xs.getD i d0)
  refine h2.trans ?_
  have : (List.range n).map (fun i => xs.getD i d0) = xs := by
    apply List.ext_getElem
    · simp [hn]
    · intro i a b
      simp only [List.length_map, List.length_range] at a
      have : i < xs.length := by omega
      simp [this]
  rw [this]

theorem ord_sorted {xs : List Item} {n : Nat} {p : Array Nat} (hO : Ord n p) (hn : xs.length = n) (hU : UpTo (fun i => (below xs (xs.getD i d0).2 : Int)) p n) : (p.toList.map fun i => xs.getD i d0).Pairwise (fun a b => lexLt b.2 a.2 = false) := by
  rw [List.pairwise_iff_getElem]
  intro i j hi hj hij
  have hs := hO.size
  simp only [List.length_map, Array.length_toList] at hi hj
  have hu := hU i j (by omega) (by omega)
  have e : ∀ k (h : k < p.size), (p.toList.map fun i => xs.getD i d0)[k]'(by simpa using h) = xs.getD (p.getD k 0) d0 := by
    intro k h
    simp [Array.getD, h]
  rw [e i hi, e j hj]
  unfold rkAt at hu
  dsimp only at hu
  have hmj : xs.getD (p.getD j 0) d0 ∈ xs := getD_mem (by rw [hn]; exact hO.lt (by omega))
  have := below_iff (k := (xs.getD (p.getD i 0) d0).2) hmj
  rw [← this]
  simp only [decide_eq_false_iff_not]
  omega

theorem pair_sort {D : Addr} {xs : List Item} {n : Nat} {rest : List (Addr × Obj)} {b : Bool} {kw : List (Str × Value)} {Q : Value → Shared → Prop} (F : Fr g L s.heap m) (N : News g L s.heap ((D, listOf (xs.map Prod.fst).toArray n) :: rest)) (hne : ∀ q ∈ rest, q.1 ≠ D) (hT : ∀ q ∈ xs, TupIn rest q.1 q.2) (hs : ∀ q ∈ xs, q.2 ≠ [])
    (h2 : 2 ≤ xs.length) (h64 : xs.length < 64) (ht : Builtin.«list.sort» ⟨[.ref D], kw⟩ = srtTree D b) (ha : argsOk "list.sort" ⟨[.ref D], kw⟩)
    (h : ∀ (ys : List Item) c h', ys.Perm xs → ys.Pairwise (fun x y => if b = true then lexLt x.2 y.2 = false else lexLt y.2 x.2 = false) → Fr g L h' m → News g L h' ((D, listOf (ys.map Prod.fst).toArray c) :: rest) → Q .none { s with heap := h' }) :
    wpAny (model prog w) A (call (.builtin "list.sort") [.ref D] kw) Q E s := by
  have nz := N _ (.head _)
  refine wpAny_call_entry_kw slot_list_sort ⟨_, nz.1, rfl⟩ entry_list_sort ?_ ha
  rw [ht]
  refine srt_ok (news := rest) (vs := xs.map Prod.fst) _ F (fun p hp => N p (.tail _ hp)) nz.1 nz.2.1 nz.2.2 hne (by simpa using h2) (by simpa using h64) (fun h' F' N' => ranks_tup N' hT hs h2) fun p c h' hO hU F' N' => ⟨_, rfl, ?_⟩
  have hlen : (katRev b xs).length = (xs.map Prod.fst).length := by rw [kat_len, List.length_map]
  have e : katRev b (p.toList.map fun i => (katRev b (xs.map Prod.fst)).getD i Value.none) = (katRev b (p.toList.map fun i => (katRev b xs).getD i d0)).map Prod.fst := by
    have e2 := rev_map b Prod.fst (p.toList.map fun i => (katRev b xs).getD i d0)
    rw [← e2, List.map_map]
    congr 1
    refine List.map_congr_left fun i _ => ?_
    rw [rev_map b Prod.fst xs]
    exact fst_getD i
  rw [e] at N'
  refine h _ c h' (((rev_perm b _).trans (ord_items hO hlen)).trans (rev_perm b xs)) ?_ F' N'
  have hp := ord_sorted hO hlen hU
  cases b with
  | false => simpa [katRev] using hp
  | true =>
    unfold katRev at hp ⊢
    simp only [if_true] at hp ⊢
    exact List.pairwise_reverse.mpr hp
end
end Mine
end

section
open PySem PySem.Spec PySem.Calls PySem.W PyProof.Rows PyProof.Rows.LCg
set_option Elab.async false
set_option maxHeartbeats 4000000
set_option maxRecDepth 100000
namespace Mine
section
variable {prog : Program} {w : World} {A : Around} {E : Value → Shared → Prop} {s : Shared} {g : Heap} {L : Addr} {m : Str → Option Value} {env : Env}

theorem IntsAre.snoc {vs : List Value} {ns : List Int} (h : IntsAre vs ns) (i : Int) (t : Tok) : IntsAre (vs ++ [.int i t]) (ns ++ [i]) := IntsAre.append h (.cons i t .nil)

theorem tup_block {D : Addr} {xs : List Item} {c : Nat} {rest : List (Addr × Obj)} {nps : List (Str × Pos)} {x : Str} {px tp : Pos} {kk : Nat} {scope : Scope} {cl : List (Str × Addr)} {Cn : Addr → Shared → Prop} (j : Nat)
    (hh : A.handled = none) (hkind : scope.kind = .function) (hx : scope.names.lookup x = some .local) (hd : (x == ("__debug__" : Str)) = false)
    (hj : ∀ vs : List Value, vs.length = nps.length → ((nps.map Prod.fst).zip vs).reverse.lookup x = vs[j]?) (hjl : j < nps.length)
    (F : Fr g L s.heap m) (N : News g L s.heap ((D, listOf (xs.map Prod.fst).toArray c) :: rest)) (hT : ∀ q ∈ xs, TupIn rest q.1 q.2) (hlen : ∀ q ∈ xs, q.2.length = nps.length) (hl : xs.length < 64)
    (done : ∀ D' h tk vs', Fr g L h m → News g L h ((D', listOf (List.toArray vs') vs'.length) :: (D, listOf (xs.map Prod.fst).toArray c) :: rest) → (∀ p ∈ (D, listOf (xs.map Prod.fst).toArray c) :: rest, p.1 ≠ D') → IntsAre vs' (xs.map fun q => q.2.getD j 0) → Cn D' { s with heap := h, toks := tk }) :
    Hold (wpAny (model prog w) A (pyIter (.ref D)) (BlockOk prog w A g L m env (.Tuple (nps.map fun p => .Name p.1 p.2) kk tp) (.Name x px) (nps.map Prod.fst) scope cl (fun _ => m) Cn) E s) := by
  have hD := N _ (.head _)
  have hDl : s.heap.IsList D (xs.map Prod.fst).toArray := PySem.IsL.isList (n := c) hD.1
  have hex : ∀ i, ∃ (T : Addr) (v : List Value) (n : Nat), i < xs.length → (xs.getD i d0).1 = .ref T ∧ (T, ({ cls := .type "tuple", data := .seq (List.toArray v) n } : Obj)) ∈ rest ∧ IntsAre v (xs.getD i d0).2 := by
    intro i
    by_cases h : i < xs.length
    · obtain ⟨T, v, n, e, hm, hi⟩ := hT _ (getD_mem h)
      exact ⟨T, v, n, fun _ => ⟨e, hm, hi⟩⟩
    · exact ⟨0, [], 0, fun h' => absurd h' h⟩
  have hTs : ∃ (Ts : Nat → Addr) (vals : Nat → List Value) (nn : Nat → Nat), ∀ i, i < xs.length → (xs.getD i d0).1 = .ref (Ts i) ∧ (Ts i, ({ cls := .type "tuple", data := .seq (List.toArray (vals i)) (nn i) } : Obj)) ∈ rest ∧ IntsAre (vals i) (xs.getD i d0).2 :=
    ⟨fun i => (hex i).choose, fun i => (hex i).choose_spec.choose, fun i => (hex i).choose_spec.choose_spec.choose, fun i => (hex i).choose_spec.choose_spec.choose_spec⟩
  obtain ⟨Ts, vals, nn, hv⟩ := hTs
  have hsz : (xs.map Prod.fst).toArray.size = xs.length := by simp
  have Nr : News g L s.heap rest := fun p hp => N p (.tail _ hp)
  have hlt : ∀ p ∈ (D, listOf (xs.map Prod.fst).toArray c) :: rest, p.1 < s.heap.objs.size := fun p hp => Heap.lt_size (N p hp).1
  refine wpAny_pyIter_list hDl ?_
  have up : ∀ b o, s.heap.get? b = some o → (s.heap.push { cls := .type "list_iterator", data := .fields #[.ref D, .int 0 0] }).get? b = some o := fun b o e => Heap.get?_push_of_some _ e
  have hDI : D < s.heap.objs.size := hlt _ (.head _)
  have hTlt : ∀ i, i < xs.length → Ts i < s.heap.objs.size := fun i hi => hlt _ (.tail _ (hv i hi).2.1)
  refine ⟨s.heap.objs.size, _, [s.heap.objs.size], (xs.map Prod.fst).toArray.size, _, _, [], (D, listOf (xs.map Prod.fst).toArray c) :: rest, fun i ys nw _ => nw = (D, listOf (xs.map Prod.fst).toArray c) :: rest ∧ IntsAre ys ((xs.take i).map fun q => q.2.getD j 0), rfl,
    TW.tups (I := s.heap.objs.size) (ax := D) hh (Nat.ne_of_lt hDI) (xs.map Prod.fst).toArray Ts vals nps tp kk (fun i hi => ?_) (fun i hi => ?_) (fun i hi => ?_), ?_, ⟨⟨_, Heap.get?_push_size _ rfl, rfl, rfl⟩, hDl.push _, fun k hk => ?_⟩, fun b hb => ?_, F.keeps up, N.grown up, ?_, fun b hb => ?_, ?_, ?_, ⟨rfl, .nil⟩, ?_, ?_, ?_⟩
  · rw [hsz] at hi
    have := (hv i hi).1
    simp only [List.getElem?_toArray, List.getElem?_map]
    rw [List.getElem?_eq_getElem hi]
    simp only [Option.map_some, Option.some.injEq]
    rw [← this]; simp [hi]
  · rw [hsz] at hi
    exact Nat.ne_of_lt (hTlt i hi)
  · rw [hsz] at hi
    have h1 := (hv i hi).2.2.length
    have h2 := hlen _ (getD_mem hi)
    omega
  · rw [hsz, sizeLine_eq]; omega
  · rw [hsz] at hk
    exact ⟨_, up _ _ (Nr _ (hv k hk).2.1).1, rfl, _, rfl⟩
  · show b < (s.heap.push _).objs.size
    rw [Heap.size_push]
    rcases List.mem_cons.mp hb with rfl | hb
    · exact Nat.lt_succ_self _
    rcases List.mem_cons.mp hb with rfl | hb
    · exact Nat.lt_succ_of_lt hDI
    obtain ⟨k, hk, rfl⟩ := List.mem_map.mp hb
    rw [List.mem_range, hsz] at hk
    exact Nat.lt_succ_of_lt (hTlt k hk)
  · intro hb
    rcases List.mem_cons.mp hb with hb | hb
    · exact Nat.ne_of_lt F.ns.lt hb
    rcases List.mem_cons.mp hb with hb | hb
    · exact hD.2.1 hb.symm
    obtain ⟨k, hk, e⟩ := List.mem_map.mp hb
    rw [List.mem_range, hsz] at hk
    exact (Nr _ (hv k hk).2.1).2.1 e
  · rw [List.mem_singleton.mp hb]; exact F.fresh
  · rintro i ys nw tk ⟨rfl, _⟩ p hp hw
    exact Nat.ne_of_lt (hlt p hp) (List.mem_singleton.mp hw)
  · intro i ys nw tk tk' h _
    exact h
  · intro p hp; cases hp
  · rintro i ys nw own C oC D' m₂ h tk E' hi hyl ⟨rfl, hys⟩ hoC hNm hSt F' N' hown hall hCD hCf hDf hoff
    rw [hsz] at hi
    obtain ⟨eT, hmT, hiT⟩ := hv i hi
    have hjl' : j < (vals i).length := by
      have h1 := hiT.length
      have h2 := hlen _ (getD_mem hi)
      omega
    have hlk : ((nps.map Prod.fst).zip (vals i)).reverse.lookup x = some (vals i)[j] := by
      rw [hj _ (by have h1 := hiT.length; have h2 := hlen _ (getD_mem hi); omega)]
      exact List.getElem?_eq_getElem hjl'
    obtain ⟨k, t, ek, hk⟩ := IntsAre.at hiT j _ (List.getElem?_eq_getElem hjl')
    have hm₂ := hNm x _ hlk
    rw [ek] at hm₂
    refine LCgL.ld_own N' (.head _) hoC hm₂ ?_ (by simp [compEnvC, relabel, hkind]) (lookup_relabel_local hx) hd
    refine ⟨h, tk, _, rfl, F', N', hoff, rfl, ?_⟩
    rw [List.take_add_one, List.getElem?_eq_getElem hi, List.map_append]
    have e2 : (xs.getD i d0).2.getD j 0 = k := by rw [List.getD_eq_getElem?_getD, hk]; rfl
    have e3 : xs.getD i d0 = xs[i] := by simp [hi]
    rw [e3] at e2
    have := IntsAre.snoc hys k t
    show IntsAre (ys ++ [Value.int k t]) (_ ++ [xs[i].2.getD j 0])
    rw [e2]
    exact this
  · rintro D' h tk ys nw F' N' hne hyl ⟨rfl, hys⟩
    rw [hsz, List.take_length] at hys
    exact done D' h tk ys F' N' hne hys
end
end Mine
end

section
open PySem PySem.Spec PySem.Calls PySem.W PyProof.Rows PyProof.Rows.LCg
set_option Elab.async false
namespace Mine
theorem callWith_self_kw {M : Model} {A : Around} {E : Value → Shared → Prop} {s : Shared} {env : Env} {pos : Pos} {id : String} {first : List Value} {kws : List Keyword} {Q : Value → Shared → Prop}
    (h : wpAny M A (evalAll ((backToKw pos (keywordEach kws env)).map (·.2))) (fun kvs s₂ => wpAny M A (call (.builtin id) first (((backToKw pos (keywordEach kws env)).filterMap (·.1)).zip kvs)) Q E s₂) E s)
    (hall : (backToKw pos (keywordEach kws env)).all (·.1.isSome) = true := by rfl)
    (hkw : (backToKw pos (keywordEach kws env)).any (·.1.isNone) = false := by rfl) :
    wpAny M A (callWith pos (.builtin id) first (backTo pos (starEach [] env)) (backToKw pos (keywordEach kws env))) Q E s :=
  callWith_builtin_kwB rfl hkw (evalArgs_kw2_nil hall (by simpa using h))
end Mine
end

section
open PySem PySem.Spec PySem.Calls PySem.W PyProof.Rows PyProof.Rows.LCg
set_option Elab.async false
set_option maxHeartbeats 4000000
set_option maxRecDepth 100000
namespace Mine
theorem take_mem_snoc {ns : List Int} {j : Nat} {x a : Int} (h : ns[j]? = some x) (ha : a ∈ ns.take (j + 1)) : a ∈ ns.take j ∨ a = x := by
  rw [List.take_add_one, h] at ha
  rcases List.mem_append.mp ha with h1 | h1
  · exact .inl h1
  · exact .inr (by simpa using h1)
theorem take_snoc_mem {ns : List Int} {j : Nat} {x a : Int} (h : ns[j]? = some x) (ha : a ∈ ns.take j ∨ a = x) : a ∈ ns.take (j + 1) := by
  rw [List.take_add_one, h]
  rcases ha with h1 | rfl
  · exact List.mem_append_left _ h1
  · exact List.mem_append_right _ (by simp)
/-- the key of an item, whatever else stands -/
def KeyOk (prog : Program) (w : World) (A : Around) (g : Heap) (L : Addr) (m : Str → Option Value) (q : Addr) (f : Int → Int) (news : List (Addr × Obj)) (s : Shared) : Prop :=
  ∀ x t h tk own, Fr g L h m → News g L h (news ++ own) → wpAny (model prog w) A (call (.ref q) [.int x t]) (KskEnd g L m (news ++ own) (f x) { s with heap := h, toks := tk }) (fun _ _ => False) { s with heap := h, toks := tk }
section
variable {prog : Program} {w : World} {A : Around} {E : Value → Shared → Prop} {s : Shared} {g : Heap} {L R I S q : Addr} {m : Str → Option Value} {news : List (Addr × Obj)} {vs : List Value} {ns : List Int} {cR : Nat} {d : Value}

theorem min_loop (hh : A.handled = none) (hI : IntsAre vs ns) (hR : (R, listOf vs.toArray cR) ∈ news) (hnI : ∀ p ∈ news, p.1 ≠ I) (hnS : ∀ p ∈ news, p.1 ≠ S) (hSI : S ≠ I) (hIL : I ≠ L) (hI0 : g.get? I = none) (hSL : S ≠ L) (hS0 : g.get? S = none)
    {Rr : Result → Shared → Prop} (hR' : ∀ M t h' tk', Fr g L h' m → News g L h' news → M ∈ ns → (∀ a ∈ ns, (M) ≤ (a)) → Rr (.ok (.ret (.int M t))) { s with heap := h', toks := tk' }) :
    ∀ (r j : Nat) (h : Heap) (tk : Nat) (M : Int) (tM tb : Tok) (c : Nat), ns.length - j = r → j ≤ ns.length → Fr g L h m → News g L h news → h.get? S = some (seqObj "list" #[.int M tM, .int ((M)) tb] c) → h.get? I = some (lIt R (0 + j)) → M ∈ ns.take j → (∀ a ∈ ns.take j, (M) ≤ (a)) →
      codeAny (model prog w) A (.builtin "min.loop" ⟨[.ref I, .none, .ref S], [(Str.ofString "default", d)]⟩) Rr { s with heap := h, toks := tk } := by
  have hname : (toString "min" ++ toString ".loop" : String) = "min.loop" := by decide
  have W := Walks.listFrom (prog := prog) (w := w) (A := A.in1) hh I R (hnI _ hR) vs.toArray 0 (Nat.zero_le _)
  have hlen := hI.length
  have hsz : vs.toArray.size - 0 = ns.length := by simp; omega
  intro r
  induction r with
  | zero =>
    intro j h tk M tM tb c hr hj F N nS hit hM hb
    have hj' : j = ns.length := by omega
    subst hj'
    rw [List.take_length] at hM hb
    refine codeAny_builtin PySem.F.entry_min_loop ?_
    rw [Around.under_plainId PySem.F.plain_min_loop _]
    show wpAny _ A.in1 (seqItems? (.ref S) >>= _) _ _ _
    refine wpAny_bind (wpAny_seqItems nS rfl ?_)
    show wpAny _ A.in1 (tryCatch (pyNext (.ref I)) _ >>= _) _ _ _
    refine wpAny_bind (wpAny_tryCatch (W.done _ _ _ ⟨by rw [hsz]; exact hit, PySem.IsL.isList (n := cR) (N _ hR).1⟩ fun h' tk' hk' => ?_))
    have F1 := kmk_fr F hk' hIL hI0
    have N1 := kmk_news N hk' hnI
    have hS' := hk' S _ (by simpa using hSI) nS
    have s1 := Heap.SameBut.update h' S (Obj.mapSeq fun _ => (#[] : Array Value))
    show wpAny _ A.in1 (updateSeq S (fun _ => #[]) >>= _) _ _ _
    refine wpAny_bind ?_
    refine wpAny_updateSeq hS' rfl (wpAny_bind (wpAny_letGo (wpAny_pure ?_)))
    exact hR' M tM _ _ (ksk_fr F1 s1 hSL hS0) (ksk_news N1 s1 hnS) hM hb
  | succ r ih =>
    intro j h tk M tM tb c hr hj F N nS hit hM hb
    have hlt : j < ns.length := by omega
    refine codeAny_builtin PySem.F.entry_min_loop ?_
    rw [Around.under_plainId PySem.F.plain_min_loop _]
    show wpAny _ A.in1 (seqItems? (.ref S) >>= _) _ _ _
    refine wpAny_bind (wpAny_seqItems nS rfl ?_)
    show wpAny _ A.in1 (tryCatch (pyNext (.ref I)) _ >>= _) _ _ _
    refine wpAny_bind (wpAny_tryCatch (W.item j _ _ _ (by rw [hsz]; exact hlt) ⟨hit, PySem.IsL.isList (n := cR) (N _ hR).1⟩ fun v h' tk' hP hst' hk' => ?_))
    rw [Nat.zero_add] at hP
    obtain ⟨x, tx, hx, rfl⟩ := ints_at hI hP
    have F1 := kmk_fr F hk' hIL hI0
    have nS1 := hk' S _ (by simpa using hSI) nS
    have N1 : News g L h' (news ++ [(S, seqObj "list" #[.int M tM, .int ((M)) tb] c), (I, lIt R (0 + (j + 1)))]) := fun p hp => by
      rcases List.mem_append.mp hp with hp | hp
      · exact kmk_news N hk' hnI p hp
      · rcases List.mem_cons.mp hp with rfl | hp
        · exact ⟨nS1, hSL, hS0⟩
        · rw [List.mem_singleton.mp hp]
          exact ⟨hst'.1, hIL, hI0⟩
    refine wpAny_bind (m := pure (Value.int x tx)) (wpAny_pure ?_)
    have F2 := F1
    have N2 := N1
    generalize h' = h2 at F2 N2
    generalize tk' = tk2
    let t2 := tx
    have nS2 := (N2 (S, seqObj "list" #[.int M tM, .int ((M)) tb] c) (List.mem_append_right _ (.head _))).1
    have nI2 := (N2 (I, lIt R (0 + (j + 1))) (List.mem_append_right _ (.tail _ (.head _)))).1
    have Nn : News g L h2 news := fun p hp => N2 p (List.mem_append_left _ hp)
    show wpAny _ A.in1 (tryCatch (holding [.int x tx, .int ((x)) tx] (richCompare .Lt (.int ((x)) tx) (.int ((M)) tb) >>= _)) _ >>= _) _ _ _
    refine wpAny_bind (wpAny_tryCatch (wpAny_holding (wpAny_bind (show wpAny _ A.in1 (compareOp .Lt (.int ((x)) tx) (.int ((M)) tb)) _ _ _ from PyProof.Rows.lt_int ?_))))
    refine wpAny_bind (wpAny_holding (wpAny_truthy_bool ?_))
    refine wpAny_bind (wpAny_letGo (wpAny_pure ?_))
    by_cases hb' : (x) < (M)
    · have s1 := Heap.SameBut.update h2 S (Obj.mapSeq fun _ => #[.int x tx, .int ((x)) tx])
      obtain ⟨c2, hc2⟩ : ∃ c2, (h2.update S (Obj.mapSeq fun _ => #[.int x tx, .int ((x)) tx])).get? S = some (seqObj "list" #[.int x tx, .int ((x)) tx] c2) := ⟨_, get?_update_seq nS2 fun _ => #[.int x tx, .int ((x)) tx]⟩
      simp only [hb', decide_true, if_true]
      refine wpAny_bind ?_
      refine wpAny_updateSeq nS2 rfl (wpAny_bind (wpAny_letGo ?_))
      rw [hname]
      refine wpAny_pure ⟨plainId_quiet PySem.F.plain_min_loop _, ih (j + 1) _ _ x tx tx c2 (by omega) (by omega) (ksk_fr F2 s1 hSL hS0) (ksk_news Nn s1 hnS) hc2 ((s1.2 I hSI.symm).trans nI2) (take_snoc_mem hx (.inr rfl)) fun a ha => ?_⟩
      rcases take_mem_snoc hx ha with ha | rfl
      · have := hb a ha; omega
      · exact Int.le_refl _
    · simp only [hb', decide_false, Bool.false_eq_true, if_false]
      refine wpAny_bind (wpAny_letGo ?_)
      rw [hname]
      refine wpAny_pure ⟨plainId_quiet PySem.F.plain_min_loop _, ih (j + 1) _ _ M tM tb c (by omega) (by omega) F2 Nn nS2 nI2 (take_snoc_mem hx (.inl hM)) fun a ha => ?_⟩
      rcases take_mem_snoc hx ha with ha | rfl
      · exact hb a ha
      · omega

theorem min_it (hh : A.handled = none) (F : Fr g L s.heap m) (N : News g L s.heap ((I, lIt R 0) :: news)) (hI : IntsAre vs ns) (hne : 0 < ns.length) (hR : (R, listOf vs.toArray cR) ∈ news) (hnI : ∀ p ∈ news, p.1 ≠ I) {Q : Value → Shared → Prop}
    (hQ : ∀ M t h' tk', Fr g L h' m → News g L h' news → M ∈ ns → (∀ a ∈ ns, (M) ≤ (a)) → Q (.int M t) { s with heap := h', toks := tk' }) :
    wpAny (model prog w) A (call (.builtin "min") [.ref I] [(Str.ofString "default", d), (Str.ofString "key", .none)]) Q E s := by
  have hname : (toString "min" ++ toString ".loop" : String) = "min.loop" := by decide
  have nI := N _ (.head _)
  have Nn : News g L s.heap news := fun p hp => N p (.tail _ hp)
  have hL : L < s.heap.objs.size := F.ns.lt
  have hIs : I < s.heap.objs.size := Heap.lt_size nI.1
  have hlen := hI.length
  have hsz : vs.toArray.size - 0 = ns.length := by simp; omega
  refine kmk_tree PySem.F.kind_min PySem.F.plain_min PySem.F.entry_min (by unfold argsOk; kernel_rfl) ?_
  show wpAny _ A.in1 (Builtin.Builtins.bindParams "min" ["key", "default"] 0 ⟨[], [(Str.ofString "default", d), (Str.ofString "key", .none)]⟩ >>= _) _ _ s
  refine wpAny_bind (wpAny_of_eq (show Builtin.Builtins.bindParams "min" ["key", "default"] 0 ⟨[], [(Str.ofString "default", d), (Str.ofString "key", .none)]⟩ = pure [some (.none), some d] from rfl) ?_)
  refine wpAny_bind (wpAny_pure ?_)
  refine wpAny_bind (wpAny_pyIter_listiter (lIt_is nI.1) ?_)
  refine wpAny_bind (wpAny_newList ?_ (Nat.zero_le _))
  rw [hname]
  refine wpAny_pure ⟨plainId_quiet PySem.F.plain_min_loop _, ?_⟩
  have hIL : I ≠ L := nI.2.1
  have hSI : s.heap.objs.size ≠ I := Nat.ne_of_gt hIs
  have hSL : s.heap.objs.size ≠ L := Nat.ne_of_gt hL
  have hS0 : g.get? s.heap.objs.size = none := Heap.get?_none_of_le (Nat.le_trans F.above (Nat.le_of_lt hL))
  have hnS : ∀ p ∈ news, p.1 ≠ s.heap.objs.size := fun p hp => Nat.ne_of_lt (Heap.lt_size (Nn p hp).1)
  have FH := F.push (seqObj "list" #[] 0)
  have NH : News g L (s.heap.push (seqObj "list" #[] 0)) news := Nn.grown fun b x e => Heap.get?_push_of_some _ e
  have gS : (s.heap.push (seqObj "list" #[] 0)).get? s.heap.objs.size = some (seqObj "list" #[] 0) := Heap.get?_push_size _ rfl
  have gI : (s.heap.push (seqObj "list" #[] 0)).get? I = some (lIt R 0) := Heap.get?_push_of_some _ nI.1
  show codeAny (model prog w) A (.builtin "min.loop" ⟨[.ref I, .none, .ref s.heap.objs.size], [(Str.ofString "default", d)]⟩) _ { s with heap := s.heap.push (seqObj "list" #[] 0) }
  generalize s.heap.objs.size = S at hSI hSL hS0 hnS gS
  generalize s.heap.push (seqObj "list" #[] 0) = H at FH NH gS gI
  have W := Walks.listFrom (prog := prog) (w := w) (A := A.in1) hh I R (hnI _ hR) vs.toArray 0 (Nat.zero_le _)
  refine codeAny_builtin PySem.F.entry_min_loop ?_
  rw [Around.under_plainId PySem.F.plain_min_loop _]
  show wpAny _ A.in1 (seqItems? (.ref S) >>= _) _ _ _
  refine wpAny_bind (wpAny_seqItems gS rfl ?_)
  show wpAny _ A.in1 (tryCatch (pyNext (.ref I)) _ >>= _) _ _ _
  refine wpAny_bind (wpAny_tryCatch (W.item 0 _ _ _ (by rw [hsz]; exact hne) ⟨gI, PySem.IsL.isList (n := cR) (NH _ hR).1⟩ fun v h' tk' hP hst' hk' => ?_))
  obtain ⟨x, tx, hx, rfl⟩ := ints_at hI hP
  have F1 := kmk_fr FH hk' hIL nI.2.2
  have N1 : News g L h' (news ++ [(S, seqObj "list" #[] 0), (I, lIt R (0 + (0 + 1)))]) := fun p hp => by
    rcases List.mem_append.mp hp with hp | hp
    · exact kmk_news NH hk' hnI p hp
    · rcases List.mem_cons.mp hp with rfl | hp
      · exact ⟨hk' S _ (by simpa using hSI) gS, hSL, hS0⟩
      · rw [List.mem_singleton.mp hp]
        exact ⟨hst'.1, hIL, nI.2.2⟩
  refine wpAny_bind (m := pure (Value.int x tx)) (wpAny_pure ?_)
  have F2 := F1
  have N2 := N1
  generalize h' = h2 at F2 N2
  generalize tk' = tk2
  let t2 := tx
  have nS2 := (N2 (S, seqObj "list" #[] 0) (List.mem_append_right _ (.head _))).1
  have nI2 := (N2 (I, lIt R (0 + (0 + 1))) (List.mem_append_right _ (.tail _ (.head _)))).1
  have Nn2 : News g L h2 news := fun p hp => N2 p (List.mem_append_left _ hp)
  have s1 := Heap.SameBut.update h2 S (Obj.mapSeq fun _ => #[.int x tx, .int ((x)) tx])
  obtain ⟨c2, hc2⟩ : ∃ c2, (h2.update S (Obj.mapSeq fun _ => #[.int x tx, .int ((x)) tx])).get? S = some (seqObj "list" #[.int x tx, .int ((x)) tx] c2) := ⟨_, get?_update_seq nS2 fun _ => #[.int x tx, .int ((x)) tx]⟩
  refine wpAny_bind ?_
  refine wpAny_updateSeq nS2 rfl ?_
  rw [hname]
  refine wpAny_pure ⟨plainId_quiet PySem.F.plain_min_loop _, ?_⟩
  have h1 : ns.take 1 = [x] := by
    rw [show (1 : Nat) = 0 + 1 from rfl, List.take_add_one, hx]; rfl
  refine min_loop (S := S) hh hI hR hnI hnS hSI hIL nI.2.2 hSL hS0 (fun M t h9 tk9 F9 N9 hm hb => hQ M t h9 tk9 F9 N9 hm hb) _ 1 _ _ x tx tx c2 rfl (by omega) (ksk_fr F2 s1 hSL hS0) (ksk_news Nn2 s1 hnS) hc2 ((s1.2 I hSI.symm).trans nI2) (by rw [h1]; simp) fun a ha => ?_
  rw [h1] at ha
  rw [List.mem_singleton.mp ha]
  exact Int.le_refl _

theorem min_loopK (f : Int → Int) (turn : KeyOk prog w A.in1 g L m q f news s) (hh : A.handled = none) (hI : IntsAre vs ns) (hR : (R, listOf vs.toArray cR) ∈ news) (hnI : ∀ p ∈ news, p.1 ≠ I) (hnS : ∀ p ∈ news, p.1 ≠ S) (hSI : S ≠ I) (hIL : I ≠ L) (hI0 : g.get? I = none) (hSL : S ≠ L) (hS0 : g.get? S = none)
    {Rr : Result → Shared → Prop} (hR' : ∀ M t h' tk', Fr g L h' m → News g L h' news → M ∈ ns → (∀ a ∈ ns, f (M) ≤ f (a)) → Rr (.ok (.ret (.int M t))) { s with heap := h', toks := tk' }) :
    ∀ (r j : Nat) (h : Heap) (tk : Nat) (M : Int) (tM tb : Tok) (c : Nat), ns.length - j = r → j ≤ ns.length → Fr g L h m → News g L h news → h.get? S = some (seqObj "list" #[.int M tM, .int (f (M)) tb] c) → h.get? I = some (lIt R (0 + j)) → M ∈ ns.take j → (∀ a ∈ ns.take j, f (M) ≤ f (a)) →
      codeAny (model prog w) A (.builtin "min.loop" ⟨[.ref I, .ref q, .ref S], [(Str.ofString "default", d)]⟩) Rr { s with heap := h, toks := tk } := by
  have hname : (toString "min" ++ toString ".loop" : String) = "min.loop" := by decide
  have W := Walks.listFrom (prog := prog) (w := w) (A := A.in1) hh I R (hnI _ hR) vs.toArray 0 (Nat.zero_le _)
  have hlen := hI.length
  have hsz : vs.toArray.size - 0 = ns.length := by simp; omega
  intro r
  induction r with
  | zero =>
    intro j h tk M tM tb c hr hj F N nS hit hM hb
    have hj' : j = ns.length := by omega
    subst hj'
    rw [List.take_length] at hM hb
    refine codeAny_builtin PySem.F.entry_min_loop ?_
    rw [Around.under_plainId PySem.F.plain_min_loop _]
    show wpAny _ A.in1 (seqItems? (.ref S) >>= _) _ _ _
    refine wpAny_bind (wpAny_seqItems nS rfl ?_)
    show wpAny _ A.in1 (tryCatch (pyNext (.ref I)) _ >>= _) _ _ _
    refine wpAny_bind (wpAny_tryCatch (W.done _ _ _ ⟨by rw [hsz]; exact hit, PySem.IsL.isList (n := cR) (N _ hR).1⟩ fun h' tk' hk' => ?_))
    have F1 := kmk_fr F hk' hIL hI0
    have N1 := kmk_news N hk' hnI
    have hS' := hk' S _ (by simpa using hSI) nS
    have s1 := Heap.SameBut.update h' S (Obj.mapSeq fun _ => (#[] : Array Value))
    show wpAny _ A.in1 (updateSeq S (fun _ => #[]) >>= _) _ _ _
    refine wpAny_bind ?_
    refine wpAny_updateSeq hS' rfl (wpAny_bind (wpAny_letGo (wpAny_pure ?_)))
    exact hR' M tM _ _ (ksk_fr F1 s1 hSL hS0) (ksk_news N1 s1 hnS) hM hb
  | succ r ih =>
    intro j h tk M tM tb c hr hj F N nS hit hM hb
    have hlt : j < ns.length := by omega
    refine codeAny_builtin PySem.F.entry_min_loop ?_
    rw [Around.under_plainId PySem.F.plain_min_loop _]
    show wpAny _ A.in1 (seqItems? (.ref S) >>= _) _ _ _
    refine wpAny_bind (wpAny_seqItems nS rfl ?_)
    show wpAny _ A.in1 (tryCatch (pyNext (.ref I)) _ >>= _) _ _ _
    refine wpAny_bind (wpAny_tryCatch (W.item j _ _ _ (by rw [hsz]; exact hlt) ⟨hit, PySem.IsL.isList (n := cR) (N _ hR).1⟩ fun v h' tk' hP hst' hk' => ?_))
    rw [Nat.zero_add] at hP
    obtain ⟨x, tx, hx, rfl⟩ := ints_at hI hP
    have F1 := kmk_fr F hk' hIL hI0
    have nS1 := hk' S _ (by simpa using hSI) nS
    have N1 : News g L h' (news ++ [(S, seqObj "list" #[.int M tM, .int (f (M)) tb] c), (I, lIt R (0 + (j + 1)))]) := fun p hp => by
      rcases List.mem_append.mp hp with hp | hp
      · exact kmk_news N hk' hnI p hp
      · rcases List.mem_cons.mp hp with rfl | hp
        · exact ⟨nS1, hSL, hS0⟩
        · rw [List.mem_singleton.mp hp]
          exact ⟨hst'.1, hIL, hI0⟩
    show wpAny _ A.in1 (tryCatch (holding [.int x tx] (call (.ref q) [.int x tx])) _ >>= _) _ _ _
    refine wpAny_bind (wpAny_tryCatch (wpAny_holding (wpAny_mono (turn x tx h' tk' _ F1 N1) (fun vk s'' he => ?_) fun _ _ hF => hF.elim)))
    obtain ⟨h2, tk2, t2, rfl, rfl, F2, N2⟩ := he
    have nS2 := (N2 (S, seqObj "list" #[.int M tM, .int (f (M)) tb] c) (List.mem_append_right _ (.head _))).1
    have nI2 := (N2 (I, lIt R (0 + (j + 1))) (List.mem_append_right _ (.tail _ (.head _)))).1
    have Nn : News g L h2 news := fun p hp => N2 p (List.mem_append_left _ hp)
    show wpAny _ A.in1 (tryCatch (holding [.int x tx, .int (f (x)) t2] (richCompare .Lt (.int (f (x)) t2) (.int (f (M)) tb) >>= _)) _ >>= _) _ _ _
    refine wpAny_bind (wpAny_tryCatch (wpAny_holding (wpAny_bind (show wpAny _ A.in1 (compareOp .Lt (.int (f (x)) t2) (.int (f (M)) tb)) _ _ _ from PyProof.Rows.lt_int ?_))))
    refine wpAny_bind (wpAny_holding (wpAny_truthy_bool ?_))
    refine wpAny_bind (wpAny_letGo (wpAny_pure ?_))
    by_cases hb' : f (x) < f (M)
    · have s1 := Heap.SameBut.update h2 S (Obj.mapSeq fun _ => #[.int x tx, .int (f (x)) t2])
      obtain ⟨c2, hc2⟩ : ∃ c2, (h2.update S (Obj.mapSeq fun _ => #[.int x tx, .int (f (x)) t2])).get? S = some (seqObj "list" #[.int x tx, .int (f (x)) t2] c2) := ⟨_, get?_update_seq nS2 fun _ => #[.int x tx, .int (f (x)) t2]⟩
      simp only [hb', decide_true, if_true]
      refine wpAny_bind ?_
      refine wpAny_updateSeq nS2 rfl (wpAny_bind (wpAny_letGo ?_))
      rw [hname]
      refine wpAny_pure ⟨plainId_quiet PySem.F.plain_min_loop _, ih (j + 1) _ _ x tx t2 c2 (by omega) (by omega) (ksk_fr F2 s1 hSL hS0) (ksk_news Nn s1 hnS) hc2 ((s1.2 I hSI.symm).trans nI2) (take_snoc_mem hx (.inr rfl)) fun a ha => ?_⟩
      rcases take_mem_snoc hx ha with ha | rfl
      · have := hb a ha; omega
      · exact Int.le_refl _
    · simp only [hb', decide_false, Bool.false_eq_true, if_false]
      refine wpAny_bind (wpAny_letGo ?_)
      rw [hname]
      refine wpAny_pure ⟨plainId_quiet PySem.F.plain_min_loop _, ih (j + 1) _ _ M tM tb c (by omega) (by omega) F2 Nn nS2 nI2 (take_snoc_mem hx (.inl hM)) fun a ha => ?_⟩
      rcases take_mem_snoc hx ha with ha | rfl
      · exact hb a ha
      · omega

theorem min_itK (f : Int → Int) (turn : KeyOk prog w A.in1 g L m q f news s) (hh : A.handled = none) (F : Fr g L s.heap m) (N : News g L s.heap ((I, lIt R 0) :: news)) (hI : IntsAre vs ns) (hne : 0 < ns.length) (hR : (R, listOf vs.toArray cR) ∈ news) (hnI : ∀ p ∈ news, p.1 ≠ I) {Q : Value → Shared → Prop}
    (hQ : ∀ M t h' tk', Fr g L h' m → News g L h' news → M ∈ ns → (∀ a ∈ ns, f (M) ≤ f (a)) → Q (.int M t) { s with heap := h', toks := tk' }) :
    wpAny (model prog w) A (call (.builtin "min") [.ref I] [(Str.ofString "default", d), (Str.ofString "key", .ref q)]) Q E s := by
  have hname : (toString "min" ++ toString ".loop" : String) = "min.loop" := by decide
  have nI := N _ (.head _)
  have Nn : News g L s.heap news := fun p hp => N p (.tail _ hp)
  have hL : L < s.heap.objs.size := F.ns.lt
  have hIs : I < s.heap.objs.size := Heap.lt_size nI.1
  have hlen := hI.length
  have hsz : vs.toArray.size - 0 = ns.length := by simp; omega
  refine kmk_tree PySem.F.kind_min PySem.F.plain_min PySem.F.entry_min (by unfold argsOk; kernel_rfl) ?_
  show wpAny _ A.in1 (Builtin.Builtins.bindParams "min" ["key", "default"] 0 ⟨[], [(Str.ofString "default", d), (Str.ofString "key", .ref q)]⟩ >>= _) _ _ s
  refine wpAny_bind (wpAny_of_eq (show Builtin.Builtins.bindParams "min" ["key", "default"] 0 ⟨[], [(Str.ofString "default", d), (Str.ofString "key", .ref q)]⟩ = pure [some (.ref q), some d] from rfl) ?_)
  refine wpAny_bind (wpAny_pure ?_)
  refine wpAny_bind (wpAny_pyIter_listiter (lIt_is nI.1) ?_)
  refine wpAny_bind (wpAny_newList ?_ (Nat.zero_le _))
  rw [hname]
  refine wpAny_pure ⟨plainId_quiet PySem.F.plain_min_loop _, ?_⟩
  have hIL : I ≠ L := nI.2.1
  have hSI : s.heap.objs.size ≠ I := Nat.ne_of_gt hIs
  have hSL : s.heap.objs.size ≠ L := Nat.ne_of_gt hL
  have hS0 : g.get? s.heap.objs.size = none := Heap.get?_none_of_le (Nat.le_trans F.above (Nat.le_of_lt hL))
  have hnS : ∀ p ∈ news, p.1 ≠ s.heap.objs.size := fun p hp => Nat.ne_of_lt (Heap.lt_size (Nn p hp).1)
  have FH := F.push (seqObj "list" #[] 0)
  have NH : News g L (s.heap.push (seqObj "list" #[] 0)) news := Nn.grown fun b x e => Heap.get?_push_of_some _ e
  have gS : (s.heap.push (seqObj "list" #[] 0)).get? s.heap.objs.size = some (seqObj "list" #[] 0) := Heap.get?_push_size _ rfl
  have gI : (s.heap.push (seqObj "list" #[] 0)).get? I = some (lIt R 0) := Heap.get?_push_of_some _ nI.1
  show codeAny (model prog w) A (.builtin "min.loop" ⟨[.ref I, .ref q, .ref s.heap.objs.size], [(Str.ofString "default", d)]⟩) _ { s with heap := s.heap.push (seqObj "list" #[] 0) }
  generalize s.heap.objs.size = S at hSI hSL hS0 hnS gS
  generalize s.heap.push (seqObj "list" #[] 0) = H at FH NH gS gI
  have W := Walks.listFrom (prog := prog) (w := w) (A := A.in1) hh I R (hnI _ hR) vs.toArray 0 (Nat.zero_le _)
  refine codeAny_builtin PySem.F.entry_min_loop ?_
  rw [Around.under_plainId PySem.F.plain_min_loop _]
  show wpAny _ A.in1 (seqItems? (.ref S) >>= _) _ _ _
  refine wpAny_bind (wpAny_seqItems gS rfl ?_)
  show wpAny _ A.in1 (tryCatch (pyNext (.ref I)) _ >>= _) _ _ _
  refine wpAny_bind (wpAny_tryCatch (W.item 0 _ _ _ (by rw [hsz]; exact hne) ⟨gI, PySem.IsL.isList (n := cR) (NH _ hR).1⟩ fun v h' tk' hP hst' hk' => ?_))
  obtain ⟨x, tx, hx, rfl⟩ := ints_at hI hP
  have F1 := kmk_fr FH hk' hIL nI.2.2
  have N1 : News g L h' (news ++ [(S, seqObj "list" #[] 0), (I, lIt R (0 + (0 + 1)))]) := fun p hp => by
    rcases List.mem_append.mp hp with hp | hp
    · exact kmk_news NH hk' hnI p hp
    · rcases List.mem_cons.mp hp with rfl | hp
      · exact ⟨hk' S _ (by simpa using hSI) gS, hSL, hS0⟩
      · rw [List.mem_singleton.mp hp]
        exact ⟨hst'.1, hIL, nI.2.2⟩
  show wpAny _ A.in1 (tryCatch (holding [.int x tx] (call (.ref q) [.int x tx])) _ >>= _) _ _ _
  refine wpAny_bind (wpAny_tryCatch (wpAny_holding (wpAny_mono (turn x tx h' tk' _ F1 N1) (fun vk s'' he => ?_) fun _ _ hF => hF.elim)))
  obtain ⟨h2, tk2, t2, rfl, rfl, F2, N2⟩ := he
  have nS2 := (N2 (S, seqObj "list" #[] 0) (List.mem_append_right _ (.head _))).1
  have nI2 := (N2 (I, lIt R (0 + (0 + 1))) (List.mem_append_right _ (.tail _ (.head _)))).1
  have Nn2 : News g L h2 news := fun p hp => N2 p (List.mem_append_left _ hp)
  have s1 := Heap.SameBut.update h2 S (Obj.mapSeq fun _ => #[.int x tx, .int (f (x)) t2])
  obtain ⟨c2, hc2⟩ : ∃ c2, (h2.update S (Obj.mapSeq fun _ => #[.int x tx, .int (f (x)) t2])).get? S = some (seqObj "list" #[.int x tx, .int (f (x)) t2] c2) := ⟨_, get?_update_seq nS2 fun _ => #[.int x tx, .int (f (x)) t2]⟩
  refine wpAny_bind ?_
  refine wpAny_updateSeq nS2 rfl ?_
  rw [hname]
  refine wpAny_pure ⟨plainId_quiet PySem.F.plain_min_loop _, ?_⟩
  have h1 : ns.take 1 = [x] := by
    rw [show (1 : Nat) = 0 + 1 from rfl, List.take_add_one, hx]; rfl
  refine min_loopK (S := S) f turn hh hI hR hnI hnS hSI hIL nI.2.2 hSL hS0 (fun M t h9 tk9 F9 N9 hm hb => hQ M t h9 tk9 F9 N9 hm hb) _ 1 _ _ x tx t2 c2 rfl (by omega) (ksk_fr F2 s1 hSL hS0) (ksk_news Nn2 s1 hnS) hc2 ((s1.2 I hSI.symm).trans nI2) (by rw [h1]; simp) fun a ha => ?_
  rw [h1] at ha
  rw [List.mem_singleton.mp ha]
  exact Int.le_refl _

theorem max_loop (hh : A.handled = none) (hI : IntsAre vs ns) (hR : (R, listOf vs.toArray cR) ∈ news) (hnI : ∀ p ∈ news, p.1 ≠ I) (hnS : ∀ p ∈ news, p.1 ≠ S) (hSI : S ≠ I) (hIL : I ≠ L) (hI0 : g.get? I = none) (hSL : S ≠ L) (hS0 : g.get? S = none)
    {Rr : Result → Shared → Prop} (hR' : ∀ M t h' tk', Fr g L h' m → News g L h' news → M ∈ ns → (∀ a ∈ ns, (M) ≥ (a)) → Rr (.ok (.ret (.int M t))) { s with heap := h', toks := tk' }) :
    ∀ (r j : Nat) (h : Heap) (tk : Nat) (M : Int) (tM tb : Tok) (c : Nat), ns.length - j = r → j ≤ ns.length → Fr g L h m → News g L h news → h.get? S = some (seqObj "list" #[.int M tM, .int ((M)) tb] c) → h.get? I = some (lIt R (0 + j)) → M ∈ ns.take j → (∀ a ∈ ns.take j, (M) ≥ (a)) →
      codeAny (model prog w) A (.builtin "max.loop" ⟨[.ref I, .none, .ref S], [(Str.ofString "default", d)]⟩) Rr { s with heap := h, toks := tk } := by
  have hname : (toString "max" ++ toString ".loop" : String) = "max.loop" := by decide
  have W := Walks.listFrom (prog := prog) (w := w) (A := A.in1) hh I R (hnI _ hR) vs.toArray 0 (Nat.zero_le _)
  have hlen := hI.length
  have hsz : vs.toArray.size - 0 = ns.length := by simp; omega
  intro r
  induction r with
  | zero =>
    intro j h tk M tM tb c hr hj F N nS hit hM hb
    have hj' : j = ns.length := by omega
    subst hj'
    rw [List.take_length] at hM hb
    refine codeAny_builtin PySem.F.entry_max_loop ?_
    rw [Around.under_plainId PySem.F.plain_max_loop _]
    show wpAny _ A.in1 (seqItems? (.ref S) >>= _) _ _ _
    refine wpAny_bind (wpAny_seqItems nS rfl ?_)
    show wpAny _ A.in1 (tryCatch (pyNext (.ref I)) _ >>= _) _ _ _
    refine wpAny_bind (wpAny_tryCatch (W.done _ _ _ ⟨by rw [hsz]; exact hit, PySem.IsL.isList (n := cR) (N _ hR).1⟩ fun h' tk' hk' => ?_))
    have F1 := kmk_fr F hk' hIL hI0
    have N1 := kmk_news N hk' hnI
    have hS' := hk' S _ (by simpa using hSI) nS
    have s1 := Heap.SameBut.update h' S (Obj.mapSeq fun _ => (#[] : Array Value))
    show wpAny _ A.in1 (updateSeq S (fun _ => #[]) >>= _) _ _ _
    refine wpAny_bind ?_
    refine wpAny_updateSeq hS' rfl (wpAny_bind (wpAny_letGo (wpAny_pure ?_)))
    exact hR' M tM _ _ (ksk_fr F1 s1 hSL hS0) (ksk_news N1 s1 hnS) hM hb
  | succ r ih =>
    intro j h tk M tM tb c hr hj F N nS hit hM hb
    have hlt : j < ns.length := by omega
    refine codeAny_builtin PySem.F.entry_max_loop ?_
    rw [Around.under_plainId PySem.F.plain_max_loop _]
    show wpAny _ A.in1 (seqItems? (.ref S) >>= _) _ _ _
    refine wpAny_bind (wpAny_seqItems nS rfl ?_)
    show wpAny _ A.in1 (tryCatch (pyNext (.ref I)) _ >>= _) _ _ _
    refine wpAny_bind (wpAny_tryCatch (W.item j _ _ _ (by rw [hsz]; exact hlt) ⟨hit, PySem.IsL.isList (n := cR) (N _ hR).1⟩ fun v h' tk' hP hst' hk' => ?_))
    rw [Nat.zero_add] at hP
    obtain ⟨x, tx, hx, rfl⟩ := ints_at hI hP
    have F1 := kmk_fr F hk' hIL hI0
    have nS1 := hk' S _ (by simpa using hSI) nS
    have N1 : News g L h' (news ++ [(S, seqObj "list" #[.int M tM, .int ((M)) tb] c), (I, lIt R (0 + (j + 1)))]) := fun p hp => by
      rcases List.mem_append.mp hp with hp | hp
      · exact kmk_news N hk' hnI p hp
      · rcases List.mem_cons.mp hp with rfl | hp
        · exact ⟨nS1, hSL, hS0⟩
        · rw [List.mem_singleton.mp hp]
          exact ⟨hst'.1, hIL, hI0⟩
    refine wpAny_bind (m := pure (Value.int x tx)) (wpAny_pure ?_)
    have F2 := F1
    have N2 := N1
    generalize h' = h2 at F2 N2
    generalize tk' = tk2
    let t2 := tx
    have nS2 := (N2 (S, seqObj "list" #[.int M tM, .int ((M)) tb] c) (List.mem_append_right _ (.head _))).1
    have nI2 := (N2 (I, lIt R (0 + (j + 1))) (List.mem_append_right _ (.tail _ (.head _)))).1
    have Nn : News g L h2 news := fun p hp => N2 p (List.mem_append_left _ hp)
    show wpAny _ A.in1 (tryCatch (holding [.int x tx, .int ((x)) tx] (richCompare .Gt (.int ((x)) tx) (.int ((M)) tb) >>= _)) _ >>= _) _ _ _
    refine wpAny_bind (wpAny_tryCatch (wpAny_holding (wpAny_bind (show wpAny _ A.in1 (compareOp .Gt (.int ((x)) tx) (.int ((M)) tb)) _ _ _ from PyProof.Rows.gt_int ?_))))
    refine wpAny_bind (wpAny_holding (wpAny_truthy_bool ?_))
    refine wpAny_bind (wpAny_letGo (wpAny_pure ?_))
    by_cases hb' : (x) > (M)
    · have s1 := Heap.SameBut.update h2 S (Obj.mapSeq fun _ => #[.int x tx, .int ((x)) tx])
      obtain ⟨c2, hc2⟩ : ∃ c2, (h2.update S (Obj.mapSeq fun _ => #[.int x tx, .int ((x)) tx])).get? S = some (seqObj "list" #[.int x tx, .int ((x)) tx] c2) := ⟨_, get?_update_seq nS2 fun _ => #[.int x tx, .int ((x)) tx]⟩
      simp only [hb', decide_true, if_true]
      refine wpAny_bind ?_
      refine wpAny_updateSeq nS2 rfl (wpAny_bind (wpAny_letGo ?_))
      rw [hname]
      refine wpAny_pure ⟨plainId_quiet PySem.F.plain_max_loop _, ih (j + 1) _ _ x tx tx c2 (by omega) (by omega) (ksk_fr F2 s1 hSL hS0) (ksk_news Nn s1 hnS) hc2 ((s1.2 I hSI.symm).trans nI2) (take_snoc_mem hx (.inr rfl)) fun a ha => ?_⟩
      rcases take_mem_snoc hx ha with ha | rfl
      · have := hb a ha; omega
      · exact Int.le_refl _
    · simp only [hb', decide_false, Bool.false_eq_true, if_false]
      refine wpAny_bind (wpAny_letGo ?_)
      rw [hname]
      refine wpAny_pure ⟨plainId_quiet PySem.F.plain_max_loop _, ih (j + 1) _ _ M tM tb c (by omega) (by omega) F2 Nn nS2 nI2 (take_snoc_mem hx (.inl hM)) fun a ha => ?_⟩
      rcases take_mem_snoc hx ha with ha | rfl
      · exact hb a ha
      · omega

theorem max_it (hh : A.handled = none) (F : Fr g L s.heap m) (N : News g L s.heap ((I, lIt R 0) :: news)) (hI : IntsAre vs ns) (hne : 0 < ns.length) (hR : (R, listOf vs.toArray cR) ∈ news) (hnI : ∀ p ∈ news, p.1 ≠ I) {Q : Value → Shared → Prop}
    (hQ : ∀ M t h' tk', Fr g L h' m → News g L h' news → M ∈ ns → (∀ a ∈ ns, (M) ≥ (a)) → Q (.int M t) { s with heap := h', toks := tk' }) :
    wpAny (model prog w) A (call (.builtin "max") [.ref I] [(Str.ofString "default", d), (Str.ofString "key", .none)]) Q E s := by
  have hname : (toString "max" ++ toString ".loop" : String) = "max.loop" := by decide
  have nI := N _ (.head _)
  have Nn : News g L s.heap news := fun p hp => N p (.tail _ hp)
  have hL : L < s.heap.objs.size := F.ns.lt
  have hIs : I < s.heap.objs.size := Heap.lt_size nI.1
  have hlen := hI.length
  have hsz : vs.toArray.size - 0 = ns.length := by simp; omega
  refine kmk_tree PySem.F.kind_max PySem.F.plain_max PySem.F.entry_max (by unfold argsOk; kernel_rfl) ?_
  show wpAny _ A.in1 (Builtin.Builtins.bindParams "max" ["key", "default"] 0 ⟨[], [(Str.ofString "default", d), (Str.ofString "key", .none)]⟩ >>= _) _ _ s
  refine wpAny_bind (wpAny_of_eq (show Builtin.Builtins.bindParams "max" ["key", "default"] 0 ⟨[], [(Str.ofString "default", d), (Str.ofString "key", .none)]⟩ = pure [some (.none), some d] from rfl) ?_)
  refine wpAny_bind (wpAny_pure ?_)
  refine wpAny_bind (wpAny_pyIter_listiter (lIt_is nI.1) ?_)
  refine wpAny_bind (wpAny_newList ?_ (Nat.zero_le _))
  rw [hname]
  refine wpAny_pure ⟨plainId_quiet PySem.F.plain_max_loop _, ?_⟩
  have hIL : I ≠ L := nI.2.1
  have hSI : s.heap.objs.size ≠ I := Nat.ne_of_gt hIs
  have hSL : s.heap.objs.size ≠ L := Nat.ne_of_gt hL
  have hS0 : g.get? s.heap.objs.size = none := Heap.get?_none_of_le (Nat.le_trans F.above (Nat.le_of_lt hL))
  have hnS : ∀ p ∈ news, p.1 ≠ s.heap.objs.size := fun p hp => Nat.ne_of_lt (Heap.lt_size (Nn p hp).1)
  have FH := F.push (seqObj "list" #[] 0)
  have NH : News g L (s.heap.push (seqObj "list" #[] 0)) news := Nn.grown fun b x e => Heap.get?_push_of_some _ e
  have gS : (s.heap.push (seqObj "list" #[] 0)).get? s.heap.objs.size = some (seqObj "list" #[] 0) := Heap.get?_push_size _ rfl
  have gI : (s.heap.push (seqObj "list" #[] 0)).get? I = some (lIt R 0) := Heap.get?_push_of_some _ nI.1
  show codeAny (model prog w) A (.builtin "max.loop" ⟨[.ref I, .none, .ref s.heap.objs.size], [(Str.ofString "default", d)]⟩) _ { s with heap := s.heap.push (seqObj "list" #[] 0) }
  generalize s.heap.objs.size = S at hSI hSL hS0 hnS gS
  generalize s.heap.push (seqObj "list" #[] 0) = H at FH NH gS gI
  have W := Walks.listFrom (prog := prog) (w := w) (A := A.in1) hh I R (hnI _ hR) vs.toArray 0 (Nat.zero_le _)
  refine codeAny_builtin PySem.F.entry_max_loop ?_
  rw [Around.under_plainId PySem.F.plain_max_loop _]
  show wpAny _ A.in1 (seqItems? (.ref S) >>= _) _ _ _
  refine wpAny_bind (wpAny_seqItems gS rfl ?_)
  show wpAny _ A.in1 (tryCatch (pyNext (.ref I)) _ >>= _) _ _ _
  refine wpAny_bind (wpAny_tryCatch (W.item 0 _ _ _ (by rw [hsz]; exact hne) ⟨gI, PySem.IsL.isList (n := cR) (NH _ hR).1⟩ fun v h' tk' hP hst' hk' => ?_))
  obtain ⟨x, tx, hx, rfl⟩ := ints_at hI hP
  have F1 := kmk_fr FH hk' hIL nI.2.2
  have N1 : News g L h' (news ++ [(S, seqObj "list" #[] 0), (I, lIt R (0 + (0 + 1)))]) := fun p hp => by
    rcases List.mem_append.mp hp with hp | hp
    · exact kmk_news NH hk' hnI p hp
    · rcases List.mem_cons.mp hp with rfl | hp
      · exact ⟨hk' S _ (by simpa using hSI) gS, hSL, hS0⟩
      · rw [List.mem_singleton.mp hp]
        exact ⟨hst'.1, hIL, nI.2.2⟩
  refine wpAny_bind (m := pure (Value.int x tx)) (wpAny_pure ?_)
  have F2 := F1
  have N2 := N1
  generalize h' = h2 at F2 N2
  generalize tk' = tk2
  let t2 := tx
  have nS2 := (N2 (S, seqObj "list" #[] 0) (List.mem_append_right _ (.head _))).1
  have nI2 := (N2 (I, lIt R (0 + (0 + 1))) (List.mem_append_right _ (.tail _ (.head _)))).1
  have Nn2 : News g L h2 news := fun p hp => N2 p (List.mem_append_left _ hp)
  have s1 := Heap.SameBut.update h2 S (Obj.mapSeq fun _ => #[.int x tx, .int ((x)) tx])
  obtain ⟨c2, hc2⟩ : ∃ c2, (h2.update S (Obj.mapSeq fun _ => #[.int x tx, .int ((x)) tx])).get? S = some (seqObj "list" #[.int x tx, .int ((x)) tx] c2) := ⟨_, get?_update_seq nS2 fun _ => #[.int x tx, .int ((x)) tx]⟩
  refine wpAny_bind ?_
  refine wpAny_updateSeq nS2 rfl ?_
  rw [hname]
  refine wpAny_pure ⟨plainId_quiet PySem.F.plain_max_loop _, ?_⟩
  have h1 : ns.take 1 = [x] := by
    rw [show (1 : Nat) = 0 + 1 from rfl, List.take_add_one, hx]; rfl
  refine max_loop (S := S) hh hI hR hnI hnS hSI hIL nI.2.2 hSL hS0 (fun M t h9 tk9 F9 N9 hm hb => hQ M t h9 tk9 F9 N9 hm hb) _ 1 _ _ x tx tx c2 rfl (by omega) (ksk_fr F2 s1 hSL hS0) (ksk_news Nn2 s1 hnS) hc2 ((s1.2 I hSI.symm).trans nI2) (by rw [h1]; simp) fun a ha => ?_
  rw [h1] at ha
  rw [List.mem_singleton.mp ha]
  exact Int.le_refl _

theorem max_loopK (f : Int → Int) (turn : KeyOk prog w A.in1 g L m q f news s) (hh : A.handled = none) (hI : IntsAre vs ns) (hR : (R, listOf vs.toArray cR) ∈ news) (hnI : ∀ p ∈ news, p.1 ≠ I) (hnS : ∀ p ∈ news, p.1 ≠ S) (hSI : S ≠ I) (hIL : I ≠ L) (hI0 : g.get? I = none) (hSL : S ≠ L) (hS0 : g.get? S = none)
    {Rr : Result → Shared → Prop} (hR' : ∀ M t h' tk', Fr g L h' m → News g L h' news → M ∈ ns → (∀ a ∈ ns, f (M) ≥ f (a)) → Rr (.ok (.ret (.int M t))) { s with heap := h', toks := tk' }) :
    ∀ (r j : Nat) (h : Heap) (tk : Nat) (M : Int) (tM tb : Tok) (c : Nat), ns.length - j = r → j ≤ ns.length → Fr g L h m → News g L h news → h.get? S = some (seqObj "list" #[.int M tM, .int (f (M)) tb] c) → h.get? I = some (lIt R (0 + j)) → M ∈ ns.take j → (∀ a ∈ ns.take j, f (M) ≥ f (a)) →
      codeAny (model prog w) A (.builtin "max.loop" ⟨[.ref I, .ref q, .ref S], [(Str.ofString "default", d)]⟩) Rr { s with heap := h, toks := tk } := by
  have hname : (toString "max" ++ toString ".loop" : String) = "max.loop" := by decide
  have W := Walks.listFrom (prog := prog) (w := w) (A := A.in1) hh I R (hnI _ hR) vs.toArray 0 (Nat.zero_le _)
  have hlen := hI.length
  have hsz : vs.toArray.size - 0 = ns.length := by simp; omega
  intro r
  induction r with
  | zero =>
    intro j h tk M tM tb c hr hj F N nS hit hM hb
    have hj' : j = ns.length := by omega
    subst hj'
    rw [List.take_length] at hM hb
    refine codeAny_builtin PySem.F.entry_max_loop ?_
    rw [Around.under_plainId PySem.F.plain_max_loop _]
    show wpAny _ A.in1 (seqItems? (.ref S) >>= _) _ _ _
    refine wpAny_bind (wpAny_seqItems nS rfl ?_)
    show wpAny _ A.in1 (tryCatch (pyNext (.ref I)) _ >>= _) _ _ _
    refine wpAny_bind (wpAny_tryCatch (W.done _ _ _ ⟨by rw [hsz]; exact hit, PySem.IsL.isList (n := cR) (N _ hR).1⟩ fun h' tk' hk' => ?_))
    have F1 := kmk_fr F hk' hIL hI0
    have N1 := kmk_news N hk' hnI
    have hS' := hk' S _ (by simpa using hSI) nS
    have s1 := Heap.SameBut.update h' S (Obj.mapSeq fun _ => (#[] : Array Value))
    show wpAny _ A.in1 (updateSeq S (fun _ => #[]) >>= _) _ _ _
    refine wpAny_bind ?_
    refine wpAny_updateSeq hS' rfl (wpAny_bind (wpAny_letGo (wpAny_pure ?_)))
    exact hR' M tM _ _ (ksk_fr F1 s1 hSL hS0) (ksk_news N1 s1 hnS) hM hb
  | succ r ih =>
    intro j h tk M tM tb c hr hj F N nS hit hM hb
    have hlt : j < ns.length := by omega
    refine codeAny_builtin PySem.F.entry_max_loop ?_
    rw [Around.under_plainId PySem.F.plain_max_loop _]
    show wpAny _ A.in1 (seqItems? (.ref S) >>= _) _ _ _
    refine wpAny_bind (wpAny_seqItems nS rfl ?_)
    show wpAny _ A.in1 (tryCatch (pyNext (.ref I)) _ >>= _) _ _ _
    refine wpAny_bind (wpAny_tryCatch (W.item j _ _ _ (by rw [hsz]; exact hlt) ⟨hit, PySem.IsL.isList (n := cR) (N _ hR).1⟩ fun v h' tk' hP hst' hk' => ?_))
    rw [Nat.zero_add] at hP
    obtain ⟨x, tx, hx, rfl⟩ := ints_at hI hP
    have F1 := kmk_fr F hk' hIL hI0
    have nS1 := hk' S _ (by simpa using hSI) nS
    have N1 : News g L h' (news ++ [(S, seqObj "list" #[.int M tM, .int (f (M)) tb] c), (I, lIt R (0 + (j + 1)))]) := fun p hp => by
      rcases List.mem_append.mp hp with hp | hp
      · exact kmk_news N hk' hnI p hp
      · rcases List.mem_cons.mp hp with rfl | hp
        · exact ⟨nS1, hSL, hS0⟩
        · rw [List.mem_singleton.mp hp]
          exact ⟨hst'.1, hIL, hI0⟩
    show wpAny _ A.in1 (tryCatch (holding [.int x tx] (call (.ref q) [.int x tx])) _ >>= _) _ _ _
    refine wpAny_bind (wpAny_tryCatch (wpAny_holding (wpAny_mono (turn x tx h' tk' _ F1 N1) (fun vk s'' he => ?_) fun _ _ hF => hF.elim)))
    obtain ⟨h2, tk2, t2, rfl, rfl, F2, N2⟩ := he
    have nS2 := (N2 (S, seqObj "list" #[.int M tM, .int (f (M)) tb] c) (List.mem_append_right _ (.head _))).1
    have nI2 := (N2 (I, lIt R (0 + (j + 1))) (List.mem_append_right _ (.tail _ (.head _)))).1
    have Nn : News g L h2 news := fun p hp => N2 p (List.mem_append_left _ hp)
    show wpAny _ A.in1 (tryCatch (holding [.int x tx, .int (f (x)) t2] (richCompare .Gt (.int (f (x)) t2) (.int (f (M)) tb) >>= _)) _ >>= _) _ _ _
    refine wpAny_bind (wpAny_tryCatch (wpAny_holding (wpAny_bind (show wpAny _ A.in1 (compareOp .Gt (.int (f (x)) t2) (.int (f (M)) tb)) _ _ _ from PyProof.Rows.gt_int ?_))))
    refine wpAny_bind (wpAny_holding (wpAny_truthy_bool ?_))
    refine wpAny_bind (wpAny_letGo (wpAny_pure ?_))
    by_cases hb' : f (x) > f (M)
    · have s1 := Heap.SameBut.update h2 S (Obj.mapSeq fun _ => #[.int x tx, .int (f (x)) t2])
      obtain ⟨c2, hc2⟩ : ∃ c2, (h2.update S (Obj.mapSeq fun _ => #[.int x tx, .int (f (x)) t2])).get? S = some (seqObj "list" #[.int x tx, .int (f (x)) t2] c2) := ⟨_, get?_update_seq nS2 fun _ => #[.int x tx, .int (f (x)) t2]⟩
      simp only [hb', decide_true, if_true]
      refine wpAny_bind ?_
      refine wpAny_updateSeq nS2 rfl (wpAny_bind (wpAny_letGo ?_))
      rw [hname]
      refine wpAny_pure ⟨plainId_quiet PySem.F.plain_max_loop _, ih (j + 1) _ _ x tx t2 c2 (by omega) (by omega) (ksk_fr F2 s1 hSL hS0) (ksk_news Nn s1 hnS) hc2 ((s1.2 I hSI.symm).trans nI2) (take_snoc_mem hx (.inr rfl)) fun a ha => ?_⟩
      rcases take_mem_snoc hx ha with ha | rfl
      · have := hb a ha; omega
      · exact Int.le_refl _
    · simp only [hb', decide_false, Bool.false_eq_true, if_false]
      refine wpAny_bind (wpAny_letGo ?_)
      rw [hname]
      refine wpAny_pure ⟨plainId_quiet PySem.F.plain_max_loop _, ih (j + 1) _ _ M tM tb c (by omega) (by omega) F2 Nn nS2 nI2 (take_snoc_mem hx (.inl hM)) fun a ha => ?_⟩
      rcases take_mem_snoc hx ha with ha | rfl
      · exact hb a ha
      · omega

theorem max_itK (f : Int → Int) (turn : KeyOk prog w A.in1 g L m q f news s) (hh : A.handled = none) (F : Fr g L s.heap m) (N : News g L s.heap ((I, lIt R 0) :: news)) (hI : IntsAre vs ns) (hne : 0 < ns.length) (hR : (R, listOf vs.toArray cR) ∈ news) (hnI : ∀ p ∈ news, p.1 ≠ I) {Q : Value → Shared → Prop}
    (hQ : ∀ M t h' tk', Fr g L h' m → News g L h' news → M ∈ ns → (∀ a ∈ ns, f (M) ≥ f (a)) → Q (.int M t) { s with heap := h', toks := tk' }) :
    wpAny (model prog w) A (call (.builtin "max") [.ref I] [(Str.ofString "default", d), (Str.ofString "key", .ref q)]) Q E s := by
  have hname : (toString "max" ++ toString ".loop" : String) = "max.loop" := by decide
  have nI := N _ (.head _)
  have Nn : News g L s.heap news := fun p hp => N p (.tail _ hp)
  have hL : L < s.heap.objs.size := F.ns.lt
  have hIs : I < s.heap.objs.size := Heap.lt_size nI.1
  have hlen := hI.length
  have hsz : vs.toArray.size - 0 = ns.length := by simp; omega
  refine kmk_tree PySem.F.kind_max PySem.F.plain_max PySem.F.entry_max (by unfold argsOk; kernel_rfl) ?_
  show wpAny _ A.in1 (Builtin.Builtins.bindParams "max" ["key", "default"] 0 ⟨[], [(Str.ofString "default", d), (Str.ofString "key", .ref q)]⟩ >>= _) _ _ s
  refine wpAny_bind (wpAny_of_eq (show Builtin.Builtins.bindParams "max" ["key", "default"] 0 ⟨[], [(Str.ofString "default", d), (Str.ofString "key", .ref q)]⟩ = pure [some (.ref q), some d] from rfl) ?_)
  refine wpAny_bind (wpAny_pure ?_)
  refine wpAny_bind (wpAny_pyIter_listiter (lIt_is nI.1) ?_)
  refine wpAny_bind (wpAny_newList ?_ (Nat.zero_le _))
  rw [hname]
  refine wpAny_pure ⟨plainId_quiet PySem.F.plain_max_loop _, ?_⟩
  have hIL : I ≠ L := nI.2.1
  have hSI : s.heap.objs.size ≠ I := Nat.ne_of_gt hIs
  have hSL : s.heap.objs.size ≠ L := Nat.ne_of_gt hL
  have hS0 : g.get? s.heap.objs.size = none := Heap.get?_none_of_le (Nat.le_trans F.above (Nat.le_of_lt hL))
  have hnS : ∀ p ∈ news, p.1 ≠ s.heap.objs.size := fun p hp => Nat.ne_of_lt (Heap.lt_size (Nn p hp).1)
  have FH := F.push (seqObj "list" #[] 0)
  have NH : News g L (s.heap.push (seqObj "list" #[] 0)) news := Nn.grown fun b x e => Heap.get?_push_of_some _ e
  have gS : (s.heap.push (seqObj "list" #[] 0)).get? s.heap.objs.size = some (seqObj "list" #[] 0) := Heap.get?_push_size _ rfl
  have gI : (s.heap.push (seqObj "list" #[] 0)).get? I = some (lIt R 0) := Heap.get?_push_of_some _ nI.1
  show codeAny (model prog w) A (.builtin "max.loop" ⟨[.ref I, .ref q, .ref s.heap.objs.size], [(Str.ofString "default", d)]⟩) _ { s with heap := s.heap.push (seqObj "list" #[] 0) }
  generalize s.heap.objs.size = S at hSI hSL hS0 hnS gS
  generalize s.heap.push (seqObj "list" #[] 0) = H at FH NH gS gI
  have W := Walks.listFrom (prog := prog) (w := w) (A := A.in1) hh I R (hnI _ hR) vs.toArray 0 (Nat.zero_le _)
  refine codeAny_builtin PySem.F.entry_max_loop ?_
  rw [Around.under_plainId PySem.F.plain_max_loop _]
  show wpAny _ A.in1 (seqItems? (.ref S) >>= _) _ _ _
  refine wpAny_bind (wpAny_seqItems gS rfl ?_)
  show wpAny _ A.in1 (tryCatch (pyNext (.ref I)) _ >>= _) _ _ _
  refine wpAny_bind (wpAny_tryCatch (W.item 0 _ _ _ (by rw [hsz]; exact hne) ⟨gI, PySem.IsL.isList (n := cR) (NH _ hR).1⟩ fun v h' tk' hP hst' hk' => ?_))
  obtain ⟨x, tx, hx, rfl⟩ := ints_at hI hP
  have F1 := kmk_fr FH hk' hIL nI.2.2
  have N1 : News g L h' (news ++ [(S, seqObj "list" #[] 0), (I, lIt R (0 + (0 + 1)))]) := fun p hp => by
    rcases List.mem_append.mp hp with hp | hp
    · exact kmk_news NH hk' hnI p hp
    · rcases List.mem_cons.mp hp with rfl | hp
      · exact ⟨hk' S _ (by simpa using hSI) gS, hSL, hS0⟩
      · rw [List.mem_singleton.mp hp]
        exact ⟨hst'.1, hIL, nI.2.2⟩
  show wpAny _ A.in1 (tryCatch (holding [.int x tx] (call (.ref q) [.int x tx])) _ >>= _) _ _ _
  refine wpAny_bind (wpAny_tryCatch (wpAny_holding (wpAny_mono (turn x tx h' tk' _ F1 N1) (fun vk s'' he => ?_) fun _ _ hF => hF.elim)))
  obtain ⟨h2, tk2, t2, rfl, rfl, F2, N2⟩ := he
  have nS2 := (N2 (S, seqObj "list" #[] 0) (List.mem_append_right _ (.head _))).1
  have nI2 := (N2 (I, lIt R (0 + (0 + 1))) (List.mem_append_right _ (.tail _ (.head _)))).1
  have Nn2 : News g L h2 news := fun p hp => N2 p (List.mem_append_left _ hp)
  have s1 := Heap.SameBut.update h2 S (Obj.mapSeq fun _ => #[.int x tx, .int (f (x)) t2])
  obtain ⟨c2, hc2⟩ : ∃ c2, (h2.update S (Obj.mapSeq fun _ => #[.int x tx, .int (f (x)) t2])).get? S = some (seqObj "list" #[.int x tx, .int (f (x)) t2] c2) := ⟨_, get?_update_seq nS2 fun _ => #[.int x tx, .int (f (x)) t2]⟩
  refine wpAny_bind ?_
  refine wpAny_updateSeq nS2 rfl ?_
  rw [hname]
  refine wpAny_pure ⟨plainId_quiet PySem.F.plain_max_loop _, ?_⟩
  have h1 : ns.take 1 = [x] := by
    rw [show (1 : Nat) = 0 + 1 from rfl, List.take_add_one, hx]; rfl
  refine max_loopK (S := S) f turn hh hI hR hnI hnS hSI hIL nI.2.2 hSL hS0 (fun M t h9 tk9 F9 N9 hm hb => hQ M t h9 tk9 F9 N9 hm hb) _ 1 _ _ x tx t2 c2 rfl (by omega) (ksk_fr F2 s1 hSL hS0) (ksk_news Nn2 s1 hnS) hc2 ((s1.2 I hSI.symm).trans nI2) (by rw [h1]; simp) fun a ha => ?_
  rw [h1] at ha
  rw [List.mem_singleton.mp ha]
  exact Int.le_refl _

end
end Mine
end

section
open PySem PySem.Spec PySem.Calls PySem.W PyProof.Rows PyProof.Rows.LCg
set_option Elab.async false
set_option maxHeartbeats 4000000
set_option maxRecDepth 100000
namespace Mine
section
variable {prog : Program} {w : World} {A : Around} {E : Value → Shared → Prop} {s : Shared} {g : Heap} {L l : Addr} {m : Str → Option Value} {news : List (Addr × Obj)} {vs : List Value} {ns : List Int} {b : Bool} {Q : Value → Shared → Prop}
theorem sorted_kwN {kw : List (Str × Value)} (ha1 : argsOk "sorted" ⟨[.ref l], kw⟩) (ha2 : ∀ x, argsOk "list.sort" ⟨[.ref x], kw⟩) (ht : ∀ x, Builtin.«list.sort» ⟨[.ref x], kw⟩ = Builtin.«list.sort» ⟨[.ref x], [(Str.ofString "reverse", .bool b)]⟩)
    (F : Fr g L s.heap m) (N : News g L s.heap news) (hl : s.heap.IsList l vs.toArray) (hI : IntsAre vs ns) (h64 : vs.length < 64)
    (h : ∀ D (h' : Heap) (vs' : List Value) (ns' : List Int) (e : Nat), Fr g L h' m → News g L h' ((D, listOf vs'.toArray e) :: news) → (∀ q ∈ news, q.1 < D) → IntsAre vs' ns' → ns'.Perm ns → Ordered b ns' → Q (.ref D) { s with heap := h' }) :
    wpAny (model prog w) A (call (.builtin "sorted") [.ref l] kw) Q E s := by
  refine call_function_entry_kw kind_sorted plain_sorted entry_sorted ha1 ?_
  unfold Builtin.«sorted»
  refine wpAny_bind (m := checkCount "sorted" 1 1 _) (wpAny_pure ?_)
  refine wpAny_bind (collect_list hl ?_ (by rw [sizeLine_eq]; omega))
  refine wpAny_bind (wpAny_newList ?_ (by rw [sizeLine_eq]; omega))
  have hsz : ((s.heap.push (seqObj "list" #[] 0)).update s.heap.objs.size (Obj.mapSeq (· ++ vs.toArray))).objs.size = s.heap.objs.size + 1 := by
    rw [Heap.size_update, size_push']
  have hoL : (((s.heap.push (seqObj "list" #[] 0)).update s.heap.objs.size (Obj.mapSeq (· ++ vs.toArray))).push (seqObj "list" vs.toArray 0)).get? (s.heap.objs.size + 1) = some (seqObj "list" vs.toArray 0) := by
    rw [← hsz]; exact Heap.get?_push_size _ rfl
  show wpAny _ _ _ _ _ { s with heap := ((s.heap.push (seqObj "list" #[] 0)).update s.heap.objs.size (Obj.mapSeq (· ++ vs.toArray))).push (seqObj "list" vs.toArray 0) }
  rw [hsz]
  refine wpAny_bind (wpAny_holding (wpAny_call_entry_kw slot_list_sort ⟨_, hoL, rfl⟩ entry_list_sort ?body (ha2 _)))
  case body =>
    rw [ht]
    refine list_sort_tree_rev hoL hI h64 fun out ns' a1 a2 a3 => ⟨_, rfl, ?_⟩
    obtain ⟨e, he⟩ := sortedAll_at s.heap vs out
    refine wpAny_pure ⟨_, rfl, ?_⟩
    exact h _ _ out.toList ns' e (F.kept fun _ _ => sortedAll_old) (N.kept_cons F (fun _ _ => sortedAll_old) (Nat.le_succ _) (by rw [Array.toArray_toList]; exact he)) (fun q hq => Nat.lt_succ_of_lt (Heap.lt_size (N q hq).1)) a1 a2 a3
end
end Mine
end

section
open PySem PySem.Spec PySem.Calls PySem.W PyProof.Rows PyProof.Rows.LCg
set_option Elab.async false
set_option maxHeartbeats 4000000
set_option maxRecDepth 100000
namespace Mine
theorem mro_object' : mroOf (.type "object") = pure [.type "object"] := by rw [mroOf_type]; kernel_rfl
theorem lookup_object_new' : typeLookup (.type "object") "__new__" = pure (some (.builtin "object.__new__")) := by rw [typeLookup_type, builtinLookup_eq_fast]; kernel_rfl
theorem called_object : TypeCalled "object" "object.__new__" "object.__init__" :=
  ⟨by decide +kernel, by decide +kernel, ⟨_, _, mro_object'⟩, madeBy_type mro_object' lookup_object_new' (by decide +kernel), by decide +kernel, by rw [isSubtype_type]; kernel_rfl, F.slot_object_init⟩
theorem meets_object_new : Meets (Builtin.«object.__new__» ⟨[.type "object"], []⟩) (fun _ R s => R (.ok (.ret (.ref s.heap.objs.size))) { s with heap := s.heap.push { cls := .type "object", data := .plain } }) :=
  .of_wp fun prog w A R s h => by
    obtain ⟨hp, g, d, tk, os⟩ := s
    unfold Builtin.«object.__new__»
    have hm : Bind.madeHere "object.__new__" (.type "object") = pure () := by
      unfold Bind.madeHere
      have e : Bind.staticBase (.type "object") = pure (.type "object") := by first | rfl | kernel_rfl
      rw [e]
      simp only [pure_bind, called_object.made]
      first | rfl | kernel_rfl | (simp; rfl)
    repeat (any_goals (first | assumption | refine wpAny_of_eq hm ?_ | wp_step))
    exact ⟨_, rfl, h⟩
theorem call_object {prog : Program} {w : World} {A : Around} {E : Value → Shared → Prop} {s : Shared} {g : Heap} {L : Addr} {m : Str → Option Value} {news : List (Addr × Obj)} {Q : Value → Shared → Prop} (F : Fr g L s.heap m) (N : News g L s.heap news)
    (h : ∀ D h', Fr g L h' m → News g L h' ((D, { cls := .type "object", data := .plain }) :: news) → (∀ p ∈ news, p.1 < D) → Q (.ref D) { s with heap := h' }) :
    wpAny (model prog w) A (call (.type "object") []) Q E s := by
  refine callType_meets (Q₁ := fun obj s₁ => s₁.TypeIs obj "object" ∧ Q obj s₁) called_object (by kernel_rfl) (by kernel_rfl) PySem.F.entry_object_new PySem.F.entry_object_init meets_object_new ?_ fun obj s₁ hq => ⟨hq.1, PySem.F.args_object_init_1 _, fun _ R s => R (.ok (.ret .none)) s, ?_, rfl, hq.2⟩
  · exact ⟨⟨_, Heap.get?_push_size _ rfl, rfl⟩, h _ _ (F.push _) (News.push F N _ rfl) fun p hp => Heap.lt_size (N p hp).1⟩
  · exact Meets.of_wp fun prog w A R s hs => wpAny_pure ⟨_, rfl, hs⟩
end Mine
end

section
open PySem PySem.W PyProof.Rows
namespace Mine
theorem size_toNat (n : Int) : Builtin.Range.rangeSize 0 n 1 = (n.toNat : Int) := by
  rcases Int.le_total 0 n with h | h
  · rw [size_up h]; omega
  · rw [size_none h]; omega
theorem size_toNatD (n : Int) : Builtin.Range.rangeSize 0 (-n) (-1) = (n.toNat : Int) := by
  rcases Int.le_total 0 n with h | h
  · rw [size_down h]; omega
  · rw [size_noneD h]; omega
/-- the same for elements whose keys turn the order -/
theorem sel_key {leK leE : Int → Int → Prop} {f fi : Int → Int} (hf : ∀ x, fi (f x) = x) (hle : ∀ x y, leK (f x) (f y) → leE x y) {k : Nat} {ns out : List Int}
    (hl : out.length = min k ns.length) (hp : (out.map f).Pairwise leK) (hb : Best leK (out.map f) (ns.map f)) : Sel leE k ns out := by
  refine ⟨hl, ?_, ?_⟩
  · rw [List.pairwise_map] at hp
    exact hp.imp fun h => hle _ _ h
  · obtain ⟨dr, h1, h2⟩ := hb
    have e : ∀ l : List Int, (l.map f).map fi = l := by
      intro l
      rw [List.map_map]
      have : (fi ∘ f) = id := funext hf
      rw [this, List.map_id]
    refine ⟨dr.map fi, ?_, ?_⟩
    · have := h1.map fi
      rw [List.map_append, e, e] at this
      exact this
    · intro x hx y hy
      obtain ⟨d, hd, rfl⟩ := List.mem_map.mp hy
      have hdn : d ∈ ns.map f := h1.mem_iff.mp (List.mem_append_right _ hd)
      obtain ⟨z, _, rfl⟩ := List.mem_map.mp hdn
      rw [hf]
      exact hle _ _ (h2 _ (List.mem_map.mpr ⟨x, hx, rfl⟩) _ hd)
theorem sel_nil (le : Int → Int → Prop) (ns : List Int) : Sel le 0 ns [] := ⟨by simp, .nil, ns, by simp, fun _ h => nomatch h⟩
end Mine
end

section
open PySem PySem.W PyProof.Rows PyProof.Rows.LCg
set_option Elab.async false
set_option pp.maxSteps 20000
set_option pp.deepTerms false
set_option pp.deepTerms.threshold 6
namespace Mine
section
set_option maxRecDepth 100000 in
set_option maxHeartbeats 8000000 in
theorem inv_ok (w mean mg mb) (x : Int) (t : Tok) (news) :
    Calls w mean mg mb 96 [.int x t] 1 news (fun r news' => news' = news ∧ ∃ t, r = .int (-x - 1) t) := by
  unfold Calls
  k_fill
  intro dp un gd cn cs a ccd cl outer A₀ base h₀ L m s Q E B F X N T hk hd hu hret
  w_on
  w_strict (
  refine wpAny_call ?_
  k_dflt ktr_enter
  k_steps)
  exact hret _ _ _ _ (by assumption) (by assumption) ⟨rfl, _, rfl⟩
set_option maxRecDepth 100000 in
set_option maxHeartbeats 8000000 in
theorem neg_ok (w mean mg mb) (x : Int) (t : Tok) (news) :
    Calls w mean mg mb 103 [.int x t] 1 news (fun r news' => news' = news ∧ ∃ t, r = .int (-x) t) := by
  unfold Calls
  k_fill
  intro dp un gd cn cs a ccd cl outer A₀ base h₀ L m s Q E B F X N T hk hd hu hret
  w_on
  w_strict (
  refine wpAny_call ?_
  k_dflt ktr_enter
  k_steps)
  exact hret _ _ _ _ (by assumption) (by assumption) ⟨rfl, _, rfl⟩
set_option maxRecDepth 100000 in
set_option maxHeartbeats 8000000 in
theorem and_ok (w mean mg mb) (x : Int) (t u : Tok) (news) :
    Calls w mean mg mb 89 [.int x t, .int 255 u] 1 news (fun r news' => news' = news ∧ ∃ t, r = .int (x % 256) t) := by
  unfold Calls
  k_fill
  intro dp un gd cn cs a ccd cl outer A₀ base h₀ L m s Q E B F X N T hk hd hu hret
  w_on
  w_strict (
  refine wpAny_call ?_
  k_dflt ktr_enter
  k_steps)
  exact hret _ _ _ _ (by assumption) (by assumption) ⟨rfl, _, by rw [bitAnd_m8]⟩
set_option maxRecDepth 100000 in
set_option maxHeartbeats 8000000 in
theorem xor_ok (w mean mg mb) (x y : Int) (t u : Tok) (news) :
    Calls w mean mg mb 110 [.int x t, .int y u] 1 news (fun r news' => news' = news ∧ ∃ t, r = .int (Builtin.bitXor x y) t) := by
  unfold Calls
  k_fill
  intro dp un gd cn cs a ccd cl outer A₀ base h₀ L m s Q E B F X N T hk hd hu hret
  w_on
  w_strict (
  refine wpAny_call ?_
  k_dflt ktr_enter
  k_steps)
  exact hret _ _ _ _ (by assumption) (by assumption) ⟨rfl, _, rfl⟩
end
end Mine
end

section
open PySem PySem.W PyProof.Rows PyProof.Rows.LCg
set_option Elab.async false
set_option pp.maxSteps 20000
set_option pp.deepTerms false
set_option pp.deepTerms.threshold 6
namespace Mine
section
local macro_rules | `(tactic| walk_at "call ref") => `(tactic| (refine Hold.mk ?_))
local macro_rules | `(tactic| walk_at "call builtin:iter") => `(tactic| (refine Hold.mk ?_))
local macro_rules | `(tactic| walk_at "call builtin:len") => `(tactic| ((with_reducible show wpAny _ _ (call (Value.builtin _) [Value.ref _]) _ _ _); refine' list_len ?N ?m ?c ?_; (case N => k_asm); (case m => k_mem); (case c => assumption)))
local macro_rules | `(tactic| walk_at "exec Assign cons ListComp") => `(tactic| (refine Hold.mk ?_))
local macro_rules | `(tactic| walk_at "subscriptTail") => `(tactic| (refine Hold.mk ?_))
local macro_rules | `(tactic| walk_at "pyIter ref") => `(tactic| (refine Hold.mk ?_))
local macro_rules | `(tactic| walk_at "exec For Name Name cons nil") => `(tactic| (refine Hold.mk ?_))
local macro_rules | `(tactic| walk_at "ForPost") => `(tactic| (dsimp only [ForPost]))
local macro_rules | `(tactic| walk_at "assign Tuple") => `(tactic| (refine Hold.mk ?_))
local macro_rules | `(tactic| walk_at "call builtin:list.sort") => `(tactic| (refine Hold.mk ?_))
local macro_rules | `(tactic| walk_at "eval ListComp") => `(tactic| (refine Hold.mk ?_))
local macro_rules | `(tactic| walk_at "call type:zip") => `(tactic| (refine Hold.mk ?_))
set_option maxRecDepth 100000 in
set_option maxHeartbeats 8000000 in
theorem nsm_heap (w mean mg mb) (R : Addr) (vs : List Value) (ns : List Int) (c' : Nat) (n : Int) (tn : Tok) (rest) (hI : IntsAre vs ns) (hl : vs.length = 32) (h0 : -1 ≤ n) (h1 : n ≠ 1) (h2 : n < 32) :
    CallsK w mean mg mb 76 [.int n tn, .ref R] [] 6 ((R, listOf vs.toArray c') :: rest)
      (fun r news' => ∃ D2 vs' out, r = .ref D2 ∧ news' = (D2, listOf (List.toArray vs') vs'.length) :: (R, listOf vs.toArray c') :: rest ∧ IntsAre vs' out ∧ Sel (· ≤ ·) n.toNat ns out) := by
  unfold CallsK
  k_fill
  intro dp un gd cn cs a ccd cl outer A₀ base h₀ L m s Q E B F X N T hk hd hu hret
  w_on
  w_strict (
  refine wpAny_call ?_
  k_dflt (refine' code_defC ?k1 ?k2 ?k3 ?k4 ?k5 ?kA ?kF ?kK ?k6 ?k7 ?k8 ?k9 ?kB ?kD ?_ ?c2 ?c3 ?c4; (case kA => exact rfl); (case kF => exact rfl); (case kK => assumption); (case k1 => k_asm); (case k2 => k_asm); (case k3 => k_asm); (case k4 => k_asm); (case k5 => k_asm); (case k6 => k_is); (case k7 => k_is); (case k8 => ktr_room); (case k9 => exact binds_K (by k_in) rfl (by k_is) rfl rfl rfl); (case kB => exact rfl); (case kD => decide +kernel); (case c2 => exact rfl); (case c3 => exact rfl); (case c4 => exact rfl); k_whole; intro g' L' h' tk' cells' FG' F' N' Y' B' X' T' l1; (try k_lt l1); (have hY := CellsAre.one Y'); obtain ⟨o1, hE1, d1⟩ := hY; subst hE1; clear Y'; (try simp only [List.cons_append, List.nil_append] at N'); (try dsimp only); (try k_fold))
  k_steps)
  · exact absurd (by assumption : n = 1) h1
  unfold Hold
  k_dflt (refine' list_iter ?zF ?zN ?zm ?_; (case zF => k_asm); (case zN => k_asm); (case zm => k_mem))
  intro I1 hh2 F2 N2 l2
  (try k_lt l2)
  w_strict (k_steps)
  unfold Hold
  k_dflt (refine' comp_assign [Str.ofString "i", Str.ofString "elem"] ?zF ?zL ?zsw ?zcl ?zce ?zki ?znm ?zx ?zy ?zp ?_ ?zhs; (case zF => k_asm); (case zL => rfl); (case zsw => with_unfolding_all rfl); (case zcl => with_unfolding_all rfl); (case zce => decide); (case zki => rfl); (case znm => decide); (case zx => decide); (case zy => rfl); (case zp => rfl); (case zhs => (intro _; with_unfolding_all rfl)))
  w_strict (k_steps)
  unfold Hold
  k_dflt (refine' zip_range (n.toNat : Int) ?zF ?zN ?zr ?zm ?zs ?ze ?_; (case zF => k_asm); (case zN => k_asm); (case zr => assumption); (case zm => k_mem); (case zs => exact small_up (by omega) (by omega)); (case ze => exact size_toNat _))
  intro z' TI' TO' i1' h3 F3 N3 l3 l4 l5
  (try k_lt l3)
  k_dflt (refine' zip_block (n := n.toNat) (R := R) (vs := vs) (ns := ns) (c := c') (fun x o => [x, o]) ?hh ?hab F3 N3 ?hb ?hlt ?hL ?hR ?hI hl ?hn ?turn ?done)
  case hh => rfl
  case hab => decide
  case hn => omega
  case hI => assumption
  case hR => exact .tail _ (.head _)
  case hb =>
    intro p hp
    rcases List.mem_cons.mp hp with rfl | hp
    · exact l2.1
    rcases List.mem_cons.mp hp with rfl | hp
    · exact l2.2.1
    · exact allLt_mem l2.2.2 p hp
  case hlt => exact ⟨l3.1, l4⟩
  case hL => exact Nat.lt_trans (Nat.lt_succ_self _) l2.1
  case turn =>
    intro i x hi hx
    unfold MakesTup
    intro t tx own tl C oC D' m₂ ys h tk' E' hoC ha hb F4 N4
    clear N3 F3
    w_strict (k_steps)
    exact TupEnd.intro (vals := [_, _]) (by assumption) (by assumption) (.cons _ _ (.cons _ _ .nil)) (by assumption)
  case done =>
    intro D' h9 tk9 ps tl F9 N9 hne9 hT9 htl9 hks9
    have hnl := IntsAre.length (by assumption : IntsAre vs ns)
    have hpl : ps.length = n.toNat := by have := congrArg List.length hks9; simpa using this
    w_strict (k_steps)
    · (rename List.isEmpty _ = true => he)
      simp only [List.isEmpty_iff, List.map_eq_nil_iff] at he
      subst he
      (rename Fr _ _ _ _ => F10)
      (rename News _ _ _ _ => N10)
      have hn0 : n.toNat = 0 := by simpa using hpl.symm
      refine hret _ _ _ _ F10 (fun p hp => N10 p ?_) ⟨D', [], [], rfl, rfl, .nil, ?_⟩
      · rcases List.mem_cons.mp hp with rfl | hp
        · exact .head _
        · exact .tail _ (.tail _ (List.mem_append_right _ (.tail _ hp)))
      · rw [hn0]; exact sel_nil _ _
    (rename List.isEmpty _ = false => hemp)
    have hn2 : 2 ≤ n.toNat := by
      have h3 : ps ≠ [] := by intro e; rw [e] at hemp; cases hemp
      have h4 : 0 < ps.length := List.length_pos_iff.mpr h3
      omega
    unfold Hold
    k_dflt (refine' Calls.useRN (heapify_max_ok _ _ _ _ D' ps _ ((I1, lIt R n.toNat) :: (tl ++ (L' + 1, o1) :: (R, listOf vs.toArray c') :: rest)) hne9 (fun q hq => (hT9 q hq).mono fun p hp => .tail _ (List.mem_append_left _ hp)) (by omega)) ?zB ?zF ?zX ?zN ?zT ?zk ?zd ?zu ?_)
    case zB => k_asm
    case zF => k_asm
    case zX => k_asm
    case zN => k_asm
    case zT => k_asm
    case zk => rfl
    case zd => ktr_room
    case zu => ktr_units
    intro h' tk' F' N'
    have hpm := heapFrom_perm (lt := ltMax) (d := d0) (ps.length / 2) ps (by omega)
    have hhp := heapify_heaped (lt := ltMax) (d := d0) ltMax_strict ps
    generalize heapFrom ltMax d0 (ps.length / 2) ps = qs at *
    have hql : qs.length = n.toNat := hpm.length_eq.trans hpl
    have hTq : ∀ q ∈ qs, TupIn tl q.1 q.2 := fun q hq => hT9 q (hpm.mem_iff.mp hq)
    clear N9 F9
    refine ex2 (p := fun e o => (qs.getD 0 d0).2 = [e, o]) ?hrt (fun e0 o0 hroot => ?_)
    case hrt =>
      have h0 : (qs.getD 0 d0).2 ∈ ps.map Prod.snd := List.mem_map.mpr ⟨_, hpm.mem_iff.mp (getD_mem (by omega)), rfl⟩
      rw [hks9] at h0
      obtain ⟨i, _, hi⟩ := List.mem_map.mp h0
      exact ⟨_, _, hi.symm⟩
    w_strict (k_steps)
    unfold Hold
    refine' pair_item ?zN ?zm ?za ?zb ?zc ?_ ?zs
    (case zN => k_asm)
    (case zm => k_mem)
    (case za => omega)
    (case zb => omega)
    (case zc => omega)
    (case zs => with_unfolding_all rfl)
    w_strict (k_steps)
    unfold Hold
    k_dflt (refine' tup_fst ?zN ?zx hroot ?_ ?zs; (case zN => k_asm); (case zs => (intro _; with_unfolding_all rfl)); (case zx => exact (hTq _ (getD_mem (by omega))).mono fun p hp => .tail _ (.tail _ (List.mem_append_left _ hp))))
    intro t0
    w_strict (k_steps)
    unfold Hold
    (rename Fr _ _ _ _ => F5)
    (rename News _ _ _ _ => N5)
    with_unfolding_all refine' For_invVF F5 ?zk1 ?zk2 ?_
    case zk1 => exact rfl
    case zk2 => exact rfl
    w_strict (k_steps)
    unfold Hold
    have hRI : R ≠ I1 := Nat.ne_of_lt l2.2.1
    refine wpAny_pyIter_listiter (lIt_is (N5 _ (.tail _ (.head _))).1) ?_
    refine for_st (σ := List Item × (Int × Tok) × (Int × Tok) × List (Addr × Obj) × (Str → Option Value)) (Walks.listFrom rfl I1 R hRI vs.toArray n.toNat (by simp; omega))
      (fun m₀ c z => if z = Str.ofString "top" then some (.int c.2.1.1 c.2.1.2) else if z = Str.ofString "order" then some (.int c.2.2.1.1 c.2.2.1.2) else if z = Str.ofString "_order" then c.2.2.2.2 z else if z = Str.ofString "elem" then c.2.2.2.2 z else m₀ z)
      (fun c => (D', listOf (c.1.map Prod.fst).toArray (ps.map Prod.fst).length) :: (c.2.2.2.1 ++ (L' + 1, o1) :: (R, listOf vs.toArray c') :: rest))
      (fun i c => c.1.length = n.toNat ∧ (∀ q ∈ c.1, TupIn c.2.2.2.1 q.1 q.2) ∧ (∀ p ∈ c.2.2.2.1, I1 < p.1 ∧ p.1 ≠ D') ∧ Heaped ltMax d0 0 c.1 ∧ (∀ q ∈ c.1, ∃ e o, q.2 = [e, o]) ∧ hdK (c.1.getD 0 d0) = c.2.1.1 ∧ Best (· ≤ ·) (c.1.map hdK) (ns.take (n.toNat + i)))
      (fun m₀ => (qs, (e0, t0), (n, tn), tl, m₀)) F5 N5 ?hLf ?hwr ?hst ?hm ?hl ?hoff ?hJ ?turn ?done
    case hLf =>
      intro hq
      rcases List.mem_cons.mp hq with hq | hq
      · exact Nat.ne_of_lt (Nat.lt_trans (Nat.lt_succ_self _) l2.1) hq
      · exact Nat.ne_of_gt l1.1 (List.mem_singleton.mp hq)
    case hwr =>
      intro b hb
      rw [List.mem_singleton.mp hb]
      exact (N5 _ (.tail _ (.head _))).2.2
    case hst => exact ⟨(N5 _ (.tail _ (.head _))).1, PySem.IsL.isList (n := c') (N5 _ (.tail _ (.tail _ (List.mem_append_right _ (.tail _ (.head _)))))).1⟩
    case hm =>
      intro z
      dsimp only
      by_cases hz0 : z = Str.ofString "order"
      · subst hz0; rfl
      by_cases hz1 : z = Str.ofString "top"
      · subst hz1; rfl
      by_cases hz2 : z = Str.ofString "_order"
      · subst hz2; rfl
      by_cases hz3 : z = Str.ofString "elem"
      · subst hz3; rfl
      simp only [hz0, hz1, hz2, hz3, if_false]
    case hl =>
      intro p hp
      rcases List.mem_cons.mp hp with rfl | hp
      · exact .head _
      · exact .tail _ (.tail _ hp)
    case hoff =>
      rintro i ⟨xs, _, _, tl', _⟩ ⟨_, _, htl, _⟩ p hp hI
      rw [List.mem_singleton] at hI
      rcases List.mem_cons.mp hp with rfl | hp
      · exact hne9 _ (.head _) hI.symm
      rcases List.mem_append.mp hp with hp | hp
      · exact Nat.ne_of_gt (htl p hp).1 hI
      rcases List.mem_cons.mp hp with rfl | hp
      · exact Nat.ne_of_lt l2.1 hI
      rcases List.mem_cons.mp hp with rfl | hp
      · exact Nat.ne_of_lt l2.2.1 hI
      · exact Nat.ne_of_lt (allLt_mem l2.2.2 p hp) hI
    case hJ =>
      refine ⟨hql, hTq, fun p hp => ⟨htl9 p hp, hne9 p (.tail _ (List.mem_append_left _ hp))⟩, hhp, ?_, ?_, ?_⟩
      · intro q hq
        have h0 : q.2 ∈ ps.map Prod.snd := List.mem_map.mpr ⟨_, hpm.mem_iff.mp hq, rfl⟩
        rw [hks9] at h0
        obtain ⟨i, _, hi⟩ := List.mem_map.mp h0
        exact ⟨_, _, hi.symm⟩
      · show List.headD (qs.getD 0 d0).2 0 = e0
        rw [hroot]; rfl
      · refine Best.start ((hpm.map hdK).trans ?_)
        have e1 : ps.map hdK = (ps.map Prod.snd).map (fun l => l.headD 0) := by simp [hdK]
        rw [e1, hks9, List.map_map]
        show List.Perm ((List.range n.toNat).map (fun i => ns.getD i 0)) _
        rw [range_take (by omega)]
        exact .refl _
    case turn =>
      intro i v
      refine st7 fun xs tp ttp od tod tl' uu => ?_
      intro h9 tk9 own hi hv
      dsimp only
      refine and7 fun hl6 hT6 htl6 hh6 hs6 hr6 hb6 => ?_
      intro hown hall hst9 F6 N6
      have hI0 : g'.get? I1 = none := (N5 _ (.tail _ (.head _))).2.2
      refine ex2 (ints_at (by assumption) hv) fun x tx hx2 => ?_
      obtain ⟨hx, rfl⟩ := hx2
      have N7 : News g' L' h9 ((D', listOf (xs.map Prod.fst).toArray (ps.map Prod.fst).length) :: (own ++ (tl' ++ (L' + 1, o1) :: (R, listOf vs.toArray c') :: rest))) := fun p hp => N6 p (by
        rcases List.mem_cons.mp hp with rfl | hp
        · exact List.mem_append_right _ (.head _)
        rcases List.mem_append.mp hp with hp | hp
        · exact List.mem_append_left _ hp
        · exact List.mem_append_right _ (.tail _ hp))
      clear N6 N5 F5
      have hne6 : ∀ q ∈ xs, q.2 ≠ [] := fun q hq => by obtain ⟨e, o, h⟩ := hs6 q hq; rw [h]; simp
      w_strict (k_steps)
      · rename_i hcmp Tn hn8 Fn Nn ln
        unfold Hold
        have hneD : ∀ q ∈ (Tn, ({ cls := .type "tuple", data := .seq (List.toArray [.int x tx, .int od tod]) 0 } : Obj)) :: (own ++ (tl' ++ (L' + 1, o1) :: (R, listOf vs.toArray c') :: rest)), q.1 ≠ D' := by
          intro q hq
          rcases List.mem_cons.mp hq with rfl | hq
          · exact Nat.ne_of_gt ln.1
          rcases List.mem_append.mp hq with hq | hq
          · have := hown q hq
            rcases List.mem_cons.mp this with e | e
            · rw [e]; exact hne9 _ (.head _)
            · rw [List.mem_singleton.mp e]; exact hne9 (R, listOf vs.toArray c') (.tail _ (List.mem_append_right _ (.tail _ (.head _))))
          rcases List.mem_append.mp hq with hq | hq
          · exact (htl6 q hq).2
          · exact hne9 q (.tail _ (List.mem_append_right _ hq))
        have N8 : News g' L' hn8 ((D', listOf (xs.map Prod.fst).toArray (ps.map Prod.fst).length) :: (Tn, ({ cls := .type "tuple", data := .seq (List.toArray [.int x tx, .int od tod]) 0 } : Obj)) :: (own ++ (tl' ++ (L' + 1, o1) :: (R, listOf vs.toArray c') :: rest))) := fun p hp => Nn p (by
          rcases List.mem_cons.mp hp with rfl | hp
          · exact .tail _ (.head _)
          rcases List.mem_cons.mp hp with rfl | hp
          · exact .head _
          · exact .tail _ (.tail _ hp))
        clear Nn
        k_dflt (refine' Calls.useRN (heapreplace_max_ok _ _ _ _ D' xs (.ref Tn, [x, od]) _ _ hneD (fun q hq => (hT6 q hq).mono fun p hp => .tail _ ((List.mem_append_right _ (List.mem_append_left _ hp)))) ⟨Tn, _, _, rfl, .head _, .cons _ _ (.cons _ _ .nil)⟩ (by omega) (by omega)) ?zB ?zF ?zX ?zN ?zT ?zk ?zd ?zu ?_)
        case zB => k_asm
        case zF => k_asm
        case zX => k_asm
        case zN => k_asm
        case zT => k_asm
        case zk => rfl
        case zd => ktr_room
        case zu => ktr_units
        intro h7 tk7 F7 N7
        have hb7 := rep_best (lt := ltMax) (le := (· ≤ ·)) (x := ((.ref Tn, [x, od]) : Item)) (fun _ _ _ a b => Int.le_trans a b) hb6 (by omega) (max_root hh6 hne6) (by rw [hr6]; show x ≤ tp; omega)
        have hh7 := heapRep_heaped (d := d0) ltMax_strict (x := ((.ref Tn, [x, od]) : Item)) (by omega) hh6
        have hp7 : ∀ q ∈ heapRep ltMax d0 xs (.ref Tn, [x, od]), q = (.ref Tn, [x, od]) ∨ q ∈ xs := fun q hq => by
          rcases List.mem_or_eq_of_mem_set ((heapRep_perm (by omega)).mem_iff.mp hq) with h | h
          · exact .inr h
          · exact .inl h
        have hl7 : (heapRep ltMax d0 xs (.ref Tn, [x, od])).length = n.toNat := by rw [(heapRep_perm (by omega)).length_eq, List.length_set]; exact hl6
        generalize heapRep ltMax d0 xs (.ref Tn, [x, od]) = ys at *
        clear N8
        have hs7 : ∀ q ∈ ys, ∃ e o, q.2 = [e, o] := fun q hq => by
          rcases hp7 q hq with rfl | h
          · exact ⟨_, _, rfl⟩
          · exact hs6 q h
        have hT7 : ∀ q ∈ ys, TupIn ((Tn, ({ cls := .type "tuple", data := .seq (List.toArray [.int x tx, .int od tod]) 0 } : Obj)) :: tl') q.1 q.2 := fun q hq => by
          rcases hp7 q hq with rfl | h
          · exact ⟨Tn, _, _, rfl, .head _, .cons _ _ (.cons _ _ .nil)⟩
          · exact (hT6 q h).mono fun p hp => .tail _ hp
        refine ex2 (hs7 _ (getD_mem (i := 0) (by omega))) (fun e7 o7 hroot7 => ?_)
        w_strict (k_steps)
        unfold Hold
        refine' pair_item ?zN ?zm ?za ?zb ?zc ?_ ?zs
        (case zN => k_asm)
        (case zm => k_mem)
        (case za => omega)
        (case zb => omega)
        (case zc => omega)
        (case zs => with_unfolding_all rfl)
        w_strict (k_steps)
        unfold Hold
        k_dflt (refine' tup_unpack2 (news := (D', listOf (ys.map Prod.fst).toArray (ps.map Prod.fst).length) :: (Tn, ({ cls := .type "tuple", data := .seq (List.toArray [.int x tx, .int od tod]) 0 } : Obj)) :: (own ++ (tl' ++ (L' + 1, o1) :: (R, listOf vs.toArray c') :: rest))) ?zF ?zN ?zx hroot7 ?zh ?za ?zb ?zp ?_; (case zF => k_asm); (case zN => k_asm); (case zh => rfl); (case za => rfl); (case zb => rfl); (case zp => rfl))
        case zx =>
          refine (hT7 _ (getD_mem (i := 0) (by omega))).mono fun p hp => ?_
          rcases List.mem_cons.mp hp with rfl | hp
          · exact .tail _ (.head _)
          · exact .tail _ (.tail _ ((List.mem_append_right _ (List.mem_append_left _ hp))))
        intro h8 tk8 t1 t2 F8 N8
        clear N7 F7
        w_strict (k_steps)
        (rename Fr _ _ _ _ => F10)
        (rename News _ _ _ _ => N10)
        refine ForEnd.intro' (fun m' => (ys, (e7, t1), (od + 1, ?tt), (Tn, ({ cls := .type "tuple", data := .seq (List.toArray [.int x tx, .int od tod]) 0 } : Obj)) :: tl', m')) F10 N10 ?hm ?hn ?ho ?hJ
        case hm =>
          intro z
          dsimp only
          by_cases hz0 : z = Str.ofString "order"
          · subst hz0; rfl
          by_cases hz1 : z = Str.ofString "top"
          · subst hz1; rfl
          by_cases hz2 : z = Str.ofString "_order"
          · subst hz2; rfl
          by_cases hz3 : z = Str.ofString "elem"
          · subst hz3; rfl
          simp only [hz0, hz1, hz2, hz3, if_false]
        case hn =>
          intro p hp
          rcases List.mem_cons.mp hp with rfl | hp
          · exact .head _
          rcases List.mem_cons.mp hp with rfl | hp
          · exact .tail _ (.head _)
          · exact .tail _ (.tail _ ((List.mem_append_right _ hp)))
        case ho => exact fun p hp => .tail _ (.tail _ ((List.mem_append_left _ hp)))
        case hJ =>
          refine ⟨hl7, hT7, fun p hp => ?_, hh7, hs7, ?_, ?_⟩
          · rcases List.mem_cons.mp hp with rfl | hp
            · exact ⟨allLt_mem ln.2 (I1, lIt R (n.toNat + (i + 1))) ((List.mem_append_left _ (hall I1 (.head _) hI0 _ hst9.1))), Nat.ne_of_gt ln.1⟩
            · exact htl6 p hp
          · show List.headD (ys.getD 0 d0).2 0 = e7
            rw [hroot7]; rfl
          · show Best (· ≤ ·) (ys.map hdK) (ns.take (n.toNat + i + 1))
            rw [take_snoc hx]
            exact hb7
      · rename_i hcmp
        (rename Fr _ _ _ _ => F10)
        (rename News _ _ _ _ => N10)
        refine ForEnd.intro' (fun m' => (xs, (tp, ttp), (od, tod), tl', m')) F10 N10 ?hm ?hn ?ho ?hJ
        case hm =>
          intro z
          dsimp only
          by_cases hz0 : z = Str.ofString "order"
          · subst hz0; rfl
          by_cases hz1 : z = Str.ofString "top"
          · subst hz1; rfl
          by_cases hz2 : z = Str.ofString "_order"
          · subst hz2; rfl
          by_cases hz3 : z = Str.ofString "elem"
          · subst hz3; rfl
          simp only [hz0, hz1, hz2, hz3, if_false]
        case hn =>
          intro p hp
          rcases List.mem_cons.mp hp with rfl | hp
          · exact .head _
          · exact .tail _ ((List.mem_append_right _ hp))
        case ho => exact fun p hp => .tail _ ((List.mem_append_left _ hp))
        case hJ =>
          refine ⟨hl6, hT6, htl6, hh6, hs6, hr6, ?_⟩
          show Best (· ≤ ·) (xs.map hdK) (ns.take (n.toNat + i + 1))
          rw [take_snoc hx]
          exact Best.skip (le := (· ≤ ·)) (fun _ _ _ a b => Int.le_trans a b) (r := tp) hb6 (fun y hy => by have := max_root hh6 hne6 y hy; rw [hr6] at this; exact this) (by (try dsimp only); omega)
    case done =>
      refine st7 fun xs tp ttp od tod tl' uu => ?_
      intro h9 tk9
      dsimp only
      refine and7 fun hl6 hT6 htl6 hh6 hs6 hr6 hb6 => ?_
      intro F6 N6
      clear N5 F5
      have hne6 : ∀ q ∈ xs, q.2 ≠ [] := fun q hq => by obtain ⟨e, o, h⟩ := hs6 q hq; rw [h]; simp
      w_strict (k_steps)
      unfold Hold
      k_dflt (refine' pair_sort (D := D') (xs := xs) (n := (ps.map Prod.fst).length) (rest := tl' ++ (L' + 1, o1) :: (R, listOf vs.toArray c') :: rest) (b := false) (kw := []) ?zF ?zN ?zne ?zT hne6 ?z2 ?z64 ?zt ?za ?_; (case zF => k_asm); (case zN => k_asm); (case z2 => omega); (case z64 => omega); (case zt => exact srt_1 _); (case za => exact args_list_sort _))
      case zT => exact fun q hq => (hT6 q hq).mono fun p hp => List.mem_append_left _ hp
      case zne =>
        intro q hq
        rcases List.mem_append.mp hq with hq | hq
        · exact (htl6 q hq).2
        · exact hne9 q (.tail _ (List.mem_append_right _ hq))
      intro ys cy h7 hpm7 hpw7 F7 N7
      clear N6 F6
      w_strict (k_steps)
      unfold Hold
      k_dflt (refine' comp_eval [Str.ofString "elem", Str.ofString "order"] ?zF ?zcl ?zce ?zki ?znm ?zx ?_ ?zhs; (case zF => k_asm); (case zcl => with_unfolding_all rfl); (case zce => decide); (case zki => rfl); (case znm => decide); (case zx => decide); (case zhs => (intro _; with_unfolding_all rfl)))
      w_strict (k_steps)
      have hs7 : ∀ q ∈ ys, ∃ e o, q.2 = [e, o] := fun q hq => hs6 q (hpm7.mem_iff.mp hq)
      k_dflt (refine' tup_block (xs := ys) (nps := [(Str.ofString "elem", _), (Str.ofString "order", _)]) 0 ?zh ?zk ?zx ?zd ?zj ?zjl F7 N7 ?zT ?zlen ?zl ?_; (case zh => rfl); (case zk => rfl); (case zx => rfl); (case zd => decide); (case zjl => decide))
      case zT => exact fun q hq => (hT6 q (hpm7.mem_iff.mp hq)).mono fun p hp => List.mem_append_left _ hp
      case zlen => exact fun q hq => by obtain ⟨e, o, h⟩ := hs7 q hq; rw [h]; rfl
      case zl => rw [hpm7.length_eq]; omega
      case zj =>
        intro vs h
        match vs, h with
        | [a, b], _ => rfl
      intro D2 h8 tk8 vs' F8 N8 hne8 hi8
      clear N7 F7
      w_strict (k_steps)
      (rename Fr _ _ _ _ => F10)
      (rename News _ _ _ _ => N10)
      have e8 : (ys.map fun q => q.2.getD 0 0) = ys.map hdK := List.map_congr_left fun q hq => by
        obtain ⟨e, o, h⟩ := hs7 q hq
        show q.2.getD 0 0 = q.2.headD 0
        rw [h]; rfl
      rw [e8] at hi8
      have hne7 : ∀ q ∈ ys, q.2 ≠ [] := fun q hq => hne6 q (hpm7.mem_iff.mp hq)
      refine hret _ _ _ _ F10 (fun p hp => N10 p ?_) ⟨D2, vs', _, rfl, rfl, hi8, ?_, ?_, ?_⟩
      · rcases List.mem_cons.mp hp with rfl | hp
        · exact .head _
        · exact .tail _ (.tail _ (List.mem_append_right _ (.tail _ hp)))
      · rw [List.length_map, hpm7.length_eq]; omega
      · exact sorted_hd (by simpa using hpw7) hne7
      · have e9 : n.toNat + (vs.toArray.size - n.toNat) = ns.length := by simp; omega
        rw [e9, List.take_length] at hb6
        exact hb6.perm (hpm7.map hdK)
end
end Mine
end

section
open PySem PySem.W PyProof.Rows PyProof.Rows.LCg
set_option Elab.async false
set_option pp.maxSteps 20000
set_option pp.deepTerms false
set_option pp.deepTerms.threshold 6
namespace Mine
section
local macro_rules | `(tactic| walk_at "call ref") => `(tactic| (refine Hold.mk ?_))
local macro_rules | `(tactic| walk_at "call builtin:iter") => `(tactic| (refine Hold.mk ?_))
local macro_rules | `(tactic| walk_at "call builtin:len") => `(tactic| ((with_reducible show wpAny _ _ (call (Value.builtin _) [Value.ref _]) _ _ _); refine' list_len ?N ?m ?c ?_; (case N => k_asm); (case m => k_mem); (case c => assumption)))
local macro_rules | `(tactic| walk_at "exec Assign cons ListComp") => `(tactic| (refine Hold.mk ?_))
local macro_rules | `(tactic| walk_at "subscriptTail") => `(tactic| (refine Hold.mk ?_))
local macro_rules | `(tactic| walk_at "pyIter ref") => `(tactic| (refine Hold.mk ?_))
local macro_rules | `(tactic| walk_at "exec For Name Name cons nil") => `(tactic| (refine Hold.mk ?_))
local macro_rules | `(tactic| walk_at "ForPost") => `(tactic| (dsimp only [ForPost]))
local macro_rules | `(tactic| walk_at "assign Tuple") => `(tactic| (refine Hold.mk ?_))
local macro_rules | `(tactic| walk_at "call builtin:list.sort") => `(tactic| (refine Hold.mk ?_))
local macro_rules | `(tactic| walk_at "eval ListComp") => `(tactic| (refine Hold.mk ?_))
local macro_rules | `(tactic| walk_at "call type:zip") => `(tactic| (refine Hold.mk ?_))
set_option maxRecDepth 100000 in
set_option maxHeartbeats 8000000 in
theorem nsmK_heap (w mean mg mb) (R : Addr) (vs : List Value) (ns : List Int) (c' : Nat) (n : Int) (tn : Tok) (rest) (hI : IntsAre vs ns) (hl : vs.length = 32) (h0 : -1 ≤ n) (h1 : n ≠ 1) (h2 : n < 32) :
    CallsK w mean mg mb 76 [.int n tn, .ref R] [(Str.ofString "key", .ref 96)] 6 ((R, listOf vs.toArray c') :: rest)
      (fun r news' => ∃ D2 vs' out, r = .ref D2 ∧ news' = (D2, listOf (List.toArray vs') vs'.length) :: (R, listOf vs.toArray c') :: rest ∧ IntsAre vs' out ∧ Sel (fun x y : Int => x ≥ y) n.toNat ns out) := by
  unfold CallsK
  k_fill
  intro dp un gd cn cs a ccd cl outer A₀ base h₀ L m s Q E B F X N T hk hd hu hret
  w_on
  w_strict (
  refine wpAny_call ?_
  k_dflt (refine' code_defC ?k1 ?k2 ?k3 ?k4 ?k5 ?kA ?kF ?kK ?k6 ?k7 ?k8 ?k9 ?kB ?kD ?_ ?c2 ?c3 ?c4; (case kA => exact rfl); (case kF => exact rfl); (case kK => assumption); (case k1 => k_asm); (case k2 => k_asm); (case k3 => k_asm); (case k4 => k_asm); (case k5 => k_asm); (case k6 => k_is); (case k7 => k_is); (case k8 => ktr_room); (case k9 => exact binds_K (by k_in) rfl (by k_is) rfl rfl rfl); (case kB => exact rfl); (case kD => decide +kernel); (case c2 => exact rfl); (case c3 => exact rfl); (case c4 => exact rfl); k_whole; intro g' L' h' tk' cells' FG' F' N' Y' B' X' T' l1; (try k_lt l1); (have hY := CellsAre.one Y'); obtain ⟨o1, hE1, d1⟩ := hY; subst hE1; clear Y'; (try simp only [List.cons_append, List.nil_append] at N'); (try dsimp only); (try k_fold))
  k_steps)
  · exact absurd (by assumption : n = 1) h1
  unfold Hold
  k_dflt (refine' list_iter ?zF ?zN ?zm ?_; (case zF => k_asm); (case zN => k_asm); (case zm => k_mem))
  intro I1 hh2 F2 N2 l2
  (try k_lt l2)
  w_strict (k_steps)
  unfold Hold
  k_dflt (refine' comp_assign [Str.ofString "i", Str.ofString "elem"] ?zF ?zL ?zsw ?zcl ?zce ?zki ?znm ?zx ?zy ?zp ?_ ?zhs; (case zF => k_asm); (case zL => rfl); (case zsw => with_unfolding_all rfl); (case zcl => with_unfolding_all rfl); (case zce => decide); (case zki => rfl); (case znm => decide); (case zx => decide); (case zy => rfl); (case zp => rfl); (case zhs => (intro _; with_unfolding_all rfl)))
  w_strict (k_steps)
  unfold Hold
  k_dflt (refine' zip_range (n.toNat : Int) ?zF ?zN ?zr ?zm ?zs ?ze ?_; (case zF => k_asm); (case zN => k_asm); (case zr => assumption); (case zm => k_mem); (case zs => exact small_up (by omega) (by omega)); (case ze => exact size_toNat _))
  intro z' TI' TO' i1' h3 F3 N3 l3 l4 l5
  (try k_lt l3)
  k_dflt (refine' zip_block (n := n.toNat) (R := R) (vs := vs) (ns := ns) (c := c') (fun x o => [-x - 1, o, x]) ?hh ?hab F3 N3 ?hb ?hlt ?hL ?hR ?hI hl ?hn ?turn ?done)
  case hh => rfl
  case hab => decide
  case hn => omega
  case hI => assumption
  case hR => exact .tail _ (.head _)
  case hb =>
    intro p hp
    rcases List.mem_cons.mp hp with rfl | hp
    · exact l2.1
    rcases List.mem_cons.mp hp with rfl | hp
    · exact l2.2.1
    · exact allLt_mem l2.2.2 p hp
  case hlt => exact ⟨l3.1, l4⟩
  case hL => exact Nat.lt_trans (Nat.lt_succ_self _) l2.1
  case turn =>
    intro i x hi hx
    unfold MakesTup
    intro t tx own tl C oC D' m₂ ys h tk' E' hoC ha hb F4 N4
    clear N3 F3
    w_strict (k_steps)
    unfold Hold
    k_dflt (refine' Calls.useNI (inv_ok _ _ _ _ x tx _) ?zB ?zF ?zX ?zN ?zT ?zk ?zd ?zu ?_)
    case zB => k_asm
    case zF => k_asm
    case zX => k_asm
    case zN => k_asm
    case zT => k_asm
    case zk => rfl
    case zd => ktr_room
    case zu => ktr_units
    intro hk4 tkk tkx Fk Nk
    clear N4 F4
    w_strict (k_steps)
    exact TupEnd.intro (vals := [_, _, _]) (by assumption) (by assumption) (.cons _ _ (.cons _ _ (.cons _ _ .nil))) (by assumption)
  case done =>
    intro D' h9 tk9 ps tl F9 N9 hne9 hT9 htl9 hks9
    have hnl := IntsAre.length (by assumption : IntsAre vs ns)
    have hpl : ps.length = n.toNat := by have := congrArg List.length hks9; simpa using this
    w_strict (k_steps)
    · (rename List.isEmpty _ = true => he)
      simp only [List.isEmpty_iff, List.map_eq_nil_iff] at he
      subst he
      (rename Fr _ _ _ _ => F10)
      (rename News _ _ _ _ => N10)
      have hn0 : n.toNat = 0 := by simpa using hpl.symm
      refine hret _ _ _ _ F10 (fun p hp => N10 p ?_) ⟨D', [], [], rfl, rfl, .nil, ?_⟩
      · rcases List.mem_cons.mp hp with rfl | hp
        · exact .head _
        · exact .tail _ (.tail _ (List.mem_append_right _ (.tail _ hp)))
      · rw [hn0]; exact sel_nil _ _
    (rename List.isEmpty _ = false => hemp)
    have hn2 : 2 ≤ n.toNat := by
      have h3 : ps ≠ [] := by intro e; rw [e] at hemp; cases hemp
      have h4 : 0 < ps.length := List.length_pos_iff.mpr h3
      omega
    unfold Hold
    k_dflt (refine' Calls.useRN (heapify_max_ok _ _ _ _ D' ps _ ((I1, lIt R n.toNat) :: (tl ++ (L' + 1, o1) :: (R, listOf vs.toArray c') :: rest)) hne9 (fun q hq => (hT9 q hq).mono fun p hp => .tail _ (List.mem_append_left _ hp)) (by omega)) ?zB ?zF ?zX ?zN ?zT ?zk ?zd ?zu ?_)
    case zB => k_asm
    case zF => k_asm
    case zX => k_asm
    case zN => k_asm
    case zT => k_asm
    case zk => rfl
    case zd => ktr_room
    case zu => ktr_units
    intro h' tk' F' N'
    have hpm := heapFrom_perm (lt := ltMax) (d := d0) (ps.length / 2) ps (by omega)
    have hhp := heapify_heaped (lt := ltMax) (d := d0) ltMax_strict ps
    generalize heapFrom ltMax d0 (ps.length / 2) ps = qs at *
    have hql : qs.length = n.toNat := hpm.length_eq.trans hpl
    have hTq : ∀ q ∈ qs, TupIn tl q.1 q.2 := fun q hq => hT9 q (hpm.mem_iff.mp hq)
    clear N9 F9
    refine ex2 (p := fun o e => (qs.getD 0 d0).2 = [-e - 1, o, e]) ?hrt (fun o0 e0 hroot => ?_)
    case hrt =>
      have h0 : (qs.getD 0 d0).2 ∈ ps.map Prod.snd := List.mem_map.mpr ⟨_, hpm.mem_iff.mp (getD_mem (by omega)), rfl⟩
      rw [hks9] at h0
      obtain ⟨i, _, hi⟩ := List.mem_map.mp h0
      exact ⟨_, _, hi.symm⟩
    w_strict (k_steps)
    unfold Hold
    refine' pair_item ?zN ?zm ?za ?zb ?zc ?_ ?zs
    (case zN => k_asm)
    (case zm => k_mem)
    (case za => omega)
    (case zb => omega)
    (case zc => omega)
    (case zs => with_unfolding_all rfl)
    w_strict (k_steps)
    unfold Hold
    k_dflt (refine' tup_fst ?zN ?zx hroot ?_ ?zs; (case zN => k_asm); (case zs => (intro _; with_unfolding_all rfl)); (case zx => exact (hTq _ (getD_mem (by omega))).mono fun p hp => .tail _ (.tail _ (List.mem_append_left _ hp))))
    intro t0
    w_strict (k_steps)
    unfold Hold
    (rename Fr _ _ _ _ => F5)
    (rename News _ _ _ _ => N5)
    with_unfolding_all refine' For_invVF F5 ?zk1 ?zk2 ?_
    case zk1 => exact rfl
    case zk2 => exact rfl
    w_strict (k_steps)
    unfold Hold
    have hRI : R ≠ I1 := Nat.ne_of_lt l2.2.1
    refine wpAny_pyIter_listiter (lIt_is (N5 _ (.tail _ (.head _))).1) ?_
    refine for_st (σ := List Item × (Int × Tok) × (Int × Tok) × List (Addr × Obj) × (Str → Option Value)) (Walks.listFrom rfl I1 R hRI vs.toArray n.toNat (by simp; omega))
      (fun m₀ c z => if z = Str.ofString "top" then some (.int c.2.1.1 c.2.1.2) else if z = Str.ofString "order" then some (.int c.2.2.1.1 c.2.2.1.2) else if z = Str.ofString "_order" then c.2.2.2.2 z else if z = Str.ofString "_elem" then c.2.2.2.2 z else if z = Str.ofString "k" then c.2.2.2.2 z else if z = Str.ofString "elem" then c.2.2.2.2 z else m₀ z)
      (fun c => (D', listOf (c.1.map Prod.fst).toArray (ps.map Prod.fst).length) :: (c.2.2.2.1 ++ (L' + 1, o1) :: (R, listOf vs.toArray c') :: rest))
      (fun i c => c.1.length = n.toNat ∧ (∀ q ∈ c.1, TupIn c.2.2.2.1 q.1 q.2) ∧ (∀ p ∈ c.2.2.2.1, I1 < p.1 ∧ p.1 ≠ D') ∧ Heaped ltMax d0 0 c.1 ∧ (∀ q ∈ c.1, ∃ o e, q.2 = [-e - 1, o, e]) ∧ hdK (c.1.getD 0 d0) = c.2.1.1 ∧ Best (· ≤ ·) (c.1.map hdK) ((ns.take (n.toNat + i)).map (fun x : Int => -x - 1)))
      (fun m₀ => (qs, (-e0 - 1, t0), (n, tn), tl, m₀)) F5 N5 ?hLf ?hwr ?hst ?hm ?hl ?hoff ?hJ ?turn ?done
    case hLf =>
      intro hq
      rcases List.mem_cons.mp hq with hq | hq
      · exact Nat.ne_of_lt (Nat.lt_trans (Nat.lt_succ_self _) l2.1) hq
      · exact Nat.ne_of_gt l1.1 (List.mem_singleton.mp hq)
    case hwr =>
      intro b hb
      rw [List.mem_singleton.mp hb]
      exact (N5 _ (.tail _ (.head _))).2.2
    case hst => exact ⟨(N5 _ (.tail _ (.head _))).1, PySem.IsL.isList (n := c') (N5 _ (.tail _ (.tail _ (List.mem_append_right _ (.tail _ (.head _)))))).1⟩
    case hm =>
      intro z
      dsimp only
      by_cases hz0 : z = Str.ofString "order"
      · subst hz0; rfl
      by_cases hz1 : z = Str.ofString "top"
      · subst hz1; rfl
      by_cases hz2 : z = Str.ofString "_order"
      · subst hz2; rfl
      by_cases hz3 : z = Str.ofString "_elem"
      · subst hz3; rfl
      by_cases hz4 : z = Str.ofString "k"
      · subst hz4; rfl
      by_cases hz5 : z = Str.ofString "elem"
      · subst hz5; rfl
      simp only [hz0, hz1, hz2, hz3, hz4, hz5, if_false]
    case hl =>
      intro p hp
      rcases List.mem_cons.mp hp with rfl | hp
      · exact .head _
      · exact .tail _ (.tail _ hp)
    case hoff =>
      rintro i ⟨xs, _, _, tl', _⟩ ⟨_, _, htl, _⟩ p hp hI
      rw [List.mem_singleton] at hI
      rcases List.mem_cons.mp hp with rfl | hp
      · exact hne9 _ (.head _) hI.symm
      rcases List.mem_append.mp hp with hp | hp
      · exact Nat.ne_of_gt (htl p hp).1 hI
      rcases List.mem_cons.mp hp with rfl | hp
      · exact Nat.ne_of_lt l2.1 hI
      rcases List.mem_cons.mp hp with rfl | hp
      · exact Nat.ne_of_lt l2.2.1 hI
      · exact Nat.ne_of_lt (allLt_mem l2.2.2 p hp) hI
    case hJ =>
      refine ⟨hql, hTq, fun p hp => ⟨htl9 p hp, hne9 p (.tail _ (List.mem_append_left _ hp))⟩, hhp, ?_, ?_, ?_⟩
      · intro q hq
        have h0 : q.2 ∈ ps.map Prod.snd := List.mem_map.mpr ⟨_, hpm.mem_iff.mp hq, rfl⟩
        rw [hks9] at h0
        obtain ⟨i, _, hi⟩ := List.mem_map.mp h0
        exact ⟨_, _, hi.symm⟩
      · show List.headD (qs.getD 0 d0).2 0 = -e0 - 1
        rw [hroot]; rfl
      · refine Best.start ((hpm.map hdK).trans ?_)
        have e1 : ps.map hdK = (ps.map Prod.snd).map (fun l => l.headD 0) := by simp [hdK]
        rw [e1, hks9, List.map_map, ← range_take (by omega), List.map_map]
        exact .refl _
    case turn =>
      intro i v
      refine st7 fun xs tp ttp od tod tl' uu => ?_
      intro h9 tk9 own hi hv
      dsimp only
      refine and7 fun hl6 hT6 htl6 hh6 hs6 hr6 hb6 => ?_
      intro hown hall hst9 F6 N6
      have hI0 : g'.get? I1 = none := (N5 _ (.tail _ (.head _))).2.2
      refine ex2 (ints_at (by assumption) hv) fun x tx hx2 => ?_
      obtain ⟨hx, rfl⟩ := hx2
      have N7 : News g' L' h9 ((D', listOf (xs.map Prod.fst).toArray (ps.map Prod.fst).length) :: ((L' + 1, o1) :: (own ++ (tl' ++ (L' + 1, o1) :: (R, listOf vs.toArray c') :: rest)))) := fun p hp => N6 p (by
        rcases List.mem_cons.mp hp with rfl | hp
        · exact List.mem_append_right _ (.head _)
        rcases List.mem_cons.mp hp with rfl | hp
        · exact List.mem_append_right _ (.tail _ (List.mem_append_right _ (.head _)))
        rcases List.mem_append.mp hp with hp | hp
        · exact List.mem_append_left _ hp
        · exact List.mem_append_right _ (.tail _ hp))
      clear N6 N5 F5
      have hne6 : ∀ q ∈ xs, q.2 ≠ [] := fun q hq => by obtain ⟨e, o, h⟩ := hs6 q hq; rw [h]; simp
      w_strict (k_steps)
      unfold Hold
      k_dflt (refine' Calls.useNI (inv_ok _ _ _ _ x tx _) ?zB ?zF ?zX ?zN ?zT ?zk ?zd ?zu ?_)
      case zB => k_asm
      case zF => k_asm
      case zX => k_asm
      case zN => k_asm
      case zT => k_asm
      case zk => rfl
      case zd => ktr_room
      case zu => ktr_units
      intro hk4 tkk tkx Fk Nk
      clear N7 F6
      w_strict (k_steps)
      · rename_i hcmp Tn hn8 Fn Nn ln
        unfold Hold
        have hneD : ∀ q ∈ (Tn, ({ cls := .type "tuple", data := .seq (List.toArray [.int (-x - 1) tkx, .int od tod, .int x tx]) 0 } : Obj)) :: ((L' + 1, o1) :: (own ++ (tl' ++ (L' + 1, o1) :: (R, listOf vs.toArray c') :: rest))), q.1 ≠ D' := by
          intro q hq
          rcases List.mem_cons.mp hq with rfl | hq
          · exact Nat.ne_of_gt ln.1
          rcases List.mem_cons.mp hq with rfl | hq
          · exact hne9 (L' + 1, o1) (.tail _ (List.mem_append_right _ (.head _)))
          rcases List.mem_append.mp hq with hq | hq
          · have := hown q hq
            rcases List.mem_cons.mp this with e | e
            · rw [e]; exact hne9 _ (.head _)
            · rw [List.mem_singleton.mp e]; exact hne9 (R, listOf vs.toArray c') (.tail _ (List.mem_append_right _ (.tail _ (.head _))))
          rcases List.mem_append.mp hq with hq | hq
          · exact (htl6 q hq).2
          · exact hne9 q (.tail _ (List.mem_append_right _ hq))
        have N8 : News g' L' hn8 ((D', listOf (xs.map Prod.fst).toArray (ps.map Prod.fst).length) :: (Tn, ({ cls := .type "tuple", data := .seq (List.toArray [.int (-x - 1) tkx, .int od tod, .int x tx]) 0 } : Obj)) :: ((L' + 1, o1) :: (own ++ (tl' ++ (L' + 1, o1) :: (R, listOf vs.toArray c') :: rest)))) := fun p hp => Nn p (by
          rcases List.mem_cons.mp hp with rfl | hp
          · exact .tail _ (.head _)
          rcases List.mem_cons.mp hp with rfl | hp
          · exact .head _
          · exact .tail _ (.tail _ hp))
        clear Nn
        k_dflt (refine' Calls.useRN (heapreplace_max_ok _ _ _ _ D' xs (.ref Tn, [-x - 1, od, x]) _ _ hneD (fun q hq => (hT6 q hq).mono fun p hp => .tail _ (.tail _ (List.mem_append_right _ (List.mem_append_left _ hp)))) ⟨Tn, _, _, rfl, .head _, .cons _ _ (.cons _ _ (.cons _ _ .nil))⟩ (by omega) (by omega)) ?zB ?zF ?zX ?zN ?zT ?zk ?zd ?zu ?_)
        case zB => k_asm
        case zF => k_asm
        case zX => k_asm
        case zN => k_asm
        case zT => k_asm
        case zk => rfl
        case zd => ktr_room
        case zu => ktr_units
        intro h7 tk7 F7 N7
        have hb7 := rep_best (lt := ltMax) (le := (· ≤ ·)) (x := ((.ref Tn, [-x - 1, od, x]) : Item)) (fun _ _ _ a b => Int.le_trans a b) hb6 (by omega) (max_root hh6 hne6) (by rw [hr6]; show -x - 1 ≤ tp; omega)
        have hh7 := heapRep_heaped (d := d0) ltMax_strict (x := ((.ref Tn, [-x - 1, od, x]) : Item)) (by omega) hh6
        have hp7 : ∀ q ∈ heapRep ltMax d0 xs (.ref Tn, [-x - 1, od, x]), q = (.ref Tn, [-x - 1, od, x]) ∨ q ∈ xs := fun q hq => by
          rcases List.mem_or_eq_of_mem_set ((heapRep_perm (by omega)).mem_iff.mp hq) with h | h
          · exact .inr h
          · exact .inl h
        have hl7 : (heapRep ltMax d0 xs (.ref Tn, [-x - 1, od, x])).length = n.toNat := by rw [(heapRep_perm (by omega)).length_eq, List.length_set]; exact hl6
        generalize heapRep ltMax d0 xs (.ref Tn, [-x - 1, od, x]) = ys at *
        clear N8
        have hs7 : ∀ q ∈ ys, ∃ o e, q.2 = [-e - 1, o, e] := fun q hq => by
          rcases hp7 q hq with rfl | h
          · exact ⟨_, _, rfl⟩
          · exact hs6 q h
        have hT7 : ∀ q ∈ ys, TupIn ((Tn, ({ cls := .type "tuple", data := .seq (List.toArray [.int (-x - 1) tkx, .int od tod, .int x tx]) 0 } : Obj)) :: tl') q.1 q.2 := fun q hq => by
          rcases hp7 q hq with rfl | h
          · exact ⟨Tn, _, _, rfl, .head _, .cons _ _ (.cons _ _ (.cons _ _ .nil))⟩
          · exact (hT6 q h).mono fun p hp => .tail _ hp
        refine ex2 (hs7 _ (getD_mem (i := 0) (by omega))) (fun o7 e7 hroot7 => ?_)
        w_strict (k_steps)
        unfold Hold
        refine' pair_item ?zN ?zm ?za ?zb ?zc ?_ ?zs
        (case zN => k_asm)
        (case zm => k_mem)
        (case za => omega)
        (case zb => omega)
        (case zc => omega)
        (case zs => with_unfolding_all rfl)
        w_strict (k_steps)
        unfold Hold
        k_dflt (refine' tup_unpack3 (news := (D', listOf (ys.map Prod.fst).toArray (ps.map Prod.fst).length) :: (Tn, ({ cls := .type "tuple", data := .seq (List.toArray [.int (-x - 1) tkx, .int od tod, .int x tx]) 0 } : Obj)) :: ((L' + 1, o1) :: (own ++ (tl' ++ (L' + 1, o1) :: (R, listOf vs.toArray c') :: rest)))) ?zF ?zN ?zx hroot7 ?zh ?za ?zb ?zc ?zp ?_; (case zF => k_asm); (case zN => k_asm); (case zh => rfl); (case za => rfl); (case zb => rfl); (case zc => rfl); (case zp => rfl))
        case zx =>
          refine (hT7 _ (getD_mem (i := 0) (by omega))).mono fun p hp => ?_
          rcases List.mem_cons.mp hp with rfl | hp
          · exact .tail _ (.head _)
          · exact .tail _ (.tail _ (.tail _ (List.mem_append_right _ (List.mem_append_left _ hp))))
        intro h8 tk8 t1 t2 t3 F8 N8
        clear N7 F7
        w_strict (k_steps)
        (rename Fr _ _ _ _ => F10)
        (rename News _ _ _ _ => N10)
        refine ForEnd.intro' (fun m' => (ys, (-e7 - 1, t1), (od + 1, ?tt), (Tn, ({ cls := .type "tuple", data := .seq (List.toArray [.int (-x - 1) tkx, .int od tod, .int x tx]) 0 } : Obj)) :: tl', m')) F10 N10 ?hm ?hn ?ho ?hJ
        case hm =>
          intro z
          dsimp only
          by_cases hz0 : z = Str.ofString "order"
          · subst hz0; rfl
          by_cases hz1 : z = Str.ofString "top"
          · subst hz1; rfl
          by_cases hz2 : z = Str.ofString "_order"
          · subst hz2; rfl
          by_cases hz3 : z = Str.ofString "_elem"
          · subst hz3; rfl
          by_cases hz4 : z = Str.ofString "k"
          · subst hz4; rfl
          by_cases hz5 : z = Str.ofString "elem"
          · subst hz5; rfl
          simp only [hz0, hz1, hz2, hz3, hz4, hz5, if_false]
        case hn =>
          intro p hp
          rcases List.mem_cons.mp hp with rfl | hp
          · exact .head _
          rcases List.mem_cons.mp hp with rfl | hp
          · exact .tail _ (.head _)
          · exact .tail _ (.tail _ (.tail _ (List.mem_append_right _ hp)))
        case ho => exact fun p hp => .tail _ (.tail _ (.tail _ (List.mem_append_left _ hp)))
        case hJ =>
          refine ⟨hl7, hT7, fun p hp => ?_, hh7, hs7, ?_, ?_⟩
          · rcases List.mem_cons.mp hp with rfl | hp
            · exact ⟨allLt_mem ln.2.2 (I1, lIt R (n.toNat + (i + 1))) ((List.mem_append_left _ (hall I1 (.head _) hI0 _ hst9.1))), Nat.ne_of_gt ln.1⟩
            · exact htl6 p hp
          · show List.headD (ys.getD 0 d0).2 0 = -e7 - 1
            rw [hroot7]; rfl
          · show Best (· ≤ ·) (ys.map hdK) ((ns.take (n.toNat + i + 1)).map (fun x : Int => -x - 1))
            rw [take_snoc hx, List.map_append]
            exact hb7
      · rename_i hcmp
        (rename Fr _ _ _ _ => F10)
        (rename News _ _ _ _ => N10)
        refine ForEnd.intro' (fun m' => (xs, (tp, ttp), (od, tod), tl', m')) F10 N10 ?hm ?hn ?ho ?hJ
        case hm =>
          intro z
          dsimp only
          by_cases hz0 : z = Str.ofString "order"
          · subst hz0; rfl
          by_cases hz1 : z = Str.ofString "top"
          · subst hz1; rfl
          by_cases hz2 : z = Str.ofString "_order"
          · subst hz2; rfl
          by_cases hz3 : z = Str.ofString "_elem"
          · subst hz3; rfl
          by_cases hz4 : z = Str.ofString "k"
          · subst hz4; rfl
          by_cases hz5 : z = Str.ofString "elem"
          · subst hz5; rfl
          simp only [hz0, hz1, hz2, hz3, hz4, hz5, if_false]
        case hn =>
          intro p hp
          rcases List.mem_cons.mp hp with rfl | hp
          · exact .head _
          · exact .tail _ (.tail _ (List.mem_append_right _ hp))
        case ho => exact fun p hp => .tail _ (.tail _ (List.mem_append_left _ hp))
        case hJ =>
          refine ⟨hl6, hT6, htl6, hh6, hs6, hr6, ?_⟩
          show Best (· ≤ ·) (xs.map hdK) ((ns.take (n.toNat + i + 1)).map (fun x : Int => -x - 1))
          rw [take_snoc hx, List.map_append]
          exact Best.skip (le := (· ≤ ·)) (fun _ _ _ a b => Int.le_trans a b) (r := tp) hb6 (fun y hy => by have := max_root hh6 hne6 y hy; rw [hr6] at this; exact this) (by (try dsimp only); omega)
    case done =>
      refine st7 fun xs tp ttp od tod tl' uu => ?_
      intro h9 tk9
      dsimp only
      refine and7 fun hl6 hT6 htl6 hh6 hs6 hr6 hb6 => ?_
      intro F6 N6
      clear N5 F5
      have hne6 : ∀ q ∈ xs, q.2 ≠ [] := fun q hq => by obtain ⟨e, o, h⟩ := hs6 q hq; rw [h]; simp
      w_strict (k_steps)
      unfold Hold
      k_dflt (refine' pair_sort (D := D') (xs := xs) (n := (ps.map Prod.fst).length) (rest := tl' ++ (L' + 1, o1) :: (R, listOf vs.toArray c') :: rest) (b := false) (kw := []) ?zF ?zN ?zne ?zT hne6 ?z2 ?z64 ?zt ?za ?_; (case zF => k_asm); (case zN => k_asm); (case z2 => omega); (case z64 => omega); (case zt => exact srt_1 _); (case za => exact args_list_sort _))
      case zT => exact fun q hq => (hT6 q hq).mono fun p hp => List.mem_append_left _ hp
      case zne =>
        intro q hq
        rcases List.mem_append.mp hq with hq | hq
        · exact (htl6 q hq).2
        · exact hne9 q (.tail _ (List.mem_append_right _ hq))
      intro ys cy h7 hpm7 hpw7 F7 N7
      clear N6 F6
      w_strict (k_steps)
      unfold Hold
      k_dflt (refine' comp_eval [Str.ofString "k", Str.ofString "order", Str.ofString "elem"] ?zF ?zcl ?zce ?zki ?znm ?zx ?_ ?zhs; (case zF => k_asm); (case zcl => with_unfolding_all rfl); (case zce => decide); (case zki => rfl); (case znm => decide); (case zx => decide); (case zhs => (intro _; with_unfolding_all rfl)))
      w_strict (k_steps)
      have hs7 : ∀ q ∈ ys, ∃ o e, q.2 = [-e - 1, o, e] := fun q hq => hs6 q (hpm7.mem_iff.mp hq)
      k_dflt (refine' tup_block (xs := ys) (nps := [(Str.ofString "k", _), (Str.ofString "order", _), (Str.ofString "elem", _)]) 2 ?zh ?zk ?zx ?zd ?zj ?zjl F7 N7 ?zT ?zlen ?zl ?_; (case zh => rfl); (case zk => rfl); (case zx => rfl); (case zd => decide); (case zjl => decide))
      case zT => exact fun q hq => (hT6 q (hpm7.mem_iff.mp hq)).mono fun p hp => List.mem_append_left _ hp
      case zlen => exact fun q hq => by obtain ⟨e, o, h⟩ := hs7 q hq; rw [h]; rfl
      case zl => rw [hpm7.length_eq]; omega
      case zj =>
        intro vs h
        match vs, h with
        | [a, b, c], _ => rfl
      intro D2 h8 tk8 vs' F8 N8 hne8 hi8
      clear N7 F7
      w_strict (k_steps)
      (rename Fr _ _ _ _ => F10)
      (rename News _ _ _ _ => N10)
      have e8 : (ys.map fun q => q.2.getD 2 0).map (fun x : Int => -x - 1) = ys.map hdK := by
        rw [List.map_map]
        refine List.map_congr_left fun q hq => ?_
        obtain ⟨o, e, h⟩ := hs7 q hq
        show -(q.2.getD 2 0) - 1 = q.2.headD 0
        rw [h]; rfl
      have hne7 : ∀ q ∈ ys, q.2 ≠ [] := fun q hq => hne6 q (hpm7.mem_iff.mp hq)
      refine hret _ _ _ _ F10 (fun p hp => N10 p ?_) ⟨D2, vs', _, rfl, rfl, hi8, sel_key (leK := (· ≤ ·)) (f := (fun x : Int => -x - 1)) (fi := (fun x : Int => -x - 1)) (fun x => by (try dsimp only); omega) (fun x y h => by (try dsimp only at h ⊢); omega) ?_ ?_ ?_⟩
      · rcases List.mem_cons.mp hp with rfl | hp
        · exact .head _
        · exact .tail _ (.tail _ (List.mem_append_right _ (.tail _ hp)))
      · rw [List.length_map, hpm7.length_eq]; omega
      · rw [e8]; exact sorted_hd (by simpa using hpw7) hne7
      · have e9 : n.toNat + (vs.toArray.size - n.toNat) = ns.length := by simp; omega
        rw [e9, List.take_length] at hb6
        rw [e8]
        exact hb6.perm (hpm7.map hdK)
end
end Mine
end

section
open PySem PySem.W PyProof.Rows PyProof.Rows.LCg
set_option Elab.async false
set_option pp.maxSteps 20000
set_option pp.deepTerms false
set_option pp.deepTerms.threshold 6
namespace Mine
section
local macro_rules | `(tactic| walk_at "call ref") => `(tactic| (refine Hold.mk ?_))
local macro_rules | `(tactic| walk_at "call builtin:iter") => `(tactic| (refine Hold.mk ?_))
local macro_rules | `(tactic| walk_at "call builtin:len") => `(tactic| ((with_reducible show wpAny _ _ (call (Value.builtin _) [Value.ref _]) _ _ _); refine' list_len ?N ?m ?c ?_; (case N => k_asm); (case m => k_mem); (case c => assumption)))
local macro_rules | `(tactic| walk_at "exec Assign cons ListComp") => `(tactic| (refine Hold.mk ?_))
local macro_rules | `(tactic| walk_at "subscriptTail") => `(tactic| (refine Hold.mk ?_))
local macro_rules | `(tactic| walk_at "pyIter ref") => `(tactic| (refine Hold.mk ?_))
local macro_rules | `(tactic| walk_at "exec For Name Name cons nil") => `(tactic| (refine Hold.mk ?_))
local macro_rules | `(tactic| walk_at "ForPost") => `(tactic| (dsimp only [ForPost]))
local macro_rules | `(tactic| walk_at "assign Tuple") => `(tactic| (refine Hold.mk ?_))
local macro_rules | `(tactic| walk_at "call builtin:list.sort") => `(tactic| (refine Hold.mk ?_))
local macro_rules | `(tactic| walk_at "eval ListComp") => `(tactic| (refine Hold.mk ?_))
local macro_rules | `(tactic| walk_at "call type:zip") => `(tactic| (refine Hold.mk ?_))
set_option maxRecDepth 100000 in
set_option maxHeartbeats 8000000 in
theorem nlg_heap (w mean mg mb) (R : Addr) (vs : List Value) (ns : List Int) (c' : Nat) (n : Int) (tn : Tok) (rest) (hI : IntsAre vs ns) (hl : vs.length = 32) (h0 : -1 ≤ n) (h1 : n ≠ 1) (h2 : n < 32) :
    CallsK w mean mg mb 82 [.int n tn, .ref R] [] 6 ((R, listOf vs.toArray c') :: rest)
      (fun r news' => ∃ D2 vs' out, r = .ref D2 ∧ news' = (D2, listOf (List.toArray vs') vs'.length) :: (R, listOf vs.toArray c') :: rest ∧ IntsAre vs' out ∧ Sel (fun x y : Int => x ≥ y) n.toNat ns out) := by
  unfold CallsK
  k_fill
  intro dp un gd cn cs a ccd cl outer A₀ base h₀ L m s Q E B F X N T hk hd hu hret
  w_on
  w_strict (
  refine wpAny_call ?_
  k_dflt (refine' code_defC ?k1 ?k2 ?k3 ?k4 ?k5 ?kA ?kF ?kK ?k6 ?k7 ?k8 ?k9 ?kB ?kD ?_ ?c2 ?c3 ?c4; (case kA => exact rfl); (case kF => exact rfl); (case kK => assumption); (case k1 => k_asm); (case k2 => k_asm); (case k3 => k_asm); (case k4 => k_asm); (case k5 => k_asm); (case k6 => k_is); (case k7 => k_is); (case k8 => ktr_room); (case k9 => exact binds_K (by k_in) rfl (by k_is) rfl rfl rfl); (case kB => exact rfl); (case kD => decide +kernel); (case c2 => exact rfl); (case c3 => exact rfl); (case c4 => exact rfl); k_whole; intro g' L' h' tk' cells' FG' F' N' Y' B' X' T' l1; (try k_lt l1); (have hY := CellsAre.one Y'); obtain ⟨o1, hE1, d1⟩ := hY; subst hE1; clear Y'; (try simp only [List.cons_append, List.nil_append] at N'); (try dsimp only); (try k_fold))
  k_steps)
  · exact absurd (by assumption : n = 1) h1
  unfold Hold
  k_dflt (refine' list_iter ?zF ?zN ?zm ?_; (case zF => k_asm); (case zN => k_asm); (case zm => k_mem))
  intro I1 hh2 F2 N2 l2
  (try k_lt l2)
  w_strict (k_steps)
  unfold Hold
  k_dflt (refine' comp_assign [Str.ofString "i", Str.ofString "elem"] ?zF ?zL ?zsw ?zcl ?zce ?zki ?znm ?zx ?zy ?zp ?_ ?zhs; (case zF => k_asm); (case zL => rfl); (case zsw => with_unfolding_all rfl); (case zcl => with_unfolding_all rfl); (case zce => decide); (case zki => rfl); (case znm => decide); (case zx => decide); (case zy => rfl); (case zp => rfl); (case zhs => (intro _; with_unfolding_all rfl)))
  w_strict (k_steps)
  unfold Hold
  k_dflt (refine' zip_range (n.toNat : Int) ?zF ?zN ?zr ?zm ?zs ?ze ?_; (case zF => k_asm); (case zN => k_asm); (case zr => assumption); (case zm => k_mem); (case zs => exact small_down (by omega) (by omega)); (case ze => exact size_toNatD _))
  intro z' TI' TO' i1' h3 F3 N3 l3 l4 l5
  (try k_lt l3)
  k_dflt (refine' zip_block (n := n.toNat) (R := R) (vs := vs) (ns := ns) (c := c') (fun x o => [x, o]) ?hh ?hab F3 N3 ?hb ?hlt ?hL ?hR ?hI hl ?hn ?turn ?done)
  case hh => rfl
  case hab => decide
  case hn => omega
  case hI => assumption
  case hR => exact .tail _ (.head _)
  case hb =>
    intro p hp
    rcases List.mem_cons.mp hp with rfl | hp
    · exact l2.1
    rcases List.mem_cons.mp hp with rfl | hp
    · exact l2.2.1
    · exact allLt_mem l2.2.2 p hp
  case hlt => exact ⟨l3.1, l4⟩
  case hL => exact Nat.lt_trans (Nat.lt_succ_self _) l2.1
  case turn =>
    intro i x hi hx
    unfold MakesTup
    intro t tx own tl C oC D' m₂ ys h tk' E' hoC ha hb F4 N4
    clear N3 F3
    w_strict (k_steps)
    exact TupEnd.intro (vals := [_, _]) (by assumption) (by assumption) (.cons _ _ (.cons _ _ .nil)) (by assumption)
  case done =>
    intro D' h9 tk9 ps tl F9 N9 hne9 hT9 htl9 hks9
    have hnl := IntsAre.length (by assumption : IntsAre vs ns)
    have hpl : ps.length = n.toNat := by have := congrArg List.length hks9; simpa using this
    w_strict (k_steps)
    · (rename List.isEmpty _ = true => he)
      simp only [List.isEmpty_iff, List.map_eq_nil_iff] at he
      subst he
      (rename Fr _ _ _ _ => F10)
      (rename News _ _ _ _ => N10)
      have hn0 : n.toNat = 0 := by simpa using hpl.symm
      refine hret _ _ _ _ F10 (fun p hp => N10 p ?_) ⟨D', [], [], rfl, rfl, .nil, ?_⟩
      · rcases List.mem_cons.mp hp with rfl | hp
        · exact .head _
        · exact .tail _ (.tail _ (List.mem_append_right _ (.tail _ hp)))
      · rw [hn0]; exact sel_nil _ _
    (rename List.isEmpty _ = false => hemp)
    have hn2 : 2 ≤ n.toNat := by
      have h3 : ps ≠ [] := by intro e; rw [e] at hemp; cases hemp
      have h4 : 0 < ps.length := List.length_pos_iff.mpr h3
      omega
    unfold Hold
    k_dflt (refine' Calls.useRN (heapify_ok _ _ _ _ D' ps _ ((I1, lIt R n.toNat) :: (tl ++ (L' + 1, o1) :: (R, listOf vs.toArray c') :: rest)) hne9 (fun q hq => (hT9 q hq).mono fun p hp => .tail _ (List.mem_append_left _ hp)) (by omega)) ?zB ?zF ?zX ?zN ?zT ?zk ?zd ?zu ?_)
    case zB => k_asm
    case zF => k_asm
    case zX => k_asm
    case zN => k_asm
    case zT => k_asm
    case zk => rfl
    case zd => ktr_room
    case zu => ktr_units
    intro h' tk' F' N'
    have hpm := heapFrom_perm (lt := ltMin) (d := d0) (ps.length / 2) ps (by omega)
    have hhp := heapify_heaped (lt := ltMin) (d := d0) ltMin_strict ps
    generalize heapFrom ltMin d0 (ps.length / 2) ps = qs at *
    have hql : qs.length = n.toNat := hpm.length_eq.trans hpl
    have hTq : ∀ q ∈ qs, TupIn tl q.1 q.2 := fun q hq => hT9 q (hpm.mem_iff.mp hq)
    clear N9 F9
    refine ex2 (p := fun e o => (qs.getD 0 d0).2 = [e, o]) ?hrt (fun e0 o0 hroot => ?_)
    case hrt =>
      have h0 : (qs.getD 0 d0).2 ∈ ps.map Prod.snd := List.mem_map.mpr ⟨_, hpm.mem_iff.mp (getD_mem (by omega)), rfl⟩
      rw [hks9] at h0
      obtain ⟨i, _, hi⟩ := List.mem_map.mp h0
      exact ⟨_, _, hi.symm⟩
    w_strict (k_steps)
    unfold Hold
    refine' pair_item ?zN ?zm ?za ?zb ?zc ?_ ?zs
    (case zN => k_asm)
    (case zm => k_mem)
    (case za => omega)
    (case zb => omega)
    (case zc => omega)
    (case zs => with_unfolding_all rfl)
    w_strict (k_steps)
    unfold Hold
    k_dflt (refine' tup_fst ?zN ?zx hroot ?_ ?zs; (case zN => k_asm); (case zs => (intro _; with_unfolding_all rfl)); (case zx => exact (hTq _ (getD_mem (by omega))).mono fun p hp => .tail _ (.tail _ (List.mem_append_left _ hp))))
    intro t0
    w_strict (k_steps)
    unfold Hold
    (rename Fr _ _ _ _ => F5)
    (rename News _ _ _ _ => N5)
    with_unfolding_all refine' For_invVF F5 ?zk1 ?zk2 ?_
    case zk1 => exact rfl
    case zk2 => exact rfl
    w_strict (k_steps)
    unfold Hold
    have hRI : R ≠ I1 := Nat.ne_of_lt l2.2.1
    refine wpAny_pyIter_listiter (lIt_is (N5 _ (.tail _ (.head _))).1) ?_
    refine for_st (σ := List Item × (Int × Tok) × (Int × Tok) × List (Addr × Obj) × (Str → Option Value)) (Walks.listFrom rfl I1 R hRI vs.toArray n.toNat (by simp; omega))
      (fun m₀ c z => if z = Str.ofString "top" then some (.int c.2.1.1 c.2.1.2) else if z = Str.ofString "order" then some (.int c.2.2.1.1 c.2.2.1.2) else if z = Str.ofString "_order" then c.2.2.2.2 z else if z = Str.ofString "elem" then c.2.2.2.2 z else m₀ z)
      (fun c => (D', listOf (c.1.map Prod.fst).toArray (ps.map Prod.fst).length) :: (c.2.2.2.1 ++ (L' + 1, o1) :: (R, listOf vs.toArray c') :: rest))
      (fun i c => c.1.length = n.toNat ∧ (∀ q ∈ c.1, TupIn c.2.2.2.1 q.1 q.2) ∧ (∀ p ∈ c.2.2.2.1, I1 < p.1 ∧ p.1 ≠ D') ∧ Heaped ltMin d0 0 c.1 ∧ (∀ q ∈ c.1, ∃ e o, q.2 = [e, o]) ∧ hdK (c.1.getD 0 d0) = c.2.1.1 ∧ Best (fun x y : Int => x ≥ y) (c.1.map hdK) (ns.take (n.toNat + i)))
      (fun m₀ => (qs, (e0, t0), (-n, ?to), tl, m₀)) F5 N5 ?hLf ?hwr ?hst ?hm ?hl ?hoff ?hJ ?turn ?done
    case hLf =>
      intro hq
      rcases List.mem_cons.mp hq with hq | hq
      · exact Nat.ne_of_lt (Nat.lt_trans (Nat.lt_succ_self _) l2.1) hq
      · exact Nat.ne_of_gt l1.1 (List.mem_singleton.mp hq)
    case hwr =>
      intro b hb
      rw [List.mem_singleton.mp hb]
      exact (N5 _ (.tail _ (.head _))).2.2
    case hst => exact ⟨(N5 _ (.tail _ (.head _))).1, PySem.IsL.isList (n := c') (N5 _ (.tail _ (.tail _ (List.mem_append_right _ (.tail _ (.head _)))))).1⟩
    case hm =>
      intro z
      dsimp only
      by_cases hz0 : z = Str.ofString "order"
      · subst hz0; rfl
      by_cases hz1 : z = Str.ofString "top"
      · subst hz1; rfl
      by_cases hz2 : z = Str.ofString "_order"
      · subst hz2; rfl
      by_cases hz3 : z = Str.ofString "elem"
      · subst hz3; rfl
      simp only [hz0, hz1, hz2, hz3, if_false]
    case hl =>
      intro p hp
      rcases List.mem_cons.mp hp with rfl | hp
      · exact .head _
      · exact .tail _ (.tail _ hp)
    case hoff =>
      rintro i ⟨xs, _, _, tl', _⟩ ⟨_, _, htl, _⟩ p hp hI
      rw [List.mem_singleton] at hI
      rcases List.mem_cons.mp hp with rfl | hp
      · exact hne9 _ (.head _) hI.symm
      rcases List.mem_append.mp hp with hp | hp
      · exact Nat.ne_of_gt (htl p hp).1 hI
      rcases List.mem_cons.mp hp with rfl | hp
      · exact Nat.ne_of_lt l2.1 hI
      rcases List.mem_cons.mp hp with rfl | hp
      · exact Nat.ne_of_lt l2.2.1 hI
      · exact Nat.ne_of_lt (allLt_mem l2.2.2 p hp) hI
    case hJ =>
      refine ⟨hql, hTq, fun p hp => ⟨htl9 p hp, hne9 p (.tail _ (List.mem_append_left _ hp))⟩, hhp, ?_, ?_, ?_⟩
      · intro q hq
        have h0 : q.2 ∈ ps.map Prod.snd := List.mem_map.mpr ⟨_, hpm.mem_iff.mp hq, rfl⟩
        rw [hks9] at h0
        obtain ⟨i, _, hi⟩ := List.mem_map.mp h0
        exact ⟨_, _, hi.symm⟩
      · show List.headD (qs.getD 0 d0).2 0 = e0
        rw [hroot]; rfl
      · refine Best.start ((hpm.map hdK).trans ?_)
        have e1 : ps.map hdK = (ps.map Prod.snd).map (fun l => l.headD 0) := by simp [hdK]
        rw [e1, hks9, List.map_map]
        show List.Perm ((List.range n.toNat).map (fun i => ns.getD i 0)) _
        rw [range_take (by omega)]
        exact .refl _
    case turn =>
      intro i v
      refine st7 fun xs tp ttp od tod tl' uu => ?_
      intro h9 tk9 own hi hv
      dsimp only
      refine and7 fun hl6 hT6 htl6 hh6 hs6 hr6 hb6 => ?_
      intro hown hall hst9 F6 N6
      have hI0 : g'.get? I1 = none := (N5 _ (.tail _ (.head _))).2.2
      refine ex2 (ints_at (by assumption) hv) fun x tx hx2 => ?_
      obtain ⟨hx, rfl⟩ := hx2
      have N7 : News g' L' h9 ((D', listOf (xs.map Prod.fst).toArray (ps.map Prod.fst).length) :: (own ++ (tl' ++ (L' + 1, o1) :: (R, listOf vs.toArray c') :: rest))) := fun p hp => N6 p (by
        rcases List.mem_cons.mp hp with rfl | hp
        · exact List.mem_append_right _ (.head _)
        rcases List.mem_append.mp hp with hp | hp
        · exact List.mem_append_left _ hp
        · exact List.mem_append_right _ (.tail _ hp))
      clear N6 N5 F5
      have hne6 : ∀ q ∈ xs, q.2 ≠ [] := fun q hq => by obtain ⟨e, o, h⟩ := hs6 q hq; rw [h]; simp
      w_strict (k_steps)
      · rename_i hcmp Tn hn8 Fn Nn ln
        unfold Hold
        have hneD : ∀ q ∈ (Tn, ({ cls := .type "tuple", data := .seq (List.toArray [.int x tx, .int od tod]) 0 } : Obj)) :: (own ++ (tl' ++ (L' + 1, o1) :: (R, listOf vs.toArray c') :: rest)), q.1 ≠ D' := by
          intro q hq
          rcases List.mem_cons.mp hq with rfl | hq
          · exact Nat.ne_of_gt ln.1
          rcases List.mem_append.mp hq with hq | hq
          · have := hown q hq
            rcases List.mem_cons.mp this with e | e
            · rw [e]; exact hne9 _ (.head _)
            · rw [List.mem_singleton.mp e]; exact hne9 (R, listOf vs.toArray c') (.tail _ (List.mem_append_right _ (.tail _ (.head _))))
          rcases List.mem_append.mp hq with hq | hq
          · exact (htl6 q hq).2
          · exact hne9 q (.tail _ (List.mem_append_right _ hq))
        have N8 : News g' L' hn8 ((D', listOf (xs.map Prod.fst).toArray (ps.map Prod.fst).length) :: (Tn, ({ cls := .type "tuple", data := .seq (List.toArray [.int x tx, .int od tod]) 0 } : Obj)) :: (own ++ (tl' ++ (L' + 1, o1) :: (R, listOf vs.toArray c') :: rest))) := fun p hp => Nn p (by
          rcases List.mem_cons.mp hp with rfl | hp
          · exact .tail _ (.head _)
          rcases List.mem_cons.mp hp with rfl | hp
          · exact .head _
          · exact .tail _ (.tail _ hp))
        clear Nn
        k_dflt (refine' Calls.useRN (heapreplace_ok _ _ _ _ D' xs (.ref Tn, [x, od]) _ _ hneD (fun q hq => (hT6 q hq).mono fun p hp => .tail _ ((List.mem_append_right _ (List.mem_append_left _ hp)))) ⟨Tn, _, _, rfl, .head _, .cons _ _ (.cons _ _ .nil)⟩ (by omega) (by omega)) ?zB ?zF ?zX ?zN ?zT ?zk ?zd ?zu ?_)
        case zB => k_asm
        case zF => k_asm
        case zX => k_asm
        case zN => k_asm
        case zT => k_asm
        case zk => rfl
        case zd => ktr_room
        case zu => ktr_units
        intro h7 tk7 F7 N7
        have hb7 := rep_best (lt := ltMin) (le := (fun x y : Int => x ≥ y)) (x := ((.ref Tn, [x, od]) : Item)) (fun _ _ _ a b => Int.le_trans b a) hb6 (by omega) (min_root hh6 hne6) (by rw [hr6]; show x ≥ tp; omega)
        have hh7 := heapRep_heaped (d := d0) ltMin_strict (x := ((.ref Tn, [x, od]) : Item)) (by omega) hh6
        have hp7 : ∀ q ∈ heapRep ltMin d0 xs (.ref Tn, [x, od]), q = (.ref Tn, [x, od]) ∨ q ∈ xs := fun q hq => by
          rcases List.mem_or_eq_of_mem_set ((heapRep_perm (by omega)).mem_iff.mp hq) with h | h
          · exact .inr h
          · exact .inl h
        have hl7 : (heapRep ltMin d0 xs (.ref Tn, [x, od])).length = n.toNat := by rw [(heapRep_perm (by omega)).length_eq, List.length_set]; exact hl6
        generalize heapRep ltMin d0 xs (.ref Tn, [x, od]) = ys at *
        clear N8
        have hs7 : ∀ q ∈ ys, ∃ e o, q.2 = [e, o] := fun q hq => by
          rcases hp7 q hq with rfl | h
          · exact ⟨_, _, rfl⟩
          · exact hs6 q h
        have hT7 : ∀ q ∈ ys, TupIn ((Tn, ({ cls := .type "tuple", data := .seq (List.toArray [.int x tx, .int od tod]) 0 } : Obj)) :: tl') q.1 q.2 := fun q hq => by
          rcases hp7 q hq with rfl | h
          · exact ⟨Tn, _, _, rfl, .head _, .cons _ _ (.cons _ _ .nil)⟩
          · exact (hT6 q h).mono fun p hp => .tail _ hp
        refine ex2 (hs7 _ (getD_mem (i := 0) (by omega))) (fun e7 o7 hroot7 => ?_)
        w_strict (k_steps)
        unfold Hold
        refine' pair_item ?zN ?zm ?za ?zb ?zc ?_ ?zs
        (case zN => k_asm)
        (case zm => k_mem)
        (case za => omega)
        (case zb => omega)
        (case zc => omega)
        (case zs => with_unfolding_all rfl)
        w_strict (k_steps)
        unfold Hold
        k_dflt (refine' tup_unpack2 (news := (D', listOf (ys.map Prod.fst).toArray (ps.map Prod.fst).length) :: (Tn, ({ cls := .type "tuple", data := .seq (List.toArray [.int x tx, .int od tod]) 0 } : Obj)) :: (own ++ (tl' ++ (L' + 1, o1) :: (R, listOf vs.toArray c') :: rest))) ?zF ?zN ?zx hroot7 ?zh ?za ?zb ?zp ?_; (case zF => k_asm); (case zN => k_asm); (case zh => rfl); (case za => rfl); (case zb => rfl); (case zp => rfl))
        case zx =>
          refine (hT7 _ (getD_mem (i := 0) (by omega))).mono fun p hp => ?_
          rcases List.mem_cons.mp hp with rfl | hp
          · exact .tail _ (.head _)
          · exact .tail _ (.tail _ ((List.mem_append_right _ (List.mem_append_left _ hp))))
        intro h8 tk8 t1 t2 F8 N8
        clear N7 F7
        w_strict (k_steps)
        (rename Fr _ _ _ _ => F10)
        (rename News _ _ _ _ => N10)
        refine ForEnd.intro' (fun m' => (ys, (e7, t1), (od - 1, ?tt), (Tn, ({ cls := .type "tuple", data := .seq (List.toArray [.int x tx, .int od tod]) 0 } : Obj)) :: tl', m')) F10 N10 ?hm ?hn ?ho ?hJ
        case hm =>
          intro z
          dsimp only
          by_cases hz0 : z = Str.ofString "order"
          · subst hz0; rfl
          by_cases hz1 : z = Str.ofString "top"
          · subst hz1; rfl
          by_cases hz2 : z = Str.ofString "_order"
          · subst hz2; rfl
          by_cases hz3 : z = Str.ofString "elem"
          · subst hz3; rfl
          simp only [hz0, hz1, hz2, hz3, if_false]
        case hn =>
          intro p hp
          rcases List.mem_cons.mp hp with rfl | hp
          · exact .head _
          rcases List.mem_cons.mp hp with rfl | hp
          · exact .tail _ (.head _)
          · exact .tail _ (.tail _ ((List.mem_append_right _ hp)))
        case ho => exact fun p hp => .tail _ (.tail _ ((List.mem_append_left _ hp)))
        case hJ =>
          refine ⟨hl7, hT7, fun p hp => ?_, hh7, hs7, ?_, ?_⟩
          · rcases List.mem_cons.mp hp with rfl | hp
            · exact ⟨allLt_mem ln.2 (I1, lIt R (n.toNat + (i + 1))) ((List.mem_append_left _ (hall I1 (.head _) hI0 _ hst9.1))), Nat.ne_of_gt ln.1⟩
            · exact htl6 p hp
          · show List.headD (ys.getD 0 d0).2 0 = e7
            rw [hroot7]; rfl
          · show Best (fun x y : Int => x ≥ y) (ys.map hdK) (ns.take (n.toNat + i + 1))
            rw [take_snoc hx]
            exact hb7
      · rename_i hcmp
        (rename Fr _ _ _ _ => F10)
        (rename News _ _ _ _ => N10)
        refine ForEnd.intro' (fun m' => (xs, (tp, ttp), (od, tod), tl', m')) F10 N10 ?hm ?hn ?ho ?hJ
        case hm =>
          intro z
          dsimp only
          by_cases hz0 : z = Str.ofString "order"
          · subst hz0; rfl
          by_cases hz1 : z = Str.ofString "top"
          · subst hz1; rfl
          by_cases hz2 : z = Str.ofString "_order"
          · subst hz2; rfl
          by_cases hz3 : z = Str.ofString "elem"
          · subst hz3; rfl
          simp only [hz0, hz1, hz2, hz3, if_false]
        case hn =>
          intro p hp
          rcases List.mem_cons.mp hp with rfl | hp
          · exact .head _
          · exact .tail _ ((List.mem_append_right _ hp))
        case ho => exact fun p hp => .tail _ ((List.mem_append_left _ hp))
        case hJ =>
          refine ⟨hl6, hT6, htl6, hh6, hs6, hr6, ?_⟩
          show Best (fun x y : Int => x ≥ y) (xs.map hdK) (ns.take (n.toNat + i + 1))
          rw [take_snoc hx]
          exact Best.skip (le := (fun x y : Int => x ≥ y)) (fun _ _ _ a b => Int.le_trans b a) (r := tp) hb6 (fun y hy => by have := min_root hh6 hne6 y hy; rw [hr6] at this; exact this) (by (try dsimp only); omega)
    case done =>
      refine st7 fun xs tp ttp od tod tl' uu => ?_
      intro h9 tk9
      dsimp only
      refine and7 fun hl6 hT6 htl6 hh6 hs6 hr6 hb6 => ?_
      intro F6 N6
      clear N5 F5
      have hne6 : ∀ q ∈ xs, q.2 ≠ [] := fun q hq => by obtain ⟨e, o, h⟩ := hs6 q hq; rw [h]; simp
      w_strict (k_steps)
      dsimp only
      refine callWith_self_kw ?_
      w_strict (k_steps)
      unfold Hold
      k_dflt (refine' pair_sort (D := D') (xs := xs) (n := (ps.map Prod.fst).length) (rest := tl' ++ (L' + 1, o1) :: (R, listOf vs.toArray c') :: rest) (b := true) (kw := [(Str.ofString "reverse", .bool true)]) ?zF ?zN ?zne ?zT hne6 ?z2 ?z64 ?zt ?za ?_; (case zF => k_asm); (case zN => k_asm); (case z2 => omega); (case z64 => omega); (case zt => exact srt_2 _ _); (case za => exact args_list_sort_rev _ _))
      case zT => exact fun q hq => (hT6 q hq).mono fun p hp => List.mem_append_left _ hp
      case zne =>
        intro q hq
        rcases List.mem_append.mp hq with hq | hq
        · exact (htl6 q hq).2
        · exact hne9 q (.tail _ (List.mem_append_right _ hq))
      intro ys cy h7 hpm7 hpw7 F7 N7
      clear N6 F6
      w_strict (k_steps)
      unfold Hold
      k_dflt (refine' comp_eval [Str.ofString "elem", Str.ofString "order"] ?zF ?zcl ?zce ?zki ?znm ?zx ?_ ?zhs; (case zF => k_asm); (case zcl => with_unfolding_all rfl); (case zce => decide); (case zki => rfl); (case znm => decide); (case zx => decide); (case zhs => (intro _; with_unfolding_all rfl)))
      w_strict (k_steps)
      have hs7 : ∀ q ∈ ys, ∃ e o, q.2 = [e, o] := fun q hq => hs6 q (hpm7.mem_iff.mp hq)
      k_dflt (refine' tup_block (xs := ys) (nps := [(Str.ofString "elem", _), (Str.ofString "order", _)]) 0 ?zh ?zk ?zx ?zd ?zj ?zjl F7 N7 ?zT ?zlen ?zl ?_; (case zh => rfl); (case zk => rfl); (case zx => rfl); (case zd => decide); (case zjl => decide))
      case zT => exact fun q hq => (hT6 q (hpm7.mem_iff.mp hq)).mono fun p hp => List.mem_append_left _ hp
      case zlen => exact fun q hq => by obtain ⟨e, o, h⟩ := hs7 q hq; rw [h]; rfl
      case zl => rw [hpm7.length_eq]; omega
      case zj =>
        intro vs h
        match vs, h with
        | [a, b], _ => rfl
      intro D2 h8 tk8 vs' F8 N8 hne8 hi8
      clear N7 F7
      w_strict (k_steps)
      (rename Fr _ _ _ _ => F10)
      (rename News _ _ _ _ => N10)
      have e8 : (ys.map fun q => q.2.getD 0 0) = ys.map hdK := List.map_congr_left fun q hq => by
        obtain ⟨e, o, h⟩ := hs7 q hq
        show q.2.getD 0 0 = q.2.headD 0
        rw [h]; rfl
      rw [e8] at hi8
      have hne7 : ∀ q ∈ ys, q.2 ≠ [] := fun q hq => hne6 q (hpm7.mem_iff.mp hq)
      refine hret _ _ _ _ F10 (fun p hp => N10 p ?_) ⟨D2, vs', _, rfl, rfl, hi8, ?_, ?_, ?_⟩
      · rcases List.mem_cons.mp hp with rfl | hp
        · exact .head _
        · exact .tail _ (.tail _ (List.mem_append_right _ (.tail _ hp)))
      · rw [List.length_map, hpm7.length_eq]; omega
      · exact sorted_hdR (by simpa using hpw7) hne7
      · have e9 : n.toNat + (vs.toArray.size - n.toNat) = ns.length := by simp; omega
        rw [e9, List.take_length] at hb6
        exact hb6.perm (hpm7.map hdK)
end
end Mine
end

section
open PySem PySem.W PyProof.Rows PyProof.Rows.LCg
set_option Elab.async false
set_option pp.maxSteps 20000
set_option pp.deepTerms false
set_option pp.deepTerms.threshold 6
namespace Mine
section
local macro_rules | `(tactic| walk_at "call ref") => `(tactic| (refine Hold.mk ?_))
local macro_rules | `(tactic| walk_at "call builtin:iter") => `(tactic| (refine Hold.mk ?_))
local macro_rules | `(tactic| walk_at "call builtin:len") => `(tactic| ((with_reducible show wpAny _ _ (call (Value.builtin _) [Value.ref _]) _ _ _); refine' list_len ?N ?m ?c ?_; (case N => k_asm); (case m => k_mem); (case c => assumption)))
local macro_rules | `(tactic| walk_at "exec Assign cons ListComp") => `(tactic| (refine Hold.mk ?_))
local macro_rules | `(tactic| walk_at "subscriptTail") => `(tactic| (refine Hold.mk ?_))
local macro_rules | `(tactic| walk_at "pyIter ref") => `(tactic| (refine Hold.mk ?_))
local macro_rules | `(tactic| walk_at "exec For Name Name cons nil") => `(tactic| (refine Hold.mk ?_))
local macro_rules | `(tactic| walk_at "ForPost") => `(tactic| (dsimp only [ForPost]))
local macro_rules | `(tactic| walk_at "assign Tuple") => `(tactic| (refine Hold.mk ?_))
local macro_rules | `(tactic| walk_at "call builtin:list.sort") => `(tactic| (refine Hold.mk ?_))
local macro_rules | `(tactic| walk_at "eval ListComp") => `(tactic| (refine Hold.mk ?_))
local macro_rules | `(tactic| walk_at "call type:zip") => `(tactic| (refine Hold.mk ?_))
set_option maxRecDepth 100000 in
set_option maxHeartbeats 8000000 in
theorem nlgK_heap (w mean mg mb) (R : Addr) (vs : List Value) (ns : List Int) (c' : Nat) (n : Int) (tn : Tok) (rest) (hI : IntsAre vs ns) (hl : vs.length = 32) (h0 : -1 ≤ n) (h1 : n ≠ 1) (h2 : n < 32) :
    CallsK w mean mg mb 82 [.int n tn, .ref R] [(Str.ofString "key", .ref 103)] 6 ((R, listOf vs.toArray c') :: rest)
      (fun r news' => ∃ D2 vs' out, r = .ref D2 ∧ news' = (D2, listOf (List.toArray vs') vs'.length) :: (R, listOf vs.toArray c') :: rest ∧ IntsAre vs' out ∧ Sel (· ≤ ·) n.toNat ns out) := by
  unfold CallsK
  k_fill
  intro dp un gd cn cs a ccd cl outer A₀ base h₀ L m s Q E B F X N T hk hd hu hret
  w_on
  w_strict (
  refine wpAny_call ?_
  k_dflt (refine' code_defC ?k1 ?k2 ?k3 ?k4 ?k5 ?kA ?kF ?kK ?k6 ?k7 ?k8 ?k9 ?kB ?kD ?_ ?c2 ?c3 ?c4; (case kA => exact rfl); (case kF => exact rfl); (case kK => assumption); (case k1 => k_asm); (case k2 => k_asm); (case k3 => k_asm); (case k4 => k_asm); (case k5 => k_asm); (case k6 => k_is); (case k7 => k_is); (case k8 => ktr_room); (case k9 => exact binds_K (by k_in) rfl (by k_is) rfl rfl rfl); (case kB => exact rfl); (case kD => decide +kernel); (case c2 => exact rfl); (case c3 => exact rfl); (case c4 => exact rfl); k_whole; intro g' L' h' tk' cells' FG' F' N' Y' B' X' T' l1; (try k_lt l1); (have hY := CellsAre.one Y'); obtain ⟨o1, hE1, d1⟩ := hY; subst hE1; clear Y'; (try simp only [List.cons_append, List.nil_append] at N'); (try dsimp only); (try k_fold))
  k_steps)
  · exact absurd (by assumption : n = 1) h1
  unfold Hold
  k_dflt (refine' list_iter ?zF ?zN ?zm ?_; (case zF => k_asm); (case zN => k_asm); (case zm => k_mem))
  intro I1 hh2 F2 N2 l2
  (try k_lt l2)
  w_strict (k_steps)
  unfold Hold
  k_dflt (refine' comp_assign [Str.ofString "i", Str.ofString "elem"] ?zF ?zL ?zsw ?zcl ?zce ?zki ?znm ?zx ?zy ?zp ?_ ?zhs; (case zF => k_asm); (case zL => rfl); (case zsw => with_unfolding_all rfl); (case zcl => with_unfolding_all rfl); (case zce => decide); (case zki => rfl); (case znm => decide); (case zx => decide); (case zy => rfl); (case zp => rfl); (case zhs => (intro _; with_unfolding_all rfl)))
  w_strict (k_steps)
  unfold Hold
  k_dflt (refine' zip_range (n.toNat : Int) ?zF ?zN ?zr ?zm ?zs ?ze ?_; (case zF => k_asm); (case zN => k_asm); (case zr => assumption); (case zm => k_mem); (case zs => exact small_down (by omega) (by omega)); (case ze => exact size_toNatD _))
  intro z' TI' TO' i1' h3 F3 N3 l3 l4 l5
  (try k_lt l3)
  k_dflt (refine' zip_block (n := n.toNat) (R := R) (vs := vs) (ns := ns) (c := c') (fun x o => [-x, o, x]) ?hh ?hab F3 N3 ?hb ?hlt ?hL ?hR ?hI hl ?hn ?turn ?done)
  case hh => rfl
  case hab => decide
  case hn => omega
  case hI => assumption
  case hR => exact .tail _ (.head _)
  case hb =>
    intro p hp
    rcases List.mem_cons.mp hp with rfl | hp
    · exact l2.1
    rcases List.mem_cons.mp hp with rfl | hp
    · exact l2.2.1
    · exact allLt_mem l2.2.2 p hp
  case hlt => exact ⟨l3.1, l4⟩
  case hL => exact Nat.lt_trans (Nat.lt_succ_self _) l2.1
  case turn =>
    intro i x hi hx
    unfold MakesTup
    intro t tx own tl C oC D' m₂ ys h tk' E' hoC ha hb F4 N4
    clear N3 F3
    w_strict (k_steps)
    unfold Hold
    k_dflt (refine' Calls.useNI (neg_ok _ _ _ _ x tx _) ?zB ?zF ?zX ?zN ?zT ?zk ?zd ?zu ?_)
    case zB => k_asm
    case zF => k_asm
    case zX => k_asm
    case zN => k_asm
    case zT => k_asm
    case zk => rfl
    case zd => ktr_room
    case zu => ktr_units
    intro hk4 tkk tkx Fk Nk
    clear N4 F4
    w_strict (k_steps)
    exact TupEnd.intro (vals := [_, _, _]) (by assumption) (by assumption) (.cons _ _ (.cons _ _ (.cons _ _ .nil))) (by assumption)
  case done =>
    intro D' h9 tk9 ps tl F9 N9 hne9 hT9 htl9 hks9
    have hnl := IntsAre.length (by assumption : IntsAre vs ns)
    have hpl : ps.length = n.toNat := by have := congrArg List.length hks9; simpa using this
    w_strict (k_steps)
    · (rename List.isEmpty _ = true => he)
      simp only [List.isEmpty_iff, List.map_eq_nil_iff] at he
      subst he
      (rename Fr _ _ _ _ => F10)
      (rename News _ _ _ _ => N10)
      have hn0 : n.toNat = 0 := by simpa using hpl.symm
      refine hret _ _ _ _ F10 (fun p hp => N10 p ?_) ⟨D', [], [], rfl, rfl, .nil, ?_⟩
      · rcases List.mem_cons.mp hp with rfl | hp
        · exact .head _
        · exact .tail _ (.tail _ (List.mem_append_right _ (.tail _ hp)))
      · rw [hn0]; exact sel_nil _ _
    (rename List.isEmpty _ = false => hemp)
    have hn2 : 2 ≤ n.toNat := by
      have h3 : ps ≠ [] := by intro e; rw [e] at hemp; cases hemp
      have h4 : 0 < ps.length := List.length_pos_iff.mpr h3
      omega
    unfold Hold
    k_dflt (refine' Calls.useRN (heapify_ok _ _ _ _ D' ps _ ((I1, lIt R n.toNat) :: (tl ++ (L' + 1, o1) :: (R, listOf vs.toArray c') :: rest)) hne9 (fun q hq => (hT9 q hq).mono fun p hp => .tail _ (List.mem_append_left _ hp)) (by omega)) ?zB ?zF ?zX ?zN ?zT ?zk ?zd ?zu ?_)
    case zB => k_asm
    case zF => k_asm
    case zX => k_asm
    case zN => k_asm
    case zT => k_asm
    case zk => rfl
    case zd => ktr_room
    case zu => ktr_units
    intro h' tk' F' N'
    have hpm := heapFrom_perm (lt := ltMin) (d := d0) (ps.length / 2) ps (by omega)
    have hhp := heapify_heaped (lt := ltMin) (d := d0) ltMin_strict ps
    generalize heapFrom ltMin d0 (ps.length / 2) ps = qs at *
    have hql : qs.length = n.toNat := hpm.length_eq.trans hpl
    have hTq : ∀ q ∈ qs, TupIn tl q.1 q.2 := fun q hq => hT9 q (hpm.mem_iff.mp hq)
    clear N9 F9
    refine ex2 (p := fun o e => (qs.getD 0 d0).2 = [-e, o, e]) ?hrt (fun o0 e0 hroot => ?_)
    case hrt =>
      have h0 : (qs.getD 0 d0).2 ∈ ps.map Prod.snd := List.mem_map.mpr ⟨_, hpm.mem_iff.mp (getD_mem (by omega)), rfl⟩
      rw [hks9] at h0
      obtain ⟨i, _, hi⟩ := List.mem_map.mp h0
      exact ⟨_, _, hi.symm⟩
    w_strict (k_steps)
    unfold Hold
    refine' pair_item ?zN ?zm ?za ?zb ?zc ?_ ?zs
    (case zN => k_asm)
    (case zm => k_mem)
    (case za => omega)
    (case zb => omega)
    (case zc => omega)
    (case zs => with_unfolding_all rfl)
    w_strict (k_steps)
    unfold Hold
    k_dflt (refine' tup_fst ?zN ?zx hroot ?_ ?zs; (case zN => k_asm); (case zs => (intro _; with_unfolding_all rfl)); (case zx => exact (hTq _ (getD_mem (by omega))).mono fun p hp => .tail _ (.tail _ (List.mem_append_left _ hp))))
    intro t0
    w_strict (k_steps)
    unfold Hold
    (rename Fr _ _ _ _ => F5)
    (rename News _ _ _ _ => N5)
    with_unfolding_all refine' For_invVF F5 ?zk1 ?zk2 ?_
    case zk1 => exact rfl
    case zk2 => exact rfl
    w_strict (k_steps)
    unfold Hold
    have hRI : R ≠ I1 := Nat.ne_of_lt l2.2.1
    refine wpAny_pyIter_listiter (lIt_is (N5 _ (.tail _ (.head _))).1) ?_
    refine for_st (σ := List Item × (Int × Tok) × (Int × Tok) × List (Addr × Obj) × (Str → Option Value)) (Walks.listFrom rfl I1 R hRI vs.toArray n.toNat (by simp; omega))
      (fun m₀ c z => if z = Str.ofString "top" then some (.int c.2.1.1 c.2.1.2) else if z = Str.ofString "order" then some (.int c.2.2.1.1 c.2.2.1.2) else if z = Str.ofString "_order" then c.2.2.2.2 z else if z = Str.ofString "_elem" then c.2.2.2.2 z else if z = Str.ofString "k" then c.2.2.2.2 z else if z = Str.ofString "elem" then c.2.2.2.2 z else m₀ z)
      (fun c => (D', listOf (c.1.map Prod.fst).toArray (ps.map Prod.fst).length) :: (c.2.2.2.1 ++ (L' + 1, o1) :: (R, listOf vs.toArray c') :: rest))
      (fun i c => c.1.length = n.toNat ∧ (∀ q ∈ c.1, TupIn c.2.2.2.1 q.1 q.2) ∧ (∀ p ∈ c.2.2.2.1, I1 < p.1 ∧ p.1 ≠ D') ∧ Heaped ltMin d0 0 c.1 ∧ (∀ q ∈ c.1, ∃ o e, q.2 = [-e, o, e]) ∧ hdK (c.1.getD 0 d0) = c.2.1.1 ∧ Best (fun x y : Int => x ≥ y) (c.1.map hdK) ((ns.take (n.toNat + i)).map (fun x : Int => -x)))
      (fun m₀ => (qs, (-e0, t0), (-n, ?to), tl, m₀)) F5 N5 ?hLf ?hwr ?hst ?hm ?hl ?hoff ?hJ ?turn ?done
    case hLf =>
      intro hq
      rcases List.mem_cons.mp hq with hq | hq
      · exact Nat.ne_of_lt (Nat.lt_trans (Nat.lt_succ_self _) l2.1) hq
      · exact Nat.ne_of_gt l1.1 (List.mem_singleton.mp hq)
    case hwr =>
      intro b hb
      rw [List.mem_singleton.mp hb]
      exact (N5 _ (.tail _ (.head _))).2.2
    case hst => exact ⟨(N5 _ (.tail _ (.head _))).1, PySem.IsL.isList (n := c') (N5 _ (.tail _ (.tail _ (List.mem_append_right _ (.tail _ (.head _)))))).1⟩
    case hm =>
      intro z
      dsimp only
      by_cases hz0 : z = Str.ofString "order"
      · subst hz0; rfl
      by_cases hz1 : z = Str.ofString "top"
      · subst hz1; rfl
      by_cases hz2 : z = Str.ofString "_order"
      · subst hz2; rfl
      by_cases hz3 : z = Str.ofString "_elem"
      · subst hz3; rfl
      by_cases hz4 : z = Str.ofString "k"
      · subst hz4; rfl
      by_cases hz5 : z = Str.ofString "elem"
      · subst hz5; rfl
      simp only [hz0, hz1, hz2, hz3, hz4, hz5, if_false]
    case hl =>
      intro p hp
      rcases List.mem_cons.mp hp with rfl | hp
      · exact .head _
      · exact .tail _ (.tail _ hp)
    case hoff =>
      rintro i ⟨xs, _, _, tl', _⟩ ⟨_, _, htl, _⟩ p hp hI
      rw [List.mem_singleton] at hI
      rcases List.mem_cons.mp hp with rfl | hp
      · exact hne9 _ (.head _) hI.symm
      rcases List.mem_append.mp hp with hp | hp
      · exact Nat.ne_of_gt (htl p hp).1 hI
      rcases List.mem_cons.mp hp with rfl | hp
      · exact Nat.ne_of_lt l2.1 hI
      rcases List.mem_cons.mp hp with rfl | hp
      · exact Nat.ne_of_lt l2.2.1 hI
      · exact Nat.ne_of_lt (allLt_mem l2.2.2 p hp) hI
    case hJ =>
      refine ⟨hql, hTq, fun p hp => ⟨htl9 p hp, hne9 p (.tail _ (List.mem_append_left _ hp))⟩, hhp, ?_, ?_, ?_⟩
      · intro q hq
        have h0 : q.2 ∈ ps.map Prod.snd := List.mem_map.mpr ⟨_, hpm.mem_iff.mp hq, rfl⟩
        rw [hks9] at h0
        obtain ⟨i, _, hi⟩ := List.mem_map.mp h0
        exact ⟨_, _, hi.symm⟩
      · show List.headD (qs.getD 0 d0).2 0 = -e0
        rw [hroot]; rfl
      · refine Best.start ((hpm.map hdK).trans ?_)
        have e1 : ps.map hdK = (ps.map Prod.snd).map (fun l => l.headD 0) := by simp [hdK]
        rw [e1, hks9, List.map_map, ← range_take (by omega), List.map_map]
        exact .refl _
    case turn =>
      intro i v
      refine st7 fun xs tp ttp od tod tl' uu => ?_
      intro h9 tk9 own hi hv
      dsimp only
      refine and7 fun hl6 hT6 htl6 hh6 hs6 hr6 hb6 => ?_
      intro hown hall hst9 F6 N6
      have hI0 : g'.get? I1 = none := (N5 _ (.tail _ (.head _))).2.2
      refine ex2 (ints_at (by assumption) hv) fun x tx hx2 => ?_
      obtain ⟨hx, rfl⟩ := hx2
      have N7 : News g' L' h9 ((D', listOf (xs.map Prod.fst).toArray (ps.map Prod.fst).length) :: ((L' + 1, o1) :: (own ++ (tl' ++ (L' + 1, o1) :: (R, listOf vs.toArray c') :: rest)))) := fun p hp => N6 p (by
        rcases List.mem_cons.mp hp with rfl | hp
        · exact List.mem_append_right _ (.head _)
        rcases List.mem_cons.mp hp with rfl | hp
        · exact List.mem_append_right _ (.tail _ (List.mem_append_right _ (.head _)))
        rcases List.mem_append.mp hp with hp | hp
        · exact List.mem_append_left _ hp
        · exact List.mem_append_right _ (.tail _ hp))
      clear N6 N5 F5
      have hne6 : ∀ q ∈ xs, q.2 ≠ [] := fun q hq => by obtain ⟨e, o, h⟩ := hs6 q hq; rw [h]; simp
      w_strict (k_steps)
      unfold Hold
      k_dflt (refine' Calls.useNI (neg_ok _ _ _ _ x tx _) ?zB ?zF ?zX ?zN ?zT ?zk ?zd ?zu ?_)
      case zB => k_asm
      case zF => k_asm
      case zX => k_asm
      case zN => k_asm
      case zT => k_asm
      case zk => rfl
      case zd => ktr_room
      case zu => ktr_units
      intro hk4 tkk tkx Fk Nk
      clear N7 F6
      w_strict (k_steps)
      · rename_i hcmp Tn hn8 Fn Nn ln
        unfold Hold
        have hneD : ∀ q ∈ (Tn, ({ cls := .type "tuple", data := .seq (List.toArray [.int (-x) tkx, .int od tod, .int x tx]) 0 } : Obj)) :: ((L' + 1, o1) :: (own ++ (tl' ++ (L' + 1, o1) :: (R, listOf vs.toArray c') :: rest))), q.1 ≠ D' := by
          intro q hq
          rcases List.mem_cons.mp hq with rfl | hq
          · exact Nat.ne_of_gt ln.1
          rcases List.mem_cons.mp hq with rfl | hq
          · exact hne9 (L' + 1, o1) (.tail _ (List.mem_append_right _ (.head _)))
          rcases List.mem_append.mp hq with hq | hq
          · have := hown q hq
            rcases List.mem_cons.mp this with e | e
            · rw [e]; exact hne9 _ (.head _)
            · rw [List.mem_singleton.mp e]; exact hne9 (R, listOf vs.toArray c') (.tail _ (List.mem_append_right _ (.tail _ (.head _))))
          rcases List.mem_append.mp hq with hq | hq
          · exact (htl6 q hq).2
          · exact hne9 q (.tail _ (List.mem_append_right _ hq))
        have N8 : News g' L' hn8 ((D', listOf (xs.map Prod.fst).toArray (ps.map Prod.fst).length) :: (Tn, ({ cls := .type "tuple", data := .seq (List.toArray [.int (-x) tkx, .int od tod, .int x tx]) 0 } : Obj)) :: ((L' + 1, o1) :: (own ++ (tl' ++ (L' + 1, o1) :: (R, listOf vs.toArray c') :: rest)))) := fun p hp => Nn p (by
          rcases List.mem_cons.mp hp with rfl | hp
          · exact .tail _ (.head _)
          rcases List.mem_cons.mp hp with rfl | hp
          · exact .head _
          · exact .tail _ (.tail _ hp))
        clear Nn
        k_dflt (refine' Calls.useRN (heapreplace_ok _ _ _ _ D' xs (.ref Tn, [-x, od, x]) _ _ hneD (fun q hq => (hT6 q hq).mono fun p hp => .tail _ (.tail _ (List.mem_append_right _ (List.mem_append_left _ hp)))) ⟨Tn, _, _, rfl, .head _, .cons _ _ (.cons _ _ (.cons _ _ .nil))⟩ (by omega) (by omega)) ?zB ?zF ?zX ?zN ?zT ?zk ?zd ?zu ?_)
        case zB => k_asm
        case zF => k_asm
        case zX => k_asm
        case zN => k_asm
        case zT => k_asm
        case zk => rfl
        case zd => ktr_room
        case zu => ktr_units
        intro h7 tk7 F7 N7
        have hb7 := rep_best (lt := ltMin) (le := (fun x y : Int => x ≥ y)) (x := ((.ref Tn, [-x, od, x]) : Item)) (fun _ _ _ a b => Int.le_trans b a) hb6 (by omega) (min_root hh6 hne6) (by rw [hr6]; show -x ≥ tp; omega)
        have hh7 := heapRep_heaped (d := d0) ltMin_strict (x := ((.ref Tn, [-x, od, x]) : Item)) (by omega) hh6
        have hp7 : ∀ q ∈ heapRep ltMin d0 xs (.ref Tn, [-x, od, x]), q = (.ref Tn, [-x, od, x]) ∨ q ∈ xs := fun q hq => by
          rcases List.mem_or_eq_of_mem_set ((heapRep_perm (by omega)).mem_iff.mp hq) with h | h
          · exact .inr h
          · exact .inl h
        have hl7 : (heapRep ltMin d0 xs (.ref Tn, [-x, od, x])).length = n.toNat := by rw [(heapRep_perm (by omega)).length_eq, List.length_set]; exact hl6
        generalize heapRep ltMin d0 xs (.ref Tn, [-x, od, x]) = ys at *
        clear N8
        have hs7 : ∀ q ∈ ys, ∃ o e, q.2 = [-e, o, e] := fun q hq => by
          rcases hp7 q hq with rfl | h
          · exact ⟨_, _, rfl⟩
          · exact hs6 q h
        have hT7 : ∀ q ∈ ys, TupIn ((Tn, ({ cls := .type "tuple", data := .seq (List.toArray [.int (-x) tkx, .int od tod, .int x tx]) 0 } : Obj)) :: tl') q.1 q.2 := fun q hq => by
          rcases hp7 q hq with rfl | h
          · exact ⟨Tn, _, _, rfl, .head _, .cons _ _ (.cons _ _ (.cons _ _ .nil))⟩
          · exact (hT6 q h).mono fun p hp => .tail _ hp
        refine ex2 (hs7 _ (getD_mem (i := 0) (by omega))) (fun o7 e7 hroot7 => ?_)
        w_strict (k_steps)
        unfold Hold
        refine' pair_item ?zN ?zm ?za ?zb ?zc ?_ ?zs
        (case zN => k_asm)
        (case zm => k_mem)
        (case za => omega)
        (case zb => omega)
        (case zc => omega)
        (case zs => with_unfolding_all rfl)
        w_strict (k_steps)
        unfold Hold
        k_dflt (refine' tup_unpack3 (news := (D', listOf (ys.map Prod.fst).toArray (ps.map Prod.fst).length) :: (Tn, ({ cls := .type "tuple", data := .seq (List.toArray [.int (-x) tkx, .int od tod, .int x tx]) 0 } : Obj)) :: ((L' + 1, o1) :: (own ++ (tl' ++ (L' + 1, o1) :: (R, listOf vs.toArray c') :: rest)))) ?zF ?zN ?zx hroot7 ?zh ?za ?zb ?zc ?zp ?_; (case zF => k_asm); (case zN => k_asm); (case zh => rfl); (case za => rfl); (case zb => rfl); (case zc => rfl); (case zp => rfl))
        case zx =>
          refine (hT7 _ (getD_mem (i := 0) (by omega))).mono fun p hp => ?_
          rcases List.mem_cons.mp hp with rfl | hp
          · exact .tail _ (.head _)
          · exact .tail _ (.tail _ (.tail _ (List.mem_append_right _ (List.mem_append_left _ hp))))
        intro h8 tk8 t1 t2 t3 F8 N8
        clear N7 F7
        w_strict (k_steps)
        (rename Fr _ _ _ _ => F10)
        (rename News _ _ _ _ => N10)
        refine ForEnd.intro' (fun m' => (ys, (-e7, t1), (od - 1, ?tt), (Tn, ({ cls := .type "tuple", data := .seq (List.toArray [.int (-x) tkx, .int od tod, .int x tx]) 0 } : Obj)) :: tl', m')) F10 N10 ?hm ?hn ?ho ?hJ
        case hm =>
          intro z
          dsimp only
          by_cases hz0 : z = Str.ofString "order"
          · subst hz0; rfl
          by_cases hz1 : z = Str.ofString "top"
          · subst hz1; rfl
          by_cases hz2 : z = Str.ofString "_order"
          · subst hz2; rfl
          by_cases hz3 : z = Str.ofString "_elem"
          · subst hz3; rfl
          by_cases hz4 : z = Str.ofString "k"
          · subst hz4; rfl
          by_cases hz5 : z = Str.ofString "elem"
          · subst hz5; rfl
          simp only [hz0, hz1, hz2, hz3, hz4, hz5, if_false]
        case hn =>
          intro p hp
          rcases List.mem_cons.mp hp with rfl | hp
          · exact .head _
          rcases List.mem_cons.mp hp with rfl | hp
          · exact .tail _ (.head _)
          · exact .tail _ (.tail _ (.tail _ (List.mem_append_right _ hp)))
        case ho => exact fun p hp => .tail _ (.tail _ (.tail _ (List.mem_append_left _ hp)))
        case hJ =>
          refine ⟨hl7, hT7, fun p hp => ?_, hh7, hs7, ?_, ?_⟩
          · rcases List.mem_cons.mp hp with rfl | hp
            · exact ⟨allLt_mem ln.2.2 (I1, lIt R (n.toNat + (i + 1))) ((List.mem_append_left _ (hall I1 (.head _) hI0 _ hst9.1))), Nat.ne_of_gt ln.1⟩
            · exact htl6 p hp
          · show List.headD (ys.getD 0 d0).2 0 = -e7
            rw [hroot7]; rfl
          · show Best (fun x y : Int => x ≥ y) (ys.map hdK) ((ns.take (n.toNat + i + 1)).map (fun x : Int => -x))
            rw [take_snoc hx, List.map_append]
            exact hb7
      · rename_i hcmp
        (rename Fr _ _ _ _ => F10)
        (rename News _ _ _ _ => N10)
        refine ForEnd.intro' (fun m' => (xs, (tp, ttp), (od, tod), tl', m')) F10 N10 ?hm ?hn ?ho ?hJ
        case hm =>
          intro z
          dsimp only
          by_cases hz0 : z = Str.ofString "order"
          · subst hz0; rfl
          by_cases hz1 : z = Str.ofString "top"
          · subst hz1; rfl
          by_cases hz2 : z = Str.ofString "_order"
          · subst hz2; rfl
          by_cases hz3 : z = Str.ofString "_elem"
          · subst hz3; rfl
          by_cases hz4 : z = Str.ofString "k"
          · subst hz4; rfl
          by_cases hz5 : z = Str.ofString "elem"
          · subst hz5; rfl
          simp only [hz0, hz1, hz2, hz3, hz4, hz5, if_false]
        case hn =>
          intro p hp
          rcases List.mem_cons.mp hp with rfl | hp
          · exact .head _
          · exact .tail _ (.tail _ (List.mem_append_right _ hp))
        case ho => exact fun p hp => .tail _ (.tail _ (List.mem_append_left _ hp))
        case hJ =>
          refine ⟨hl6, hT6, htl6, hh6, hs6, hr6, ?_⟩
          show Best (fun x y : Int => x ≥ y) (xs.map hdK) ((ns.take (n.toNat + i + 1)).map (fun x : Int => -x))
          rw [take_snoc hx, List.map_append]
          exact Best.skip (le := (fun x y : Int => x ≥ y)) (fun _ _ _ a b => Int.le_trans b a) (r := tp) hb6 (fun y hy => by have := min_root hh6 hne6 y hy; rw [hr6] at this; exact this) (by (try dsimp only); omega)
    case done =>
      refine st7 fun xs tp ttp od tod tl' uu => ?_
      intro h9 tk9
      dsimp only
      refine and7 fun hl6 hT6 htl6 hh6 hs6 hr6 hb6 => ?_
      intro F6 N6
      clear N5 F5
      have hne6 : ∀ q ∈ xs, q.2 ≠ [] := fun q hq => by obtain ⟨e, o, h⟩ := hs6 q hq; rw [h]; simp
      w_strict (k_steps)
      dsimp only
      refine callWith_self_kw ?_
      w_strict (k_steps)
      unfold Hold
      k_dflt (refine' pair_sort (D := D') (xs := xs) (n := (ps.map Prod.fst).length) (rest := tl' ++ (L' + 1, o1) :: (R, listOf vs.toArray c') :: rest) (b := true) (kw := [(Str.ofString "reverse", .bool true)]) ?zF ?zN ?zne ?zT hne6 ?z2 ?z64 ?zt ?za ?_; (case zF => k_asm); (case zN => k_asm); (case z2 => omega); (case z64 => omega); (case zt => exact srt_2 _ _); (case za => exact args_list_sort_rev _ _))
      case zT => exact fun q hq => (hT6 q hq).mono fun p hp => List.mem_append_left _ hp
      case zne =>
        intro q hq
        rcases List.mem_append.mp hq with hq | hq
        · exact (htl6 q hq).2
        · exact hne9 q (.tail _ (List.mem_append_right _ hq))
      intro ys cy h7 hpm7 hpw7 F7 N7
      clear N6 F6
      w_strict (k_steps)
      unfold Hold
      k_dflt (refine' comp_eval [Str.ofString "k", Str.ofString "order", Str.ofString "elem"] ?zF ?zcl ?zce ?zki ?znm ?zx ?_ ?zhs; (case zF => k_asm); (case zcl => with_unfolding_all rfl); (case zce => decide); (case zki => rfl); (case znm => decide); (case zx => decide); (case zhs => (intro _; with_unfolding_all rfl)))
      w_strict (k_steps)
      have hs7 : ∀ q ∈ ys, ∃ o e, q.2 = [-e, o, e] := fun q hq => hs6 q (hpm7.mem_iff.mp hq)
      k_dflt (refine' tup_block (xs := ys) (nps := [(Str.ofString "k", _), (Str.ofString "order", _), (Str.ofString "elem", _)]) 2 ?zh ?zk ?zx ?zd ?zj ?zjl F7 N7 ?zT ?zlen ?zl ?_; (case zh => rfl); (case zk => rfl); (case zx => rfl); (case zd => decide); (case zjl => decide))
      case zT => exact fun q hq => (hT6 q (hpm7.mem_iff.mp hq)).mono fun p hp => List.mem_append_left _ hp
      case zlen => exact fun q hq => by obtain ⟨e, o, h⟩ := hs7 q hq; rw [h]; rfl
      case zl => rw [hpm7.length_eq]; omega
      case zj =>
        intro vs h
        match vs, h with
        | [a, b, c], _ => rfl
      intro D2 h8 tk8 vs' F8 N8 hne8 hi8
      clear N7 F7
      w_strict (k_steps)
      (rename Fr _ _ _ _ => F10)
      (rename News _ _ _ _ => N10)
      have e8 : (ys.map fun q => q.2.getD 2 0).map (fun x : Int => -x) = ys.map hdK := by
        rw [List.map_map]
        refine List.map_congr_left fun q hq => ?_
        obtain ⟨o, e, h⟩ := hs7 q hq
        show -(q.2.getD 2 0) = q.2.headD 0
        rw [h]; rfl
      have hne7 : ∀ q ∈ ys, q.2 ≠ [] := fun q hq => hne6 q (hpm7.mem_iff.mp hq)
      refine hret _ _ _ _ F10 (fun p hp => N10 p ?_) ⟨D2, vs', _, rfl, rfl, hi8, sel_key (leK := (fun x y : Int => x ≥ y)) (f := (fun x : Int => -x)) (fi := (fun x : Int => -x)) (fun x => by (try dsimp only); omega) (fun x y h => by (try dsimp only at h ⊢); omega) ?_ ?_ ?_⟩
      · rcases List.mem_cons.mp hp with rfl | hp
        · exact .head _
        · exact .tail _ (.tail _ (List.mem_append_right _ (.tail _ hp)))
      · rw [List.length_map, hpm7.length_eq]; omega
      · rw [e8]; exact sorted_hdR (by simpa using hpw7) hne7
      · have e9 : n.toNat + (vs.toArray.size - n.toNat) = ns.length := by simp; omega
        rw [e9, List.take_length] at hb6
        rw [e8]
        exact hb6.perm (hpm7.map hdK)
end
end Mine
end

section
open PySem PySem.W PyProof.Rows PyProof.Rows.LCg
set_option Elab.async false
set_option pp.maxSteps 20000
set_option pp.deepTerms false
set_option pp.deepTerms.threshold 6
namespace Mine
theorem sel_all {le : Int → Int → Prop} {k : Nat} {ns out : List Int} (h : ns.length ≤ k) (hp : out.Perm ns) (hs : out.Pairwise le) : Sel le k ns (out.take k) := by
  have hl := hp.length_eq
  rw [List.take_of_length_le (by omega)]
  exact ⟨by omega, hs, Best.start hp⟩
theorem sel_one {le : Int → Int → Prop} {ns : List Int} {M : Int} (hm : M ∈ ns) (hb : ∀ a ∈ ns, le M a) : Sel le 1 ns [M] := by
  obtain ⟨l1, l2, rfl⟩ := List.append_of_mem hm
  refine ⟨by simp; omega, by simp, l1 ++ l2, ?_, ?_⟩
  · show (M :: (l1 ++ l2)).Perm (l1 ++ M :: l2)
    exact List.perm_middle.symm
  · intro x hx y hy
    rw [List.mem_singleton.mp hx]
    exact hb y (by rcases List.mem_append.mp hy with h | h; exact List.mem_append_left _ h; exact List.mem_append_right _ (.tail _ h))
section
local macro_rules | `(tactic| walk_at "call ref") => `(tactic| (refine Hold.mk ?_))
local macro_rules | `(tactic| walk_at "call builtin:iter") => `(tactic| (refine Hold.mk ?_))
local macro_rules | `(tactic| walk_at "call builtin:len") => `(tactic| ((with_reducible show wpAny _ _ (call (Value.builtin _) [Value.ref _]) _ _ _); refine' list_len ?N ?m ?c ?_; (case N => k_asm); (case m => k_mem); (case c => assumption)))
local macro_rules | `(tactic| walk_at "call builtin:sorted") => `(tactic| (refine Hold.mk ?_))
local macro_rules | `(tactic| walk_at "call builtin:min") => `(tactic| (refine Hold.mk ?_))
local macro_rules | `(tactic| walk_at "call builtin:max") => `(tactic| (refine Hold.mk ?_))
local macro_rules | `(tactic| walk_at "compareOp Is") => `(tactic| (refine wpAny_is_other rfl (by intro h; cases h) ?_))
local macro_rules | `(tactic| walk_at "compareOp Is int ref") => `(tactic| (refine wpAny_is_other rfl (by intro h; cases h) ?_))
local macro_rules | `(tactic| walk_at "subscriptTail Name Slice ref ref") => `(tactic| (refine Hold.mk ?_))
local macro_rules | `(tactic| walk_at "call type:object") => `(tactic| (refine Hold.mk ?_))

set_option maxRecDepth 100000 in
set_option maxHeartbeats 8000000 in
theorem nsm_32 (w mean mg mb) (R : Addr) (vs : List Value) (ns : List Int) (c' : Nat) (n : Int) (tn : Tok) (rest) (hI : IntsAre vs ns) (hl : vs.length = 32) (h0 : 32 ≤ n) (h2 : n < 64) :
    CallsK w mean mg mb 76 [.int n tn, .ref R] [] 6 ((R, listOf vs.toArray c') :: rest)
      (fun r news' => ∃ D2 vs' out, r = .ref D2 ∧ news' = (D2, listOf (List.toArray vs') 0) :: (R, listOf vs.toArray c') :: rest ∧ IntsAre vs' out ∧ Sel (· ≤ ·) n.toNat ns out) := by
  unfold CallsK
  k_fill
  intro dp un gd cn cs a ccd cl outer A₀ base h₀ L m s Q E B F X N T hk hd hu hret
  w_on
  w_strict (
  refine wpAny_call ?_
  k_dflt (refine' code_defC ?k1 ?k2 ?k3 ?k4 ?k5 ?kA ?kF ?kK ?k6 ?k7 ?k8 ?k9 ?kB ?kD ?_ ?c2 ?c3 ?c4; (case kA => exact rfl); (case kF => exact rfl); (case kK => assumption); (case k1 => k_asm); (case k2 => k_asm); (case k3 => k_asm); (case k4 => k_asm); (case k5 => k_asm); (case k6 => k_is); (case k7 => k_is); (case k8 => ktr_room); (case k9 => exact binds_K (by k_in) rfl (by k_is) rfl rfl rfl); (case kB => exact rfl); (case kD => decide +kernel); (case c2 => exact rfl); (case c3 => exact rfl); (case c4 => exact rfl); k_whole; intro g' L' h' tk' cells' FG' F' N' Y' B' X' T' l1; (try k_lt l1); (have hY := CellsAre.one Y'); obtain ⟨o1, hE1, d1⟩ := hY; subst hE1; clear Y'; (try simp only [List.cons_append, List.nil_append] at N'); (try dsimp only); (try k_fold))
  k_steps)
  · exact absurd (by assumption : n = 1) (by omega)
  unfold Hold
  have hnl := IntsAre.length (by assumption : IntsAre vs ns)
  (rename News _ _ _ _ => Nq)
  k_dflt (refine' sorted_kwN (b := false) ?za1 ?za2 ?zt ?zF ?zN ?zl ?zI ?z64 ?_; (case za1 => exact ksk_s1 _ _); (case za2 => exact fun _ => ksk_l1 _ _); (case zt => exact fun _ => rfl); (case zF => k_asm); (case zN => k_asm); (case zI => assumption); (case z64 => omega))
  case zl => exact PySem.IsL.isList (n := c') (Nq _ (.tail _ (.head _))).1
  intro D1 h1 vs1 ns1 e1 F1 N1 l3 hI1 hp1 ho1
  (try k_lt l3)
  w_strict (k_steps)
  unfold Hold
  k_dflt (refine' kmk_slice_ints (vs := vs1) (ns := ns1) (ms := ns1.take n.toNat) (c := (ns1.take n.toNat).length) ?zF ?zN ?zl ?zp ?zq ?zi ?zm ?zc ?_ ?zs ?zt ?zz; (case zF => exact F1); (case zN => exact N1); (case zp => exact IsPart.none); (case zq => exact IsPart.int _ _); (case zi => assumption); (case zc => rfl); (case zs => with_unfolding_all rfl); (case zt => (intro _; with_unfolding_all rfl)))
  case zl => exact PySem.IsL.isList (n := e1) (N1 _ (.head _)).1
  case zm => exact kmk_upto hI1 (by omega)
  case zz => rw [List.size_toArray, hI1.length, hp1.length_eq, sizeLine_eq]; omega
  intro D2 ws h3 F3 N3 l4 hI3 _ _
  (try k_lt l4)
  w_strict (k_steps)
  (rename Fr _ _ _ _ => F10)
  (rename News _ _ _ _ => N10)
  refine hret _ _ _ _ F10 (fun p hp => N10 p ?_) ⟨D2, ws, _, rfl, rfl, hI3, sel_all (by omega) hp1 (by simpa [Ordered] using ho1)⟩
  rcases List.mem_cons.mp hp with rfl | hp
  · exact .head _
  · exact .tail _ (.tail _ (.tail _ hp))


set_option maxRecDepth 100000 in
set_option maxHeartbeats 8000000 in
theorem nsm_1 (w mean mg mb) (R : Addr) (vs : List Value) (ns : List Int) (c' : Nat) (tn : Tok) (rest) (hI : IntsAre vs ns) (hl : vs.length = 32) :
    CallsK w mean mg mb 76 [.int 1 tn, .ref R] [] 6 ((R, listOf vs.toArray c') :: rest)
      (fun r news' => ∃ D2 vs' out, r = .ref D2 ∧ news' = (D2, listOf (List.toArray vs') 0) :: (R, listOf vs.toArray c') :: rest ∧ IntsAre vs' out ∧ Sel (· ≤ ·) 1 ns out) := by
  unfold CallsK
  k_fill
  intro dp un gd cn cs a ccd cl outer A₀ base h₀ L m s Q E B F X N T hk hd hu hret
  w_on
  w_strict (
  refine wpAny_call ?_
  k_dflt (refine' code_defC ?k1 ?k2 ?k3 ?k4 ?k5 ?kA ?kF ?kK ?k6 ?k7 ?k8 ?k9 ?kB ?kD ?_ ?c2 ?c3 ?c4; (case kA => exact rfl); (case kF => exact rfl); (case kK => assumption); (case k1 => k_asm); (case k2 => k_asm); (case k3 => k_asm); (case k4 => k_asm); (case k5 => k_asm); (case k6 => k_is); (case k7 => k_is); (case k8 => ktr_room); (case k9 => exact binds_K (by k_in) rfl (by k_is) rfl rfl rfl); (case kB => exact rfl); (case kD => decide +kernel); (case c2 => exact rfl); (case c3 => exact rfl); (case c4 => exact rfl); k_whole; intro g' L' h' tk' cells' FG' F' N' Y' B' X' T' l1; (try k_lt l1); (have hY := CellsAre.one Y'); obtain ⟨o1, hE1, d1⟩ := hY; subst hE1; clear Y'; (try simp only [List.cons_append, List.nil_append] at N'); (try dsimp only); (try k_fold))
  k_steps)
  unfold Hold
  have hnl := IntsAre.length (by assumption : IntsAre vs ns)
  k_dflt (refine' list_iter ?zF ?zN ?zm ?_; (case zF => k_asm); (case zN => k_asm); (case zm => k_mem))
  intro I1 hh2 F2 N2 l2
  (try k_lt l2)
  w_strict (k_steps)
  unfold Hold
  k_dflt (refine' call_object ?zF ?zN ?_; (case zF => k_asm); (case zN => k_asm))
  intro S1 hh3 F3 N3 l3
  (try k_lt l3)
  w_strict (k_steps)
  unfold Hold
  (rename News _ _ _ _ => Nq)
  k_dflt (refine' min_it (R := R) (vs := vs) (ns := ns) (cR := c') (news := (L' + 1, o1) :: (R, listOf vs.toArray c') :: rest) ?zh ?zF0 ?zN0 ?zI ?zne ?zR ?znI ?_; (case zh => rfl); (case zF0 => k_asm); (case zI => assumption); (case zne => omega))
  case zN0 =>
    intro p hp
    rcases List.mem_cons.mp hp with rfl | hp
    · exact Nq _ (.tail _ (.head _))
    · exact Nq _ (.tail _ (.tail _ hp))
  case zR => exact .tail _ (.head _)
  case znI =>
    intro p hp
    rcases List.mem_cons.mp hp with rfl | hp
    · exact Nat.ne_of_lt l2.1
    rcases List.mem_cons.mp hp with rfl | hp
    · exact Nat.ne_of_lt l2.2.1
    · exact Nat.ne_of_lt (allLt_mem l2.2.2 p hp)
  intro M tM h4 tk4 F4 N4 hM hb
  w_strict (k_steps)
  (rename Fr _ _ _ _ => F10)
  (rename News _ _ _ _ => N10)
  refine hret _ _ _ _ F10 (fun p hp => N10 p ?_) ⟨_, [.int M tM], [M], rfl, rfl, .cons _ _ .nil, sel_one hM (fun a ha => hb a ha)⟩
  rcases List.mem_cons.mp hp with rfl | hp
  · exact .head _
  · exact .tail _ (.tail _ hp)


set_option maxRecDepth 100000 in
set_option maxHeartbeats 8000000 in
theorem nsmK_32 (w mean mg mb) (R : Addr) (vs : List Value) (ns : List Int) (c' : Nat) (n : Int) (tn : Tok) (rest) (hI : IntsAre vs ns) (hl : vs.length = 32) (h0 : 32 ≤ n) (h2 : n < 64) :
    CallsK w mean mg mb 76 [.int n tn, .ref R] [(Str.ofString "key", .ref 96)] 6 ((R, listOf vs.toArray c') :: rest)
      (fun r news' => ∃ D2 vs' out, r = .ref D2 ∧ news' = (D2, listOf (List.toArray vs') 0) :: (R, listOf vs.toArray c') :: rest ∧ IntsAre vs' out ∧ Sel (fun x y : Int => x ≥ y) n.toNat ns out) := by
  unfold CallsK
  k_fill
  intro dp un gd cn cs a ccd cl outer A₀ base h₀ L m s Q E B F X N T hk hd hu hret
  w_on
  w_strict (
  refine wpAny_call ?_
  k_dflt (refine' code_defC ?k1 ?k2 ?k3 ?k4 ?k5 ?kA ?kF ?kK ?k6 ?k7 ?k8 ?k9 ?kB ?kD ?_ ?c2 ?c3 ?c4; (case kA => exact rfl); (case kF => exact rfl); (case kK => assumption); (case k1 => k_asm); (case k2 => k_asm); (case k3 => k_asm); (case k4 => k_asm); (case k5 => k_asm); (case k6 => k_is); (case k7 => k_is); (case k8 => ktr_room); (case k9 => exact binds_K (by k_in) rfl (by k_is) rfl rfl rfl); (case kB => exact rfl); (case kD => decide +kernel); (case c2 => exact rfl); (case c3 => exact rfl); (case c4 => exact rfl); k_whole; intro g' L' h' tk' cells' FG' F' N' Y' B' X' T' l1; (try k_lt l1); (have hY := CellsAre.one Y'); obtain ⟨o1, hE1, d1⟩ := hY; subst hE1; clear Y'; (try simp only [List.cons_append, List.nil_append] at N'); (try dsimp only); (try k_fold))
  k_steps)
  · exact absurd (by assumption : n = 1) (by omega)
  unfold Hold
  have hnl := IntsAre.length (by assumption : IntsAre vs ns)
  (rename News _ _ _ _ => Nq)
  k_dflt (refine' ksk_letter (b := false) (ns := ns) (fun x : Int => -x - 1) ?zF0 ?zN0 ?zl ?zI ?z64 ?za1 ?za2 ?zt ?zturn ?_; (case za1 => exact ksk_s1 _ _); (case za2 => exact fun _ => ksk_l1 _ _); (case zt => exact fun _ => ksk_t1 _ _); (case zF0 => k_asm); (case zN0 => k_asm); (case zI => assumption); (case z64 => omega))
  case zl => exact PySem.IsL.isList (n := c') (Nq _ (.tail _ (.head _))).1
  case zturn =>
    intro x tx hx tkx ownx _ Fx Nx
    k_dflt (refine' Calls.use (inv_ok _ _ _ _ x tx _) ?zB ?zF ?zX ?zN ?zT ?zk ?zd ?zu ?_)
    case zB => k_asm
    case zF => k_asm
    case zX => k_asm
    case zN => k_asm
    case zT => k_asm
    case zk => rfl
    case zd => ktr_room
    case zu => ktr_units
    intro rk newsk hk4 tkk Fk Nk hbk
    obtain ⟨rfl, ty, rfl⟩ := hbk
    exact ⟨_, _, _, rfl, rfl, Fk, Nk⟩
  intro D1 vs1 ns1 e1 h1 tk1 F1 N1 l3 hI1 hlen1 hp1 ho1 _
  (try k_lt l3)
  w_strict (k_steps)
  unfold Hold
  k_dflt (refine' kmk_slice_ints (vs := vs1) (ns := ns1) (ms := ns1.take n.toNat) (c := (ns1.take n.toNat).length) ?zF ?zN ?zl ?zp ?zq ?zi ?zm ?zc ?_ ?zs ?zt ?zz; (case zF => exact F1); (case zN => exact N1); (case zp => exact IsPart.none); (case zq => exact IsPart.int _ _); (case zi => assumption); (case zc => rfl); (case zs => with_unfolding_all rfl); (case zt => (intro _; with_unfolding_all rfl)))
  case zl => exact PySem.IsL.isList (n := e1) (N1 _ (.head _)).1
  case zm => exact kmk_upto hI1 (by omega)
  case zz => rw [List.size_toArray, hI1.length, hp1.length_eq, sizeLine_eq]; omega
  intro D2 ws h3 F3 N3 l4 hI3 _ _
  (try k_lt l4)
  w_strict (k_steps)
  (rename Fr _ _ _ _ => F10)
  (rename News _ _ _ _ => N10)
  refine hret _ _ _ _ F10 (fun p hp => N10 p ?_) ⟨D2, ws, _, rfl, rfl, hI3, sel_all (by omega) hp1 (ho1.imp fun h => by simp only [Bool.false_eq_true, if_false, if_true] at h; (try dsimp only at h ⊢); omega)⟩
  rcases List.mem_cons.mp hp with rfl | hp
  · exact .head _
  · exact .tail _ (.tail _ (.tail _ hp))


set_option maxRecDepth 100000 in
set_option maxHeartbeats 8000000 in
theorem nsmK_1 (w mean mg mb) (R : Addr) (vs : List Value) (ns : List Int) (c' : Nat) (tn : Tok) (rest) (hI : IntsAre vs ns) (hl : vs.length = 32) :
    CallsK w mean mg mb 76 [.int 1 tn, .ref R] [(Str.ofString "key", .ref 96)] 6 ((R, listOf vs.toArray c') :: rest)
      (fun r news' => ∃ D2 vs' out, r = .ref D2 ∧ news' = (D2, listOf (List.toArray vs') 0) :: (R, listOf vs.toArray c') :: rest ∧ IntsAre vs' out ∧ Sel (fun x y : Int => x ≥ y) 1 ns out) := by
  unfold CallsK
  k_fill
  intro dp un gd cn cs a ccd cl outer A₀ base h₀ L m s Q E B F X N T hk hd hu hret
  w_on
  w_strict (
  refine wpAny_call ?_
  k_dflt (refine' code_defC ?k1 ?k2 ?k3 ?k4 ?k5 ?kA ?kF ?kK ?k6 ?k7 ?k8 ?k9 ?kB ?kD ?_ ?c2 ?c3 ?c4; (case kA => exact rfl); (case kF => exact rfl); (case kK => assumption); (case k1 => k_asm); (case k2 => k_asm); (case k3 => k_asm); (case k4 => k_asm); (case k5 => k_asm); (case k6 => k_is); (case k7 => k_is); (case k8 => ktr_room); (case k9 => exact binds_K (by k_in) rfl (by k_is) rfl rfl rfl); (case kB => exact rfl); (case kD => decide +kernel); (case c2 => exact rfl); (case c3 => exact rfl); (case c4 => exact rfl); k_whole; intro g' L' h' tk' cells' FG' F' N' Y' B' X' T' l1; (try k_lt l1); (have hY := CellsAre.one Y'); obtain ⟨o1, hE1, d1⟩ := hY; subst hE1; clear Y'; (try simp only [List.cons_append, List.nil_append] at N'); (try dsimp only); (try k_fold))
  k_steps)
  unfold Hold
  have hnl := IntsAre.length (by assumption : IntsAre vs ns)
  k_dflt (refine' list_iter ?zF ?zN ?zm ?_; (case zF => k_asm); (case zN => k_asm); (case zm => k_mem))
  intro I1 hh2 F2 N2 l2
  (try k_lt l2)
  w_strict (k_steps)
  unfold Hold
  k_dflt (refine' call_object ?zF ?zN ?_; (case zF => k_asm); (case zN => k_asm))
  intro S1 hh3 F3 N3 l3
  (try k_lt l3)
  w_strict (k_steps)
  unfold Hold
  (rename News _ _ _ _ => Nq)
  k_dflt (refine' min_itK (R := R) (vs := vs) (ns := ns) (cR := c') (news := (L' + 1, o1) :: (R, listOf vs.toArray c') :: rest) (fun x : Int => -x - 1) ?zturn ?zh ?zF0 ?zN0 ?zI ?zne ?zR ?znI ?_; (case zh => rfl); (case zF0 => k_asm); (case zI => assumption); (case zne => omega))
  case zturn =>
    intro x tx hx tkx ownx Fx Nx
    k_dflt (refine' Calls.use (inv_ok _ _ _ _ x tx _) ?zB ?zF ?zX ?zN ?zT ?zk ?zd ?zu ?_)
    case zB => k_asm
    case zF => k_asm
    case zX => k_asm
    case zN => k_asm
    case zT => k_asm
    case zk => rfl
    case zd => ktr_room
    case zu => ktr_units
    intro rk newsk hk4 tkk Fk Nk hbk
    obtain ⟨rfl, ty, rfl⟩ := hbk
    exact ⟨_, _, _, rfl, rfl, Fk, Nk⟩
  case zN0 =>
    intro p hp
    rcases List.mem_cons.mp hp with rfl | hp
    · exact Nq _ (.tail _ (.head _))
    · exact Nq _ (.tail _ (.tail _ hp))
  case zR => exact .tail _ (.head _)
  case znI =>
    intro p hp
    rcases List.mem_cons.mp hp with rfl | hp
    · exact Nat.ne_of_lt l2.1
    rcases List.mem_cons.mp hp with rfl | hp
    · exact Nat.ne_of_lt l2.2.1
    · exact Nat.ne_of_lt (allLt_mem l2.2.2 p hp)
  intro M tM h4 tk4 F4 N4 hM hb
  w_strict (k_steps)
  (rename Fr _ _ _ _ => F10)
  (rename News _ _ _ _ => N10)
  refine hret _ _ _ _ F10 (fun p hp => N10 p ?_) ⟨_, [.int M tM], [M], rfl, rfl, .cons _ _ .nil, sel_one hM (fun a ha => by have := hb a ha; (try dsimp only at this ⊢); omega)⟩
  rcases List.mem_cons.mp hp with rfl | hp
  · exact .head _
  · exact .tail _ (.tail _ hp)


set_option maxRecDepth 100000 in
set_option maxHeartbeats 8000000 in
theorem nlg_32 (w mean mg mb) (R : Addr) (vs : List Value) (ns : List Int) (c' : Nat) (n : Int) (tn : Tok) (rest) (hI : IntsAre vs ns) (hl : vs.length = 32) (h0 : 32 ≤ n) (h2 : n < 64) :
    CallsK w mean mg mb 82 [.int n tn, .ref R] [] 6 ((R, listOf vs.toArray c') :: rest)
      (fun r news' => ∃ D2 vs' out, r = .ref D2 ∧ news' = (D2, listOf (List.toArray vs') 0) :: (R, listOf vs.toArray c') :: rest ∧ IntsAre vs' out ∧ Sel (fun x y : Int => x ≥ y) n.toNat ns out) := by
  unfold CallsK
  k_fill
  intro dp un gd cn cs a ccd cl outer A₀ base h₀ L m s Q E B F X N T hk hd hu hret
  w_on
  w_strict (
  refine wpAny_call ?_
  k_dflt (refine' code_defC ?k1 ?k2 ?k3 ?k4 ?k5 ?kA ?kF ?kK ?k6 ?k7 ?k8 ?k9 ?kB ?kD ?_ ?c2 ?c3 ?c4; (case kA => exact rfl); (case kF => exact rfl); (case kK => assumption); (case k1 => k_asm); (case k2 => k_asm); (case k3 => k_asm); (case k4 => k_asm); (case k5 => k_asm); (case k6 => k_is); (case k7 => k_is); (case k8 => ktr_room); (case k9 => exact binds_K (by k_in) rfl (by k_is) rfl rfl rfl); (case kB => exact rfl); (case kD => decide +kernel); (case c2 => exact rfl); (case c3 => exact rfl); (case c4 => exact rfl); k_whole; intro g' L' h' tk' cells' FG' F' N' Y' B' X' T' l1; (try k_lt l1); (have hY := CellsAre.one Y'); obtain ⟨o1, hE1, d1⟩ := hY; subst hE1; clear Y'; (try simp only [List.cons_append, List.nil_append] at N'); (try dsimp only); (try k_fold))
  k_steps)
  · exact absurd (by assumption : n = 1) (by omega)
  unfold Hold
  have hnl := IntsAre.length (by assumption : IntsAre vs ns)
  (rename News _ _ _ _ => Nq)
  k_dflt (refine' sorted_kwN (b := true) ?za1 ?za2 ?zt ?zF ?zN ?zl ?zI ?z64 ?_; (case za1 => exact ksk_s2 _ _ _); (case za2 => exact fun _ => ksk_l2 _ _ _); (case zt => exact fun _ => rfl); (case zF => k_asm); (case zN => k_asm); (case zI => assumption); (case z64 => omega))
  case zl => exact PySem.IsL.isList (n := c') (Nq _ (.tail _ (.head _))).1
  intro D1 h1 vs1 ns1 e1 F1 N1 l3 hI1 hp1 ho1
  (try k_lt l3)
  w_strict (k_steps)
  unfold Hold
  k_dflt (refine' kmk_slice_ints (vs := vs1) (ns := ns1) (ms := ns1.take n.toNat) (c := (ns1.take n.toNat).length) ?zF ?zN ?zl ?zp ?zq ?zi ?zm ?zc ?_ ?zs ?zt ?zz; (case zF => exact F1); (case zN => exact N1); (case zp => exact IsPart.none); (case zq => exact IsPart.int _ _); (case zi => assumption); (case zc => rfl); (case zs => with_unfolding_all rfl); (case zt => (intro _; with_unfolding_all rfl)))
  case zl => exact PySem.IsL.isList (n := e1) (N1 _ (.head _)).1
  case zm => exact kmk_upto hI1 (by omega)
  case zz => rw [List.size_toArray, hI1.length, hp1.length_eq, sizeLine_eq]; omega
  intro D2 ws h3 F3 N3 l4 hI3 _ _
  (try k_lt l4)
  w_strict (k_steps)
  (rename Fr _ _ _ _ => F10)
  (rename News _ _ _ _ => N10)
  refine hret _ _ _ _ F10 (fun p hp => N10 p ?_) ⟨D2, ws, _, rfl, rfl, hI3, sel_all (by omega) hp1 (by simpa [Ordered] using ho1)⟩
  rcases List.mem_cons.mp hp with rfl | hp
  · exact .head _
  · exact .tail _ (.tail _ (.tail _ hp))


set_option maxRecDepth 100000 in
set_option maxHeartbeats 8000000 in
theorem nlg_1 (w mean mg mb) (R : Addr) (vs : List Value) (ns : List Int) (c' : Nat) (tn : Tok) (rest) (hI : IntsAre vs ns) (hl : vs.length = 32) :
    CallsK w mean mg mb 82 [.int 1 tn, .ref R] [] 6 ((R, listOf vs.toArray c') :: rest)
      (fun r news' => ∃ D2 vs' out, r = .ref D2 ∧ news' = (D2, listOf (List.toArray vs') 0) :: (R, listOf vs.toArray c') :: rest ∧ IntsAre vs' out ∧ Sel (fun x y : Int => x ≥ y) 1 ns out) := by
  unfold CallsK
  k_fill
  intro dp un gd cn cs a ccd cl outer A₀ base h₀ L m s Q E B F X N T hk hd hu hret
  w_on
  w_strict (
  refine wpAny_call ?_
  k_dflt (refine' code_defC ?k1 ?k2 ?k3 ?k4 ?k5 ?kA ?kF ?kK ?k6 ?k7 ?k8 ?k9 ?kB ?kD ?_ ?c2 ?c3 ?c4; (case kA => exact rfl); (case kF => exact rfl); (case kK => assumption); (case k1 => k_asm); (case k2 => k_asm); (case k3 => k_asm); (case k4 => k_asm); (case k5 => k_asm); (case k6 => k_is); (case k7 => k_is); (case k8 => ktr_room); (case k9 => exact binds_K (by k_in) rfl (by k_is) rfl rfl rfl); (case kB => exact rfl); (case kD => decide +kernel); (case c2 => exact rfl); (case c3 => exact rfl); (case c4 => exact rfl); k_whole; intro g' L' h' tk' cells' FG' F' N' Y' B' X' T' l1; (try k_lt l1); (have hY := CellsAre.one Y'); obtain ⟨o1, hE1, d1⟩ := hY; subst hE1; clear Y'; (try simp only [List.cons_append, List.nil_append] at N'); (try dsimp only); (try k_fold))
  k_steps)
  unfold Hold
  have hnl := IntsAre.length (by assumption : IntsAre vs ns)
  k_dflt (refine' list_iter ?zF ?zN ?zm ?_; (case zF => k_asm); (case zN => k_asm); (case zm => k_mem))
  intro I1 hh2 F2 N2 l2
  (try k_lt l2)
  w_strict (k_steps)
  unfold Hold
  k_dflt (refine' call_object ?zF ?zN ?_; (case zF => k_asm); (case zN => k_asm))
  intro S1 hh3 F3 N3 l3
  (try k_lt l3)
  w_strict (k_steps)
  unfold Hold
  (rename News _ _ _ _ => Nq)
  k_dflt (refine' max_it (R := R) (vs := vs) (ns := ns) (cR := c') (news := (L' + 1, o1) :: (R, listOf vs.toArray c') :: rest) ?zh ?zF0 ?zN0 ?zI ?zne ?zR ?znI ?_; (case zh => rfl); (case zF0 => k_asm); (case zI => assumption); (case zne => omega))
  case zN0 =>
    intro p hp
    rcases List.mem_cons.mp hp with rfl | hp
    · exact Nq _ (.tail _ (.head _))
    · exact Nq _ (.tail _ (.tail _ hp))
  case zR => exact .tail _ (.head _)
  case znI =>
    intro p hp
    rcases List.mem_cons.mp hp with rfl | hp
    · exact Nat.ne_of_lt l2.1
    rcases List.mem_cons.mp hp with rfl | hp
    · exact Nat.ne_of_lt l2.2.1
    · exact Nat.ne_of_lt (allLt_mem l2.2.2 p hp)
  intro M tM h4 tk4 F4 N4 hM hb
  w_strict (k_steps)
  (rename Fr _ _ _ _ => F10)
  (rename News _ _ _ _ => N10)
  refine hret _ _ _ _ F10 (fun p hp => N10 p ?_) ⟨_, [.int M tM], [M], rfl, rfl, .cons _ _ .nil, sel_one hM (fun a ha => hb a ha)⟩
  rcases List.mem_cons.mp hp with rfl | hp
  · exact .head _
  · exact .tail _ (.tail _ hp)


set_option maxRecDepth 100000 in
set_option maxHeartbeats 8000000 in
theorem nlgK_32 (w mean mg mb) (R : Addr) (vs : List Value) (ns : List Int) (c' : Nat) (n : Int) (tn : Tok) (rest) (hI : IntsAre vs ns) (hl : vs.length = 32) (h0 : 32 ≤ n) (h2 : n < 64) :
    CallsK w mean mg mb 82 [.int n tn, .ref R] [(Str.ofString "key", .ref 103)] 6 ((R, listOf vs.toArray c') :: rest)
      (fun r news' => ∃ D2 vs' out, r = .ref D2 ∧ news' = (D2, listOf (List.toArray vs') 0) :: (R, listOf vs.toArray c') :: rest ∧ IntsAre vs' out ∧ Sel (· ≤ ·) n.toNat ns out) := by
  unfold CallsK
  k_fill
  intro dp un gd cn cs a ccd cl outer A₀ base h₀ L m s Q E B F X N T hk hd hu hret
  w_on
  w_strict (
  refine wpAny_call ?_
  k_dflt (refine' code_defC ?k1 ?k2 ?k3 ?k4 ?k5 ?kA ?kF ?kK ?k6 ?k7 ?k8 ?k9 ?kB ?kD ?_ ?c2 ?c3 ?c4; (case kA => exact rfl); (case kF => exact rfl); (case kK => assumption); (case k1 => k_asm); (case k2 => k_asm); (case k3 => k_asm); (case k4 => k_asm); (case k5 => k_asm); (case k6 => k_is); (case k7 => k_is); (case k8 => ktr_room); (case k9 => exact binds_K (by k_in) rfl (by k_is) rfl rfl rfl); (case kB => exact rfl); (case kD => decide +kernel); (case c2 => exact rfl); (case c3 => exact rfl); (case c4 => exact rfl); k_whole; intro g' L' h' tk' cells' FG' F' N' Y' B' X' T' l1; (try k_lt l1); (have hY := CellsAre.one Y'); obtain ⟨o1, hE1, d1⟩ := hY; subst hE1; clear Y'; (try simp only [List.cons_append, List.nil_append] at N'); (try dsimp only); (try k_fold))
  k_steps)
  · exact absurd (by assumption : n = 1) (by omega)
  unfold Hold
  have hnl := IntsAre.length (by assumption : IntsAre vs ns)
  (rename News _ _ _ _ => Nq)
  k_dflt (refine' ksk_letter (b := true) (ns := ns) (fun x : Int => -x) ?zF0 ?zN0 ?zl ?zI ?z64 ?za1 ?za2 ?zt ?zturn ?_; (case za1 => exact ksk_s2 _ _ _); (case za2 => exact fun _ => ksk_l2 _ _ _); (case zt => exact fun _ => ksk_t2 _ _ _); (case zF0 => k_asm); (case zN0 => k_asm); (case zI => assumption); (case z64 => omega))
  case zl => exact PySem.IsL.isList (n := c') (Nq _ (.tail _ (.head _))).1
  case zturn =>
    intro x tx hx tkx ownx _ Fx Nx
    k_dflt (refine' Calls.use (neg_ok _ _ _ _ x tx _) ?zB ?zF ?zX ?zN ?zT ?zk ?zd ?zu ?_)
    case zB => k_asm
    case zF => k_asm
    case zX => k_asm
    case zN => k_asm
    case zT => k_asm
    case zk => rfl
    case zd => ktr_room
    case zu => ktr_units
    intro rk newsk hk4 tkk Fk Nk hbk
    obtain ⟨rfl, ty, rfl⟩ := hbk
    exact ⟨_, _, _, rfl, rfl, Fk, Nk⟩
  intro D1 vs1 ns1 e1 h1 tk1 F1 N1 l3 hI1 hlen1 hp1 ho1 _
  (try k_lt l3)
  w_strict (k_steps)
  unfold Hold
  k_dflt (refine' kmk_slice_ints (vs := vs1) (ns := ns1) (ms := ns1.take n.toNat) (c := (ns1.take n.toNat).length) ?zF ?zN ?zl ?zp ?zq ?zi ?zm ?zc ?_ ?zs ?zt ?zz; (case zF => exact F1); (case zN => exact N1); (case zp => exact IsPart.none); (case zq => exact IsPart.int _ _); (case zi => assumption); (case zc => rfl); (case zs => with_unfolding_all rfl); (case zt => (intro _; with_unfolding_all rfl)))
  case zl => exact PySem.IsL.isList (n := e1) (N1 _ (.head _)).1
  case zm => exact kmk_upto hI1 (by omega)
  case zz => rw [List.size_toArray, hI1.length, hp1.length_eq, sizeLine_eq]; omega
  intro D2 ws h3 F3 N3 l4 hI3 _ _
  (try k_lt l4)
  w_strict (k_steps)
  (rename Fr _ _ _ _ => F10)
  (rename News _ _ _ _ => N10)
  refine hret _ _ _ _ F10 (fun p hp => N10 p ?_) ⟨D2, ws, _, rfl, rfl, hI3, sel_all (by omega) hp1 (ho1.imp fun h => by simp only [Bool.false_eq_true, if_false, if_true] at h; (try dsimp only at h ⊢); omega)⟩
  rcases List.mem_cons.mp hp with rfl | hp
  · exact .head _
  · exact .tail _ (.tail _ (.tail _ hp))


set_option maxRecDepth 100000 in
set_option maxHeartbeats 8000000 in
theorem nlgK_1 (w mean mg mb) (R : Addr) (vs : List Value) (ns : List Int) (c' : Nat) (tn : Tok) (rest) (hI : IntsAre vs ns) (hl : vs.length = 32) :
    CallsK w mean mg mb 82 [.int 1 tn, .ref R] [(Str.ofString "key", .ref 103)] 6 ((R, listOf vs.toArray c') :: rest)
      (fun r news' => ∃ D2 vs' out, r = .ref D2 ∧ news' = (D2, listOf (List.toArray vs') 0) :: (R, listOf vs.toArray c') :: rest ∧ IntsAre vs' out ∧ Sel (· ≤ ·) 1 ns out) := by
  unfold CallsK
  k_fill
  intro dp un gd cn cs a ccd cl outer A₀ base h₀ L m s Q E B F X N T hk hd hu hret
  w_on
  w_strict (
  refine wpAny_call ?_
  k_dflt (refine' code_defC ?k1 ?k2 ?k3 ?k4 ?k5 ?kA ?kF ?kK ?k6 ?k7 ?k8 ?k9 ?kB ?kD ?_ ?c2 ?c3 ?c4; (case kA => exact rfl); (case kF => exact rfl); (case kK => assumption); (case k1 => k_asm); (case k2 => k_asm); (case k3 => k_asm); (case k4 => k_asm); (case k5 => k_asm); (case k6 => k_is); (case k7 => k_is); (case k8 => ktr_room); (case k9 => exact binds_K (by k_in) rfl (by k_is) rfl rfl rfl); (case kB => exact rfl); (case kD => decide +kernel); (case c2 => exact rfl); (case c3 => exact rfl); (case c4 => exact rfl); k_whole; intro g' L' h' tk' cells' FG' F' N' Y' B' X' T' l1; (try k_lt l1); (have hY := CellsAre.one Y'); obtain ⟨o1, hE1, d1⟩ := hY; subst hE1; clear Y'; (try simp only [List.cons_append, List.nil_append] at N'); (try dsimp only); (try k_fold))
  k_steps)
  unfold Hold
  have hnl := IntsAre.length (by assumption : IntsAre vs ns)
  k_dflt (refine' list_iter ?zF ?zN ?zm ?_; (case zF => k_asm); (case zN => k_asm); (case zm => k_mem))
  intro I1 hh2 F2 N2 l2
  (try k_lt l2)
  w_strict (k_steps)
  unfold Hold
  k_dflt (refine' call_object ?zF ?zN ?_; (case zF => k_asm); (case zN => k_asm))
  intro S1 hh3 F3 N3 l3
  (try k_lt l3)
  w_strict (k_steps)
  unfold Hold
  (rename News _ _ _ _ => Nq)
  k_dflt (refine' max_itK (R := R) (vs := vs) (ns := ns) (cR := c') (news := (L' + 1, o1) :: (R, listOf vs.toArray c') :: rest) (fun x : Int => -x) ?zturn ?zh ?zF0 ?zN0 ?zI ?zne ?zR ?znI ?_; (case zh => rfl); (case zF0 => k_asm); (case zI => assumption); (case zne => omega))
  case zturn =>
    intro x tx hx tkx ownx Fx Nx
    k_dflt (refine' Calls.use (neg_ok _ _ _ _ x tx _) ?zB ?zF ?zX ?zN ?zT ?zk ?zd ?zu ?_)
    case zB => k_asm
    case zF => k_asm
    case zX => k_asm
    case zN => k_asm
    case zT => k_asm
    case zk => rfl
    case zd => ktr_room
    case zu => ktr_units
    intro rk newsk hk4 tkk Fk Nk hbk
    obtain ⟨rfl, ty, rfl⟩ := hbk
    exact ⟨_, _, _, rfl, rfl, Fk, Nk⟩
  case zN0 =>
    intro p hp
    rcases List.mem_cons.mp hp with rfl | hp
    · exact Nq _ (.tail _ (.head _))
    · exact Nq _ (.tail _ (.tail _ hp))
  case zR => exact .tail _ (.head _)
  case znI =>
    intro p hp
    rcases List.mem_cons.mp hp with rfl | hp
    · exact Nat.ne_of_lt l2.1
    rcases List.mem_cons.mp hp with rfl | hp
    · exact Nat.ne_of_lt l2.2.1
    · exact Nat.ne_of_lt (allLt_mem l2.2.2 p hp)
  intro M tM h4 tk4 F4 N4 hM hb
  w_strict (k_steps)
  (rename Fr _ _ _ _ => F10)
  (rename News _ _ _ _ => N10)
  refine hret _ _ _ _ F10 (fun p hp => N10 p ?_) ⟨_, [.int M tM], [M], rfl, rfl, .cons _ _ .nil, sel_one hM (fun a ha => by have := hb a ha; (try dsimp only at this ⊢); omega)⟩
  rcases List.mem_cons.mp hp with rfl | hp
  · exact .head _
  · exact .tail _ (.tail _ hp)

end
end Mine
end

section
namespace Mine
/-- all choices out of g -/
def combos : List Nat → List Nat
  | [] => [0]
  | g :: r => combos r ++ (combos r).map (· ^^^ g)
theorem xor_map_perm {a b : List Nat} (h : Nat) (p : a.Perm b) : (a.map (· ^^^ h)).Perm (b.map (· ^^^ h)) := p.map _
theorem map_xor_xor (l : List Nat) (a b : Nat) : (l.map (· ^^^ a)).map (· ^^^ b) = l.map (· ^^^ (a ^^^ b)) := by
  rw [List.map_map]
  exact List.map_congr_left fun x _ => Nat.xor_assoc x a b
theorem map_xor_self (l : List Nat) (a : Nat) : (l.map (· ^^^ a)).map (· ^^^ a) = l := by
  rw [map_xor_xor, Nat.xor_self]
  simp
theorem combos_perm {a b : List Nat} (p : a.Perm b) : (combos a).Perm (combos b) := by
  induction p with
  | nil => exact .refl _
  | cons x _ ih => exact ih.append (xor_map_perm x ih)
  | swap x y l =>
    show (combos l ++ (combos l).map (· ^^^ x) ++ (combos l ++ (combos l).map (· ^^^ x)).map (· ^^^ y)).Perm (combos l ++ (combos l).map (· ^^^ y) ++ (combos l ++ (combos l).map (· ^^^ y)).map (· ^^^ x))
    rw [List.map_append, List.map_append, map_xor_xor, map_xor_xor, Nat.xor_comm y x, List.append_assoc, List.append_assoc]
    refine List.Perm.append_left _ ?_
    rw [← List.append_assoc, ← List.append_assoc]
    exact List.Perm.append_right _ List.perm_append_comm
  | trans _ _ h1 h2 => exact h1.trans h2
theorem head_xor (h : Nat) (g : List Nat) : ((combos (h :: g)).map (· ^^^ h)).Perm (combos (h :: g)) := by
  show ((combos g ++ (combos g).map (· ^^^ h)).map (· ^^^ h)).Perm (combos g ++ (combos g).map (· ^^^ h))
  rw [List.map_append, map_xor_self]
  exact List.perm_append_comm
/-- an elementary step -/
theorem combos_step (h : Nat) (f : Nat → Nat) (hf : ∀ x, f x = x ∨ f x = x ^^^ h) : ∀ g : List Nat, (combos (h :: g.map f)).Perm (combos (h :: g))
  | [] => .refl _
  | x :: g => by
    have ih := combos_step h f hf g
    have e1 : (combos (h :: f x :: g.map f)).Perm (combos (f x :: h :: g.map f)) := combos_perm (.swap _ _ _)
    have e2 : (combos (h :: x :: g)).Perm (combos (x :: h :: g)) := combos_perm (.swap _ _ _)
    refine e1.trans (List.Perm.trans ?_ e2.symm)
    show (combos (h :: g.map f) ++ (combos (h :: g.map f)).map (· ^^^ f x)).Perm (combos (h :: g) ++ (combos (h :: g)).map (· ^^^ x))
    refine ih.append ?_
    refine (xor_map_perm (f x) ih).trans ?_
    rcases hf x with e | e
    · rw [e]
    · rw [e]
      have : (combos (h :: g)).map (· ^^^ (x ^^^ h)) = ((combos (h :: g)).map (· ^^^ h)).map (· ^^^ x) := by rw [map_xor_xor, Nat.xor_comm h x]
      rw [this]
      exact xor_map_perm x (head_xor h g)
theorem combos_mem {h : Nat} {g : List Nat} (hm : h ∈ g) : (combos (h :: g)).Perm (combos g ++ combos g) := by
  obtain ⟨l1, l2, rfl⟩ := List.append_of_mem hm
  have p : (l1 ++ h :: l2).Perm (h :: (l1 ++ l2)) := List.perm_middle
  have pc := combos_perm p
  show (combos (l1 ++ h :: l2) ++ (combos (l1 ++ h :: l2)).map (· ^^^ h)).Perm (combos (l1 ++ h :: l2) ++ combos (l1 ++ h :: l2))
  refine List.Perm.append_left _ ?_
  exact ((xor_map_perm h pc).trans (head_xor h _)).trans pc.symm

def without (x h bit : Nat) : Nat := if x / bit % 2 = 1 then x ^^^ h else x
theorem without_or (h bit x : Nat) : without x h bit = x ∨ without x h bit = x ^^^ h := by
  unfold without
  split
  · exact .inr rfl
  · exact .inl rfl
def headsF (left : List Nat) (bit : Nat) : List Nat := left.filter (fun x => x / bit % 2 == 1)
/-- one place of the elimination -/
def stepF (place : Nat) (s : List Nat × List Nat) : List Nat × List Nat :=
  match headsF s.1 (2 ^ place) with
  | [] => s
  | h :: _ => (s.1.map (without · h (2 ^ place)), s.2.map (without · h (2 ^ place)) ++ [h])
def basisF (numbers : List Nat) : List Nat × List Nat := [7, 6, 5, 4, 3, 2, 1, 0].foldl (fun s p => stepF p s) (numbers, [])

def madeF : List Nat → Nat → Nat
  | [], _ => 0
  | b :: r, j => madeF r (j / 2) ^^^ (if j % 2 = 1 then b else 0)
/-- made of a basis whose last one has the lowest figure -/
def made (basis : List Nat) (j : Nat) : Nat := madeF basis.reverse j
def mades (basis : List Nat) : List Nat := (List.range (2 ^ basis.length)).map (made basis)

theorem made_snoc (b : List Nat) (h j : Nat) : made (b ++ [h]) j = made b (j / 2) ^^^ (if j % 2 = 1 then h else 0) := by
  unfold made; rw [List.reverse_append]; rfl
theorem range_double (n : Nat) : List.range (2 * n) = (List.range n).flatMap (fun j => [2 * j, 2 * j + 1]) := by
  induction n with
  | zero => rfl
  | succ n ih =>
    rw [show 2 * (n + 1) = 2 * n + 1 + 1 by omega, List.range_succ, List.range_succ, ih, List.range_succ, List.flatMap_append]
    simp
theorem mades_snoc (b : List Nat) (h : Nat) : mades (b ++ [h]) = (mades b).flatMap (fun m => [m, m ^^^ h]) := by
  unfold mades
  rw [List.length_append, List.length_singleton, Nat.pow_succ, Nat.mul_comm, range_double, List.map_flatMap, List.flatMap_map]
  congr 1
  funext j
  simp only [List.map_cons, List.map_nil, made_snoc]
  rw [show 2 * j / 2 = j by omega, show 2 * j % 2 = 0 by omega, show (2 * j + 1) / 2 = j by omega, show (2 * j + 1) % 2 = 1 by omega]
  simp
theorem flat_perm (l : List Nat) (h : Nat) : (l.flatMap (fun m => [m, m ^^^ h])).Perm (l ++ l.map (· ^^^ h)) := by
  induction l with
  | nil => exact .refl _
  | cons a l ih =>
    show (a :: (a ^^^ h) :: l.flatMap _).Perm (a :: (l ++ (a ^^^ h) :: l.map _))
    exact .cons _ ((List.Perm.cons _ ih).trans List.perm_middle.symm)
theorem mades_combos : ∀ (n : Nat) (b : List Nat), b.length = n → (mades b).Perm (combos b)
  | 0, b, h => by
    rw [List.length_eq_zero_iff.mp h]; exact .refl _
  | n + 1, b, h => by
    rcases List.eq_nil_or_concat b with rfl | ⟨b', x, rfl⟩
    · simp at h
    · rw [List.concat_eq_append] at h ⊢
      rw [mades_snoc]
      refine (flat_perm _ _).trans ?_
      have ih := mades_combos n b' (by simpa using h)
      refine (ih.append (xor_map_perm x ih)).trans ?_
      exact combos_perm (a := x :: b') (List.perm_append_singleton x b').symm

theorem xor_div (a b k : Nat) : (a ^^^ b) / 2 ^ k = a / 2 ^ k ^^^ b / 2 ^ k := by
  induction k with
  | zero => simp
  | succ k ih => rw [Nat.pow_succ, ← Nat.div_div_eq_div_mul, ih, Nat.xor_div_two, Nat.div_div_eq_div_mul, Nat.div_div_eq_div_mul]
theorem xor_mod2 (a b : Nat) : (a ^^^ b) % 2 = (a % 2 + b % 2) % 2 := by
  have h := Nat.testBit_xor a b 0
  simp only [Nat.testBit_zero] at h
  have ha : a % 2 = 0 ∨ a % 2 = 1 := by omega
  have hb : b % 2 = 0 ∨ b % 2 = 1 := by omega
  have hc : (a ^^^ b) % 2 = 0 ∨ (a ^^^ b) % 2 = 1 := by omega
  rcases ha with ha | ha <;> rcases hb with hb | hb <;> rcases hc with hc | hc <;> simp_all
theorem xor_bit (a b k : Nat) : (a ^^^ b) / 2 ^ k % 2 = (a / 2 ^ k % 2 + b / 2 ^ k % 2) % 2 := by
  rw [xor_div, xor_mod2]
end Mine
end

section
namespace Mine
/-- what holds ahead of the place p: what is left lies below it, the basis tells the upper part in order -/
structure Elim (numbers : List Nat) (p : Nat) (s : List Nat × List Nat) : Prop where
  low : ∀ x ∈ s.1, x < 2 ^ p
  up : (mades s.2).Pairwise (fun a b => a / 2 ^ p < b / 2 ^ p)
  cnt : ∀ v, (combos (s.2 ++ s.1)).count v = 2 ^ s.2.length * (combos numbers).count v
  len : s.1.length = numbers.length

theorem made_high (f : Nat → Nat) (p : Nat) (hf : ∀ x, f x / 2 ^ p = x / 2 ^ p) : ∀ (b : List Nat) (j : Nat), madeF (b.map f) j / 2 ^ p = madeF b j / 2 ^ p
  | [], _ => rfl
  | x :: b, j => by
    show (madeF (b.map f) (j / 2) ^^^ (if j % 2 = 1 then f x else 0)) / 2 ^ p = (madeF b (j / 2) ^^^ (if j % 2 = 1 then x else 0)) / 2 ^ p
    rw [xor_div, xor_div, made_high f p hf b]
    split
    · rw [hf]
    · rfl
theorem made_bit (p : Nat) : ∀ (b : List Nat) (j : Nat), (∀ x ∈ b, x / 2 ^ p % 2 = 0) → madeF b j / 2 ^ p % 2 = 0
  | [], _, _ => by simp [madeF]
  | x :: b, j, h => by
    show (madeF b (j / 2) ^^^ (if j % 2 = 1 then x else 0)) / 2 ^ p % 2 = 0
    rw [xor_bit, made_bit p b (j / 2) fun y hy => h y (.tail _ hy)]
    split
    · rw [h x (.head _)]
    · simp
theorem even_xor_one {e : Nat} (h : e % 2 = 0) : e ^^^ 1 = e + 1 := by
  have h1 : (e ^^^ 1) % 2 = 1 := by rw [xor_mod2]; omega
  have h2 : (e ^^^ 1) / 2 = e / 2 := by rw [Nat.xor_div_two]; simp
  omega
theorem flat_pairwise {l : List Nat} {f : Nat → List Nat} {R S : Nat → Nat → Prop} (hl : l.Pairwise R) (h1 : ∀ m ∈ l, (f m).Pairwise S) (h2 : ∀ m ∈ l, ∀ k ∈ l, R m k → ∀ x ∈ f m, ∀ y ∈ f k, S x y) : (l.flatMap f).Pairwise S := by
  induction l with
  | nil => exact .nil
  | cons a l ih =>
    rw [List.flatMap_cons, List.pairwise_append]
    rw [List.pairwise_cons] at hl
    refine ⟨h1 a (.head _), ih hl.2 (fun m hm => h1 m (.tail _ hm)) fun m hm k hk => h2 m (.tail _ hm) k (.tail _ hk), fun x hx y hy => ?_⟩
    obtain ⟨k, hk, hy⟩ := List.mem_flatMap.mp hy
    exact h2 a (.head _) k (.tail _ hk) (hl.1 k hk) x hx y hy

theorem Elim.step {numbers : List Nat} {p : Nat} {s : List Nat × List Nat} (h : Elim numbers (p + 1) s) : Elim numbers p (stepF p s) := by
  obtain ⟨left, basis⟩ := s
  have hp2 : 2 ^ (p + 1) = 2 * 2 ^ p := by rw [Nat.pow_succ, Nat.mul_comm]
  have hpos : 0 < 2 ^ p := Nat.two_pow_pos p
  have dd : ∀ a : Nat, a / 2 ^ (p + 1) = a / 2 ^ p / 2 := fun a => by rw [Nat.pow_succ, Nat.div_div_eq_div_mul]
  have low := h.low
  dsimp only at low
  have small : ∀ x ∈ left, x / 2 ^ p = 0 ∨ x / 2 ^ p = 1 := by
    intro x hx
    have h1 := low x hx
    have : x / 2 ^ p < 2 := Nat.div_lt_of_lt_mul (by rw [Nat.mul_comm]; omega)
    generalize x / 2 ^ p = q at this ⊢
    omega
  unfold stepF
  dsimp only
  cases hh : headsF left (2 ^ p) with
  | nil =>
    refine ⟨fun x hx => ?_, ?_, h.cnt, h.len⟩
    · dsimp only at hx
      rcases small x hx with e | e
      · rcases Nat.div_eq_zero_iff.mp e with e' | e'
        · omega
        · exact e'
      · have hm : x ∈ headsF left (2 ^ p) := List.mem_filter.mpr ⟨hx, by simp [e]⟩
        rw [hh] at hm; cases hm
    · refine h.up.imp fun {a b} hab => ?_
      rw [dd, dd] at hab
      omega
  | cons x t =>
    have hx : x ∈ headsF left (2 ^ p) := by rw [hh]; exact .head _
    obtain ⟨hxl, hxb⟩ := List.mem_filter.mp hx
    have hx1 : x / 2 ^ p = 1 := by
      rcases small x hxl with e | e
      · rw [e] at hxb; simp at hxb
      · exact e
    have hw0 : ∀ y, without y x (2 ^ p) / 2 ^ p % 2 = 0 := by
      intro y
      unfold without
      split
      · rename_i e; rw [xor_bit, e, hx1]
      · omega
    have hwh : ∀ y, without y x (2 ^ p) / 2 ^ (p + 1) = y / 2 ^ (p + 1) := by
      intro y
      unfold without
      split
      · rw [xor_div, dd x, hx1]; simp
      · rfl
    refine ⟨fun y hy => ?_, ?_, fun v => ?_, ?_⟩
    · dsimp only at hy
      obtain ⟨z, hz, rfl⟩ := List.mem_map.mp hy
      have h1 := hwh z
      have h2 : z / 2 ^ (p + 1) = 0 := Nat.div_eq_of_lt (low z hz)
      have h3 := hw0 z
      rw [h2, dd] at h1
      have h4 : without z x (2 ^ p) / 2 ^ p = 0 := by omega
      rcases Nat.div_eq_zero_iff.mp h4 with e | e
      · omega
      · exact e
    · dsimp only
      rw [mades_snoc]
      have hup : (mades (basis.map (without · x (2 ^ p)))).Pairwise (fun a b => a / 2 ^ (p + 1) < b / 2 ^ (p + 1)) := by
        unfold mades at *
        rw [List.length_map, List.pairwise_map]
        have := h.up
        dsimp only at this
        unfold mades at this
        rw [List.pairwise_map] at this
        refine this.imp fun {a b} hab => ?_
        unfold made at hab ⊢
        rw [← List.map_reverse, made_high _ _ hwh, made_high _ _ hwh]
        exact hab
      have hev : ∀ m ∈ mades (basis.map (without · x (2 ^ p))), m / 2 ^ p % 2 = 0 := by
        intro m hm
        obtain ⟨j, _, rfl⟩ := List.mem_map.mp hm
        refine made_bit p _ j fun y hy => ?_
        obtain ⟨z, _, rfl⟩ := List.mem_map.mp (List.mem_reverse.mp hy)
        exact hw0 z
      have hxm : ∀ m, m / 2 ^ p % 2 = 0 → (m ^^^ x) / 2 ^ p = m / 2 ^ p + 1 := by
        intro m hm
        rw [xor_div, hx1, even_xor_one hm]
      refine flat_pairwise hup (fun m hm => ?_) fun m hm k hk hmk y hy z hz => ?_
      · have := hxm m (hev m hm)
        simp only [List.pairwise_cons, List.mem_singleton, forall_eq, List.not_mem_nil, false_implies, implies_true, List.Pairwise.nil, and_true]
        omega
      · rw [dd, dd] at hmk
        have a1 := hev m hm
        have a2 := hev k hk
        have a3 := hxm m a1
        have a4 := hxm k a2
        simp only [List.mem_cons, List.not_mem_nil, or_false] at hy hz
        rcases hy with rfl | rfl <;> rcases hz with rfl | rfl <;> omega
    · dsimp only
      have e1 : (basis.map (without · x (2 ^ p)) ++ [x] ++ left.map (without · x (2 ^ p))).Perm (x :: (basis ++ left).map (without · x (2 ^ p))) := by
        rw [List.map_append, List.append_assoc]
        exact List.perm_middle
      have e2 := (combos_perm e1).trans ((combos_step x (without · x (2 ^ p)) (fun y => without_or x (2 ^ p) y) (basis ++ left)).trans (combos_mem (List.mem_append_right _ hxl)))
      rw [e2.count_eq, List.count_append, h.cnt v, List.length_append, List.length_map, List.length_singleton, Nat.pow_succ]
      dsimp only
      rw [Nat.mul_comm (2 ^ basis.length) 2, Nat.mul_assoc]
      omega
    · dsimp only
      rw [List.length_map]; exact h.len

theorem elim_all (numbers : List Nat) (h : ∀ x ∈ numbers, x < 256) : Elim numbers 0 (basisF numbers) := by
  have h8 : Elim numbers 8 (numbers, []) := by
    refine ⟨h, ?_, fun v => ?_, rfl⟩
    · show [made [] 0].Pairwise _
      simp
    · simp
  exact h8.step.step.step.step.step.step.step.step

theorem combos_zeros (b : List Nat) (v : Nat) : ∀ z : List Nat, (∀ x ∈ z, x = 0) → (combos (z ++ b)).count v = 2 ^ z.length * (combos b).count v
  | [], _ => by simp
  | x :: z, h => by
    have hx := h x (.head _)
    subst hx
    show (combos (z ++ b) ++ (combos (z ++ b)).map (· ^^^ 0)).count v = _
    have : (combos (z ++ b)).map (· ^^^ 0) = combos (z ++ b) := by simp
    rw [this, List.count_append, combos_zeros b v z fun y hy => h y (.tail _ hy), List.length_cons, Nat.pow_succ, Nat.mul_comm (2 ^ z.length) 2, Nat.mul_assoc]
    omega

theorem block_count (f : Nat → Nat) (k v : Nat) (hk : 0 < k) : ∀ n, ((List.range (n * k)).map (fun i => f (i / k))).count v = k * ((List.range n).map f).count v
  | 0 => by simp
  | n + 1 => by
    rw [Nat.succ_mul, List.range_add, List.map_append, List.count_append, block_count f k v hk n, List.range_succ, List.map_append, List.count_append, Nat.mul_add, List.map_map]
    congr 1
    have e : (List.range k).map ((fun i => f (i / k)) ∘ fun x => n * k + x) = List.replicate k (f n) := by
      rw [List.eq_replicate_iff]
      refine ⟨by simp, fun b hb => ?_⟩
      obtain ⟨i, hi, rfl⟩ := List.mem_map.mp hb
      rw [List.mem_range] at hi
      show f ((n * k + i) / k) = f n
      rw [Nat.mul_comm, Nat.mul_add_div hk, Nat.div_eq_of_lt hi, Nat.add_zero]
    rw [e, List.count_replicate]
    show _ = k * [f n].count v
    rw [List.count_singleton]
    split <;> simp_all

def orderF (numbers : List Nat) : List Nat := (List.range 32).map fun i => made (basisF numbers).2 (i / 2 ^ (5 - (basisF numbers).2.length))
theorem basis_len {numbers : List Nat} (h : ∀ x ∈ numbers, x < 256) (h5 : numbers.length = 5) : (basisF numbers).2.length ≤ 5 := by
  have E := elim_all numbers h
  have hz : ∀ x ∈ (basisF numbers).1, x = 0 := fun x hx => by have := E.low x hx; omega
  have hl : (basisF numbers).1.length = 5 := E.len.trans h5
  have hc := E.cnt 0
  rw [(combos_perm List.perm_append_comm).count_eq, combos_zeros _ _ _ hz, hl] at hc
  have hm : made (basisF numbers).2 0 = 0 := by
    unfold made
    generalize (basisF numbers).2.reverse = b
    induction b with
    | nil => rfl
    | cons x b ih => show madeF b (0 / 2) ^^^ (if 0 % 2 = 1 then x else 0) = 0; rw [show 0 / 2 = 0 from rfl, ih]; simp
  have h0 : 0 ∈ mades (basisF numbers).2 := List.mem_map.mpr ⟨0, List.mem_range.mpr (Nat.two_pow_pos _), hm⟩
  have hnd : (mades (basisF numbers).2).Nodup := by
    have := E.up
    simp only [Nat.pow_zero, Nat.div_one] at this
    exact this.imp fun hab => Nat.ne_of_lt hab
  have h1 : (combos (basisF numbers).2).count 0 = 1 := by
    rw [← (mades_combos _ _ rfl).count_eq]
    rw [hnd.count, if_pos h0]
  rw [h1] at hc
  have hle : 2 ^ (basisF numbers).2.length ≤ 2 ^ 5 := by
    have : 0 < (combos numbers).count 0 := by
      rcases Nat.eq_zero_or_pos ((combos numbers).count 0) with e | e
      · rw [e] at hc; simp at hc
      · exact e
    have h2 : 2 ^ (basisF numbers).2.length * 1 ≤ 2 ^ (basisF numbers).2.length * (combos numbers).count 0 := Nat.mul_le_mul_left _ this
    omega
  exact (Nat.pow_le_pow_iff_right (by decide)).mp hle

theorem order_ok {numbers : List Nat} (h : ∀ x ∈ numbers, x < 256) (h5 : numbers.length = 5) : (orderF numbers).Perm (combos numbers) ∧ (orderF numbers).Pairwise (· ≤ ·) := by
  have E := elim_all numbers h
  have hr := basis_len h h5
  have hz : ∀ x ∈ (basisF numbers).1, x = 0 := fun x hx => by have := E.low x hx; omega
  have hl : (basisF numbers).1.length = 5 := E.len.trans h5
  have hup := E.up
  simp only [Nat.pow_zero, Nat.div_one] at hup
  generalize hb : (basisF numbers).2 = b at *
  have h32 : 32 = 2 ^ b.length * 2 ^ (5 - b.length) := by
    rw [← Nat.pow_add, show b.length + (5 - b.length) = 5 by omega]
  have hpos : 0 < 2 ^ (5 - b.length) := Nat.two_pow_pos _
  unfold orderF
  rw [hb]
  constructor
  · rw [List.perm_iff_count]
    intro v
    have e : ((List.range 32).map fun i => made b (i / 2 ^ (5 - b.length))).count v = 2 ^ (5 - b.length) * (mades b).count v := by
      have := block_count (made b) (2 ^ (5 - b.length)) v hpos (2 ^ b.length)
      rw [← h32] at this
      exact this
    rw [e, (mades_combos _ _ rfl).count_eq]
    have hc := E.cnt v
    rw [hb] at hc
    rw [(combos_perm List.perm_append_comm).count_eq, combos_zeros _ _ _ hz, hl] at hc
    have : 2 ^ 5 = 2 ^ b.length * 2 ^ (5 - b.length) := h32
    rw [this, Nat.mul_assoc] at hc
    exact Nat.eq_of_mul_eq_mul_left (Nat.two_pow_pos _) hc
  · rw [List.pairwise_map]
    unfold mades at hup
    rw [List.pairwise_map] at hup
    rw [List.pairwise_iff_getElem]
    intro i j hi hj hij
    simp only [List.length_range] at hi hj
    simp only [List.getElem_range]
    have hd : i / 2 ^ (5 - b.length) ≤ j / 2 ^ (5 - b.length) := Nat.div_le_div_right (by omega)
    rcases Nat.eq_or_lt_of_le hd with e | e
    · rw [e]; exact Nat.le_refl _
    · rw [List.pairwise_iff_getElem] at hup
      have hj2 : j / 2 ^ (5 - b.length) < 2 ^ b.length := Nat.div_lt_of_lt_mul (by rw [Nat.mul_comm, ← h32]; exact hj)
      have := hup (i / 2 ^ (5 - b.length)) (j / 2 ^ (5 - b.length)) (by simp; omega) (by simp; omega) e
      simp only [List.getElem_range] at this
      exact Nat.le_of_lt this
/-- the row, by doubling -/
def rowF (numbers : List Nat) : List Nat := numbers.foldl (fun row n => row ++ row.map (· ^^^ n)) [0]
theorem row_snoc (g : List Nat) (n : Nat) : rowF (g ++ [n]) = rowF g ++ (rowF g).map (· ^^^ n) := by
  unfold rowF; rw [List.foldl_append]; rfl
theorem row_combos : ∀ (k : Nat) (g : List Nat), g.length = k → (rowF g).Perm (combos g)
  | 0, g, h => by rw [List.length_eq_zero_iff.mp h]; exact .refl _
  | k + 1, g, h => by
    rcases List.eq_nil_or_concat g with rfl | ⟨g', x, rfl⟩
    · simp at h
    · rw [List.concat_eq_append] at h ⊢
      rw [row_snoc]
      have ih := row_combos k g' (by simpa using h)
      refine (ih.append (xor_map_perm x ih)).trans ?_
      exact combos_perm (a := x :: g') (List.perm_append_singleton x g').symm
theorem order_row {numbers : List Nat} (h : ∀ x ∈ numbers, x < 256) (h5 : numbers.length = 5) : (orderF numbers).Perm (rowF numbers) ∧ (orderF numbers).Pairwise (· ≤ ·) :=
  ⟨(order_ok h h5).1.trans (row_combos _ _ rfl).symm, (order_ok h h5).2⟩
end Mine
end

section
open PySem PySem.Spec PySem.Calls PySem.W PyProof.Rows PyProof.Rows.LCg
set_option Elab.async false
set_option maxHeartbeats 4000000
set_option maxRecDepth 100000
namespace Mine
section
variable {prog : Program} {w : World} {A : Around} {E : Value → Shared → Prop} {s : Shared} {env : Env} {h₀ : Heap}

/-- the end of a turn of a for -/
def FEnd (h₀ : Heap) (L : Addr) (own : List (Addr × Obj)) (J : (Str → Option Value) → List (Addr × Obj) → Nat → Prop) (s₁ : Shared) (f : Flow) (s₃ : Shared) : Prop :=
  (f = .next ∨ f = .cont) ∧ ∃ h tk m' news', s₃ = { s₁ with heap := h, toks := tk } ∧ Fr h₀ L h m' ∧ News h₀ L h (own ++ news') ∧ J m' news' tk
theorem FEnd.intro {L : Addr} {own : List (Addr × Obj)} {J : (Str → Option Value) → List (Addr × Obj) → Nat → Prop} {s₁ : Shared} {h : Heap} {tk : Nat} {m' : Str → Option Value} {all news' : List (Addr × Obj)} (F : Fr h₀ L h m') (N : News h₀ L h all) (hs : ∀ p ∈ own ++ news', p ∈ all) (hJ : J m' news' tk) :
    FEnd h₀ L own J s₁ .next { s₁ with heap := h, toks := tk } := ⟨.inl rfl, h, tk, m', news', rfl, F, fun p hp => N p (hs p hp), hJ⟩

/-- all that a for over an iterator wants -/
def ForOk (prog : Program) (w : World) (A : Around) (h₀ : Heap) (env : Env) (target : PySem.Expr) (body : List Stmt) (Q : Flow → Shared → Prop) (E : Value → Shared → Prop) (it : Value) (s₂ : Shared) : Prop :=
  ∃ (I : Addr) (fp wr : List Addr) (n : Nat) (P : Nat → Value → Prop) (St : Nat → Heap → Prop) (m : Str → Option Value) (news : List (Addr × Obj)) (J : Nat → (Str → Option Value) → List (Addr × Obj) → Nat → Prop),
    it = .ref I ∧ Walks prog w A I fp wr n P St ∧ env.locals ∉ fp ∧ (∀ b ∈ wr, h₀.get? b = none) ∧ (∀ i m nw tk, J i m nw tk → ∀ p ∈ nw, p.1 ∉ wr) ∧ (∀ i m nw tk tk', J i m nw tk → tk ≤ tk' → J i m nw tk') ∧ St 0 s₂.heap ∧ Fr h₀ env.locals s₂.heap m ∧ News h₀ env.locals s₂.heap news ∧ J 0 m news s₂.toks ∧
    (∀ i v m₁ news₁ h tk own, i < n → P i v → J i m₁ news₁ tk → (∀ p ∈ own, p.1 ∈ fp) → (∀ b ∈ fp, h₀.get? b = none → ∀ o, h.get? b = some o → (b, o) ∈ own) → St (i + 1) h → Fr h₀ env.locals h m₁ → News h₀ env.locals h (own ++ news₁) →
      wpAny (model prog w) A (assign target env v) (fun _ s₃ => wpAny (model prog w) A (execs body env) (FEnd h₀ env.locals own (J (i + 1)) s₂) E s₃) E { s₂ with heap := h, toks := tk }) ∧
    ∀ h' tk m' news', Fr h₀ env.locals h' m' → News h₀ env.locals h' news' → J n m' news' tk → Q .next { s₂ with heap := h', toks := tk }

theorem for_tk {Q : Flow → Shared → Prop} {x : Str} {px : Pos} {iter : PySem.Expr} {pos : Pos} {body : List Stmt} {m₀ : Str → Option Value} (_F : Fr h₀ env.locals s.heap m₀)
    (h : wpAny (model prog w) A (eval iter env) (fun xv s₁ => Hold (wpAny (model prog w) A (pyIter xv) (fun it s₂ => ForOk prog w A h₀ env (.Name x px) body Q E it s₂) E s₁)) E s)
    (hs : ∀ x, foldedSetIterable iter env x = pure x)
    (hE : PassesOwn (model prog w) A env E) :
    wpAny (model prog w) A (exec (.For (.Name x px) iter body [] pos) env) Q E s := by
  refine wpAny_For (wpAny_mono h (fun xv s₁ h₁ => wpAny_mono h₁ (fun it s₂ h₂ => ?_) fun _ _ e => e) fun _ _ e => e) hs
  obtain ⟨I, fp, wr, n, P, St, m, news, J, rfl, W, hLf, hwr, hoff, hmono, hst, F, N, h0, step, hR⟩ := h₂
  have hLw : env.locals ∉ wr := fun h => hLf (W.sub _ h)
  have old : ∀ b o, h₀.get? b = some o → b ∉ wr := fun b o e hb => by rw [hwr b hb] at e; cases e
  refine codeAny_forLoop_any (R := fun r s' => match r with | .ok f => Q f s' | .error e => cameBackBy (model prog w) A env E e s')
    (fun k s' => ∃ h' tk m' news' i, s' = { s₂ with heap := h', toks := tk } ∧ St i h' ∧ Fr h₀ env.locals h' m' ∧ News h₀ env.locals h' news' ∧ J i m' news' tk ∧ i ≤ n ∧ k = n + 1 - i) ?_ (n + 1)
    ⟨s₂.heap, s₂.toks, m, news, 0, rfl, hst, F, N, h0, Nat.zero_le _, rfl⟩
  rintro k s' ⟨h', tk, m', news', i, rfl, hst', F', N', hJ, hi, rfl⟩
  have next : ∀ h₁ : Heap, (∀ b o, b ∉ wr → h'.get? b = some o → h₁.get? b = some o) → Fr h₀ env.locals h₁ m' ∧ News h₀ env.locals h₁ news' := fun h₁ hk₁ =>
    ⟨⟨F'.ns.at' fun o e => hk₁ _ o hLw e, fun b o e => hk₁ b o (old b o e) (F'.keep b o e), F'.above⟩, fun p hp => ⟨hk₁ _ _ (hoff _ _ _ _ hJ p hp) (N' p hp).1, (N' p hp).2⟩⟩
  by_cases hlt : i < n
  · refine wpAny_with_toks (n := tk) (Nat.le_refl _) (W.item i _ _ _ hlt hst' fun v h₁ tk₁ hP hst₁ hk₁ htk₁ => ?_)
    dsimp only at htk₁
    obtain ⟨F₁, N₁⟩ := next h₁ hk₁
    have Nown : News h₀ env.locals h₁ (ownOf h₀ fp h₁) := news_ownOf hLf
    refine wpAny_of_eq (a := ()) (by first | rfl | (cases v <;> rfl)) ?_
    refine wpAny_mono (step i v m' news' h₁ tk₁ (ownOf h₀ fp h₁) hlt hP (hmono _ _ _ _ _ hJ htk₁) ownOf_sub (fun b hb hn o e => mem_ownOf hb hn e) hst₁ F₁ (Nown.append N₁))
      (fun _ s₃ h₃ => wpAny_passesOwn hE (wpAny_mono h₃ (fun f s₄ h₄ => ?_) fun _ _ e => e)) hE
    obtain ⟨hf, h₅, tk₅, m₂, news₂, rfl, F₃, N₃, hJ₃⟩ := h₄
    have fin : ∃ mm, mm < n + 1 - i ∧ ∃ h' tk m' news' i, ({ s₂ with heap := h₅, toks := tk₅ } : Shared) = { s₂ with heap := h', toks := tk } ∧ St i h' ∧ Fr h₀ env.locals h' m' ∧ News h₀ env.locals h' news' ∧ J i m' news' tk ∧ i ≤ n ∧ mm = n + 1 - i := by
      refine ⟨n + 1 - (i + 1), by omega, h₅, tk₅, m₂, news₂, i + 1, rfl, ?_, F₃, N₃.right, hJ₃, hlt, rfl⟩
      refine W.frame _ _ _ hst₁ fun b hb o e => ?_
      cases hn : h₀.get? b with
      | some o₀ =>
        have : o₀ = o := by have := F₁.keep b o₀ hn; rw [e] at this; exact (Option.some.inj this).symm
        exact this ▸ F₃.keep b o₀ hn
      | none => exact (N₃ _ (List.mem_append_left _ (mem_ownOf hb hn e))).1
    rcases hf with rfl | rfl
    · exact fin
    · exact fin
  · have hin : i = n := by omega
    subst hin
    refine wpAny_with_toks (n := tk) (Nat.le_refl _) (W.done _ _ _ hst' fun h₁ tk₁ hk₁ htk₁ => wpAny_execs_nil ?_)
    obtain ⟨F₁, N₁⟩ := next h₁ hk₁
    exact hR h₁ tk₁ m' news' F₁ N₁ (hmono _ _ _ _ _ hJ htk₁)
end

/-- names of a block take the items of a walk -/
theorem TW.ofWalks {prog : Program} {w : World} {A : Around} {I : Addr} {fp wr : List Addr} {n : Nat} {P : Nat → Value → Prop} {St : Nat → Heap → Prop} (W : Walks prog w A I fp wr n P St) (x : Str) (px : Pos) :
    TW prog w A (.Name x px) [x] I fp wr n (fun i m₂ => ∃ v, P i v ∧ m₂ x = some v) St [] where
  sub := W.sub
  frame := W.frame
  item := fun i s cenv m K Z E hi st hns hCf hk hp hQ => by
    refine W.item i s _ _ hi st fun v h' tk hP hst' hk' => ?_
    dsimp only
    refine wpAny_of_eq (a := ()) (by first | rfl | (cases v <;> rfl)) ?_
    have hC : cenv.locals ∉ wr := fun q => hCf (W.sub _ q)
    refine wpAny_assign_Name (wpAny_storeName_local (hk x (by simp)) (hns.at' fun o e => hk' _ o hC e) (fun h₂ hn₂ hs₂ => ?_) hp)
    exact hQ h₂ _ _ ⟨v, hP, by simp⟩ (W.frame _ _ _ hst' fun b hb o e => hs₂.extBut b o (fun q => hCf (q ▸ hb)) e) hn₂ fun b o hb hbC e => hs₂.extBut b o hbC (hk' b o hb e)
  done := fun s Q E st hQ => W.done s Q E st fun h' tk hk => hQ h' tk (fun _ h => nomatch h) hk
  self := W.self
end Mine
end

section
open PySem PySem.W PyProof.Rows PyProof.Rows.LCg
set_option Elab.async false
set_option pp.maxSteps 20000
set_option pp.deepTerms false
set_option pp.deepTerms.threshold 6
namespace Mine
/-- a call, and the tokens behind it -/
def CallsT (w : World) (mean : ExcName → Option Value) (mg mb : Str → Option Value) (f : Addr) (vs : List Value) (k : Nat) (news : List (Addr × Obj))
    (Back : Value → List (Addr × Obj) → Nat → Prop) : Prop :=
  ∀ (dp un : Nat) (gd : Option (List Code)) (cn : Str) (cs : Scope) (a : Addr) (ccd : Value) (cl : List (Str × Addr)) (outer : List Env) (A₀ : Around) (base h₀ : Heap) (L : Addr) (m : Str → Option Value) (s : Shared)
    (Q E : Value → Shared → Prop),
    Below A₀ base outer h₀ → Fr h₀ L s.heap m → (Mine.hd.heap_39 w.params).In h₀ → News h₀ L s.heap news →
    Top Mine.hd.view_39 (looseW Mine.hd.view_39 [Str.ofString "nsmallest", Str.ofString "nlargest"]) mean mg mb h₀ → cs.kind = .function →
    dp + k < recursionLimit → un + 8 * k < cLine → 0 < s.toks →
    (∀ r news' h' tk', Fr h₀ L h' m → News h₀ L h' news' → Back r news' tk' → Q r { s with heap := h', toks := tk' }) →
    wpAny (model PySem.Challenge.rw_mr0275_01.row.prog w) (ktrTop dp un gd cn cs L a ccd cl outer) (call (.ref f) vs) Q E s
section
variable {w : World} {mean : ExcName → Option Value} {mg mb : Str → Option Value} {f : Addr} {vs : List Value} {k : Nat} {news : List (Addr × Obj)} {Back : Value → List (Addr × Obj) → Nat → Prop}
theorem CallsT.use (C : CallsT w mean mg mb f vs k news Back) {dp un : Nat} {gd : Option (List Code)} {cn : Str} {cs : Scope} {a : Addr} {ccd : Value} {cl : List (Str × Addr)} {outer : List Env} {A₀ : Around} {base h₀ : Heap} {L : Addr} {m : Str → Option Value} {s : Shared}
    {Q E : Value → Shared → Prop} (B : Below A₀ base outer h₀) (F : Fr h₀ L s.heap m) (X : (Mine.hd.heap_39 w.params).In h₀) (N : News h₀ L s.heap news)
    (T : Top Mine.hd.view_39 (looseW Mine.hd.view_39 [Str.ofString "nsmallest", Str.ofString "nlargest"]) mean mg mb h₀) (hk : cs.kind = .function)
    (hd : dp + k < recursionLimit) (hu : un + 8 * k < cLine) (ht : 0 < s.toks)
    (h : ∀ r news' h' tk', Fr h₀ L h' m → News h₀ L h' news' → Back r news' tk' → Q r { s with heap := h', toks := tk' }) :
    wpAny (model PySem.Challenge.rw_mr0275_01.row.prog w) (ktrTop dp un gd cn cs L a ccd cl outer) (call (.ref f) vs) Q E s :=
  C dp un gd cn cs a ccd cl outer A₀ base h₀ L m s Q E B F X N T hk hd hu ht h
end
section
variable {prog : Program} {w : World} {A₀ A : Around} {s : Shared} {base h₀ : Heap} {outer : List Env} {L : Addr} {m : Str → Option Value} {env : Env} {news : List (Addr × Obj)} {K : Frag} {p : Program} {loose : List Str} {mean : ExcName → Option Value} {mg mb : Str → Option Value}
/-- a def with cells is entered, the tokens having grown -/
theorem code_cellsT {R : Result → Shared → Prop} {name qual : Str} {params : Arguments} {body : List Stmt} {scope : Scope} {dV kV doc pm cdv ct oc : Value} {an od : Option Addr} {osl : Array (Option Value)} {f : Addr} {args : Args} {binds : List (Str × Value)}
    (B : Below A₀ base outer h₀) (F : Fr h₀ L s.heap m) (X₀ : K.In h₀) (N : News h₀ L s.heap news) (T : Top p loose mean mg mb h₀) (hA : A.frames = some (env :: outer)) (hf : env.frame = some L) (hke : env.scope.kind = .function)
    (ho : K.lookup f = some ⟨oc, od, .func (fnOf name qual params body scope dV kV doc pm an cdv ct), osl⟩) (hcd : codeIn K cdv qual = true) (hroom : A.depth < recursionLimit)
    (hbind : BindsTo s (fnOf name qual params body scope dV kV doc pm an cdv ct) args binds) (hkind : (binds.all fun y => scope.names.lookup y.1 == some .local || scope.names.lookup y.1 == some .cell) = true)
    (hnd : ((cellsFrom 0 scope.names []).map (·.1)).Nodup)
    (h : ∀ g L' h₁ tk cells, s.toks ≤ tk → Fr h₀ L g m → Fr g L' h₁ (bindL (envOfC qual scope L' f cdv).kindOf binds fun _ => none) → News g L' h₁ (cells ++ news) →
      CellsAre (bindC (envOfC qual scope L' f cdv).kindOf binds fun _ => none) (cellsFrom (L' + 1) scope.names []) cells → Below A base (env :: outer) g → K.In g → Top p loose mean mg mb g → (∀ p ∈ news, p.1 < L') →
      wpAny (model prog w) (A.deeper (envOfC qual scope L' f cdv)) (execs body (envOfC qual scope L' f cdv))
        (fun fl s' => LeaveK h₀ L m g R (match fl with | .ret v => v | _ => .none) s')
        (fun e s' => wpAny (model prog w) (A.deeper (envOfC qual scope L' f cdv)) (PySem.leaving (envOfC qual scope L' f cdv) e) (fun _ s'' => R (.error e) s'') (fun e' s'' => R (.error e') s'') s')
        { s with heap := h₁, toks := tk })
    (hco : scope.isCoroutine = false) (hgen : scope.isGenerator = false) (hk : scope.kind = .function) : codeAny (model prog w) A (.call (.ref f) args) R s := by
  obtain ⟨FG, BG, st, lv⟩ := groundX (R := R) B F N hA hf hke
  refine codeAny_call_function hroom ((X₀.keeps F.keep) _ _ ho) rfl hco hgen rfl (codeRec_of (X₀.keeps F.keep) hcd) (hbind _ _ _ _ ?_)
  refine wpAny_with_toks (n := s.toks) (Nat.le_refl _) (wpAny_newFunctionEnv_cells hk (kindsX hkind _) fun env' he s' x htk => ?_)
  subst he
  refine ⟨(T.nolimit.keeps F.keep).keeps x.toInCall.keep, codeAny_func ?_⟩
  obtain ⟨h₁, tk, rfl, _⟩ := x.done
  have hk₁ := x.toInCall.keep
  obtain ⟨cells, NC, Y⟩ := Cl.news (h₀ := s.heap) (Nat.le_refl _) fun n c hm => ⟨x.cell n c (lookup_of_mem_nodup (cellsFrom_names scope.names 0 (s.heap.objs.size + 1) [] [] rfl ▸ hnd) hm), x.above n c hm⟩
  refine wpAny_mono (h _ s.heap.objs.size h₁ tk cells htk FG ⟨x.toInCall.ns, fun b o e => hk₁ b o (of_hideAll _ e), Nat.le_of_eq (hideAll_size _ _)⟩ (fun p hp => ?_) Y BG (X₀.keeps st) (T.keeps st) (fun p hp => Heap.lt_size (N p hp).1)) (fun fl s' hl => lv _ _ hl) fun _ _ y => y
  rcases List.mem_append.mp hp with hp | hp
  · refine ⟨(NC p hp).1, (NC p hp).2.1, ?_⟩
    cases q : (hideAll s.heap (news.map (·.1))).get? p.1 with
    | none => rfl
    | some o => have := of_hideAll _ q; rw [(NC p hp).2.2] at this; cases this
  · exact ⟨hk₁ _ _ (N p hp).1, Nat.ne_of_lt (Heap.lt_size (N p hp).1), hideAll_none _ (List.mem_map_of_mem hp)⟩
end
section
local macro_rules | `(tactic| walk_at "execs cons") => `(tactic| ((with_reducible refine wpAny_execs_cons ?_); try dsimp only))
set_option maxRecDepth 100000 in
set_option maxHeartbeats 8000000 in
theorem xor_T (w mean mg mb) (x y : Int) (t u : Tok) (news) :
    CallsT w mean mg mb 110 [.int x t, .int y u] 1 news (fun r news' tk' => news' = news ∧ ∃ t, r = .int (Builtin.bitXor x y) t ∧ 0 < t ∧ t < tk') := by
  unfold CallsT
  k_fill
  intro dp un gd cn cs a ccd cl outer A₀ base h₀ L m s Q E B F X N T hk hd hu htk hret
  w_on
  w_strict (
  refine wpAny_call ?_
  k_dflt ktr_enter
  k_steps)
  exact hret _ _ _ _ (by assumption) (by assumption) ⟨rfl, _, rfl, Nat.succ_pos _, Nat.lt_succ_self _⟩
set_option maxRecDepth 100000 in
set_option maxHeartbeats 8000000 in
theorem and_T (w mean mg mb) (x : Int) (t u : Tok) (news) :
    CallsT w mean mg mb 89 [.int x t, .int 255 u] 1 news (fun r news' tk' => news' = news ∧ ∃ t, r = .int (x % 256) t ∧ 0 < t ∧ t < tk') := by
  unfold CallsT
  k_fill
  intro dp un gd cn cs a ccd cl outer A₀ base h₀ L m s Q E B F X N T hk hd hu htk hret
  w_on
  w_strict (
  refine wpAny_call ?_
  k_dflt ktr_enter
  k_steps)
  rw [bitAnd_m8]
  exact hret _ _ _ _ (by assumption) (by assumption) ⟨rfl, _, rfl, Nat.succ_pos _, Nat.lt_succ_self _⟩
end
end Mine
end

section
open PySem PySem.Spec PySem.Calls PySem.W PyProof.Rows PyProof.Rows.LCg
set_option Elab.async false
set_option maxHeartbeats 4000000
namespace Mine
/-- ints, and their tokens between nought and tk -/
def ToksIn (vs : List Value) (tk : Nat) : Prop := ∀ v ∈ vs, ∃ x t, v = .int x t ∧ 0 < t ∧ t < tk
/-- the end of an element -/
def EltEnd (h₀ : Heap) (L : Addr) (m : Str → Option Value) (s : Shared) (led : List (Addr × Obj)) (J : Value → Nat → Prop) (y : Value) (s₃ : Shared) : Prop :=
  ∃ h' tk', s₃ = { s with heap := h', toks := tk' } ∧ Fr h₀ L h' m ∧ News h₀ L h' led ∧ J y tk'
theorem EltEnd.intro {h₀ : Heap} {L : Addr} {m : Str → Option Value} {s : Shared} {led all : List (Addr × Obj)} {J : Value → Nat → Prop} {y : Value} {h' : Heap} {tk' : Nat} (F : Fr h₀ L h' m) (N : News h₀ L h' all) (hs : ∀ p ∈ led, p ∈ all) (hJ : J y tk') :
    EltEnd h₀ L m s led J y { s with heap := h', toks := tk' } := ⟨h', tk', rfl, F, fun p hp => N p (hs p hp), hJ⟩
section
variable {prog : Program} {w : World} {A : Around} {E : Value → Shared → Prop} {s : Shared} {env : Env} {h₀ : Heap} {m : Str → Option Value} {news : List (Addr × Obj)} {R : Addr} {vs : List Value} {c : Nat}

theorem list_isList {h : Heap} {L : Addr} (N : News h₀ L h news) (hR : (R, listOf vs.toArray c) ∈ news) : h.IsList R vs.toArray := PySem.IsL.isList (n := c) (N _ hR).1

/-- a for over a list of the ledger -/
theorem for_list {target : PySem.Expr} {body : List Stmt} {Q : Flow → Shared → Prop} (hh : A.handled = none) (F : Fr h₀ env.locals s.heap m) (N : News h₀ env.locals s.heap news) (hR : (R, listOf vs.toArray c) ∈ news)
    (J : Addr → Nat → (Str → Option Value) → List (Addr × Obj) → Nat → Prop) (hoff : ∀ I i m nw tk, J I i m nw tk → ∀ p ∈ nw, p.1 ≠ I) (hmono : ∀ I i m nw tk tk', J I i m nw tk → tk ≤ tk' → J I i m nw tk')
    (h0 : ∀ I, (∀ p ∈ news, p.1 < I) → env.locals < I → J I 0 m news s.toks)
    (step : ∀ I i v m₁ nw h tk own, i < vs.length → vs[i]? = some v → J I i m₁ nw tk → (∀ p ∈ own, p.1 = I ∨ p.1 = R) → (∃ o, (I, o) ∈ own) → Fr h₀ env.locals h m₁ → News h₀ env.locals h (own ++ nw) →
      wpAny (model prog w) A (assign target env v) (fun _ s₃ => wpAny (model prog w) A (execs body env) (FEnd h₀ env.locals own (J I (i + 1)) s) E s₃) E { s with heap := h, toks := tk })
    (done : ∀ I h' tk m' nw, Fr h₀ env.locals h' m' → News h₀ env.locals h' nw → J I vs.length m' nw tk → Q .next { s with heap := h', toks := tk }) :
    wpAny (model prog w) A (pyIter (.ref R)) (fun it s₂ => ForOk prog w A h₀ env target body Q E it s₂) E s := by
  have hl := list_isList N hR
  refine wpAny_pyIter_list hl ?_
  have up : ∀ b o, s.heap.get? b = some o → (s.heap.push { cls := .type "list_iterator", data := .fields #[.ref R, .int 0 0] }).get? b = some o := fun b o e => Heap.get?_push_of_some _ e
  have hlt : ∀ p ∈ news, p.1 < s.heap.objs.size := fun p hp => Heap.lt_size (N p hp).1
  have hRI : R ≠ s.heap.objs.size := Nat.ne_of_lt (hlt _ hR)
  have hI0 : h₀.get? s.heap.objs.size = none := F.fresh
  refine ⟨s.heap.objs.size, [s.heap.objs.size, R], [s.heap.objs.size], vs.toArray.size, _, _, m, news, J s.heap.objs.size, rfl, Walks.list hh s.heap.objs.size R hRI vs.toArray, ?_, ?_, ?_, hmono _, ⟨⟨_, Heap.get?_push_size _ rfl, rfl, rfl⟩, hl.push _⟩, F.keeps up, N.grown up, h0 _ hlt F.ns.lt, ?_, ?_⟩
  · intro h
    rcases List.mem_cons.mp h with h | h
    · exact Nat.ne_of_lt F.ns.lt h
    · exact (N _ hR).2.1 (List.mem_singleton.mp h).symm
  · intro b hb; rw [List.mem_singleton.mp hb]; exact hI0
  · intro i m nw tk hJ p hp hw
    exact hoff _ _ _ _ _ hJ p hp (List.mem_singleton.mp hw)
  · intro i v m₁ nw h tk own hi hv hJ hown hall hst F' N'
    refine step _ i v m₁ nw h tk own (by simpa using hi) (by simpa using hv) hJ (fun p hp => ?_) ?_ F' N'
    · have := hown p hp
      rcases List.mem_cons.mp this with e | e
      · exact .inl e
      · exact .inr (List.mem_singleton.mp e)
    · obtain ⟨o, ho, _⟩ := hst.1
      exact ⟨o, hall _ (.head _) hI0 o ho⟩
  · intro h' tk m' nw F' N' hJ
    rw [List.size_toArray] at hJ
    exact done _ h' tk m' nw F' N' hJ

variable {L : Addr}
/-- a block over a list of the ledger -/
theorem block_list {elt : PySem.Expr} {x : Str} {px : Pos} {scope : Scope} {cl : List (Str × Addr)} {mD : Addr → Str → Option Value} {Cn : Addr → Shared → Prop} (hh : A.handled = none) (F : Fr h₀ L s.heap m) (N : News h₀ L s.heap news) (hR : (R, listOf vs.toArray c) ∈ news) (hsz : vs.length ≤ 64)
    (J : Nat → List Value → Nat → Prop) (hmono : ∀ i ys tk tk', J i ys tk → tk ≤ tk' → J i ys tk') (h0 : J 0 [] s.toks)
    (turn : ∀ i v ys own C oC D m₂ h tk (E' : Value → Shared → Prop), i < vs.length → vs[i]? = some v → ys.length = i → J i ys tk → NsObj oC m₂ → m₂ x = some v → Fr h₀ L h m → News h₀ L h (news ++ ((C, oC) :: (D, lst ys) :: own)) →
      wpAny (model prog w) A (eval elt (compEnvC scope cl C env)) (EltEnd h₀ L m s (news ++ ((C, oC) :: (D, lst ys) :: own)) (fun y tk' => J (i + 1) (ys ++ [y]) tk')) E' { s with heap := h, toks := tk })
    (done : ∀ D h tk ys, Fr h₀ L h (mD D) → News h₀ L h ((D, listOf (List.toArray ys) ys.length) :: news) → (∀ p ∈ news, p.1 ≠ D) → ys.length = vs.length → J vs.length ys tk → Cn D { s with heap := h, toks := tk }) :
    wpAny (model prog w) A (pyIter (.ref R)) (BlockOk prog w A h₀ L m env (.Name x px) elt [x] scope cl mD Cn) E s := by
  have hl := list_isList N hR
  refine wpAny_pyIter_list hl ?_
  have up : ∀ b o, s.heap.get? b = some o → (s.heap.push { cls := .type "list_iterator", data := .fields #[.ref R, .int 0 0] }).get? b = some o := fun b o e => Heap.get?_push_of_some _ e
  have hlt : ∀ p ∈ news, p.1 < s.heap.objs.size := fun p hp => Heap.lt_size (N p hp).1
  have hRI : R ≠ s.heap.objs.size := Nat.ne_of_lt (hlt _ hR)
  have hI0 : h₀.get? s.heap.objs.size = none := F.fresh
  refine ⟨s.heap.objs.size, [s.heap.objs.size, R], [s.heap.objs.size], vs.toArray.size, _, _, [], news, fun i ys nw tk => nw = news ∧ J i ys tk, rfl, TW.ofWalks (Walks.list hh s.heap.objs.size R hRI vs.toArray) x px, ?_, ⟨⟨_, Heap.get?_push_size _ rfl, rfl, rfl⟩, hl.push _⟩, fun b hb => ?_, F.keeps up, N.grown up, ?_, ?_, ?_, fun i ys nw tk tk' h hle => ⟨h.1, hmono _ _ _ _ h.2 hle⟩, ⟨rfl, h0⟩, ?_, ?_, ?_⟩
  · rw [List.size_toArray, sizeLine_eq]; omega
  · show b < (s.heap.push _).objs.size
    rw [Heap.size_push]
    rcases List.mem_cons.mp hb with rfl | hb
    · exact Nat.lt_succ_self _
    · rw [List.mem_singleton.mp hb]; exact Nat.lt_succ_of_lt (hlt _ hR)
  · intro h
    rcases List.mem_cons.mp h with h | h
    · exact Nat.ne_of_lt F.ns.lt h
    · exact (N _ hR).2.1 (List.mem_singleton.mp h).symm
  · intro b hb; rw [List.mem_singleton.mp hb]; exact hI0
  · rintro i ys nw tk ⟨rfl, _⟩ p hp hw
    exact Nat.ne_of_lt (hlt p hp) (List.mem_singleton.mp hw)
  · intro p hp; cases hp
  · rintro i ys nw own C oC D m₂ h tk E' hi hyl ⟨rfl, hJ⟩ hoC ⟨v, hv, hm⟩ hSt F' N' hown hall hCD hCf hDf hoff
    refine wpAny_mono (turn i v ys own C oC D m₂ h tk E' (by simpa using hi) (by simpa using hv) hyl hJ hoC hm F' fun p hp => N' p ?_) (fun y s₃ h₃ => ?_) fun _ _ e => e
    · rcases List.mem_append.mp hp with hp | hp
      · exact .tail _ (.tail _ (List.mem_append_right _ hp))
      rcases List.mem_cons.mp hp with rfl | hp
      · exact .head _
      rcases List.mem_cons.mp hp with rfl | hp
      · exact .tail _ (.head _)
      · exact .tail _ (.tail _ (List.mem_append_left _ hp))
    · obtain ⟨h', tk', rfl, F₃, N₃, hJ₃⟩ := h₃
      refine ⟨h', tk', _, rfl, F₃, fun p hp => N₃ p ?_, hoff, rfl, hJ₃⟩
      rcases List.mem_cons.mp hp with rfl | hp
      · exact List.mem_append_right _ (.head _)
      rcases List.mem_cons.mp hp with rfl | hp
      · exact List.mem_append_right _ (.tail _ (.head _))
      rcases List.mem_append.mp hp with hp | hp
      · exact List.mem_append_right _ (.tail _ (.tail _ hp))
      · exact List.mem_append_left _ hp
  · rintro D h tk ys nw F' N' hne hyl ⟨rfl, hJ⟩
    rw [List.size_toArray] at hyl hJ
    exact done D h tk ys F' N' hne hyl hJ

/-- a block over a range from nought -/
theorem block_range {r : Addr} {n : Nat} {t u v : Tok} {elt : PySem.Expr} {x : Str} {px : Pos} {scope : Scope} {cl : List (Str × Addr)} {mD : Addr → Str → Option Value} {Cn : Addr → Shared → Prop} (hh : A.handled = none) (F : Fr h₀ L s.heap m) (N : News h₀ L s.heap news) (hr : IsRange s.heap r 0 (n : Int) 1 t u v) (hsz : n ≤ 64)
    (J : Nat → List Value → Nat → Prop) (hmono : ∀ i ys tk tk', J i ys tk → tk ≤ tk' → J i ys tk') (h0 : J 0 [] s.toks)
    (turn : ∀ i tv ys own C oC D m₂ h tk (E' : Value → Shared → Prop), i < n → ys.length = i → J i ys tk → NsObj oC m₂ → m₂ x = some (.int (i : Int) tv) → Fr h₀ L h m → News h₀ L h (news ++ ((C, oC) :: (D, lst ys) :: own)) →
      wpAny (model prog w) A (eval elt (compEnvC scope cl C env)) (EltEnd h₀ L m s (news ++ ((C, oC) :: (D, lst ys) :: own)) (fun y tk' => J (i + 1) (ys ++ [y]) tk')) E' { s with heap := h, toks := tk })
    (done : ∀ D h tk ys, Fr h₀ L h (mD D) → News h₀ L h ((D, listOf (List.toArray ys) ys.length) :: news) → (∀ p ∈ news, p.1 ≠ D) → ys.length = n → J n ys tk → Cn D { s with heap := h, toks := tk }) :
    wpAny (model prog w) A (pyIter (.ref r)) (BlockOk prog w A h₀ L m env (.Name x px) elt [x] scope cl mD Cn) E s := by
  refine wpAny_pyIter_range hr (small_up (by omega) (by omega)) ?_
  rw [size_up (n := (n : Int)) (by omega)]
  have up : ∀ b o, s.heap.get? b = some o → (s.heap.push { cls := .type "range_iterator", data := .fields #[rawInt 0, rawInt (n : Int), rawInt 1] }).get? b = some o := fun b o e => Heap.get?_push_of_some _ e
  have hlt : ∀ p ∈ news, p.1 < s.heap.objs.size := fun p hp => Heap.lt_size (N p hp).1
  have hI0 : h₀.get? s.heap.objs.size = none := F.fresh
  refine ⟨s.heap.objs.size, [s.heap.objs.size], [s.heap.objs.size], n, _, _, [], news, fun i ys nw tk => nw = news ∧ J i ys tk, rfl, TW.ofWalks (range_walks hh 0 n) x px, ?_, ?_, fun b hb => ?_, F.keeps up, N.grown up, ?_, ?_, ?_, fun i ys nw tk tk' h hle => ⟨h.1, hmono _ _ _ _ h.2 hle⟩, ⟨rfl, h0⟩, ?_, ?_, ?_⟩
  · rw [sizeLine_eq]; omega
  · show IsRangeIter _ _ _ _ _
    simpa using Heap.get?_push_size _ rfl
  · show b < (s.heap.push _).objs.size
    rw [Heap.size_push, List.mem_singleton.mp hb]; exact Nat.lt_succ_self _
  · intro h
    exact Nat.ne_of_lt F.ns.lt (List.mem_singleton.mp h)
  · intro b hb; rw [List.mem_singleton.mp hb]; exact hI0
  · rintro i ys nw tk ⟨rfl, _⟩ p hp hw
    exact Nat.ne_of_lt (hlt p hp) (List.mem_singleton.mp hw)
  · intro p hp; cases hp
  · rintro i ys nw own C oC D m₂ h tk E' hi hyl ⟨rfl, hJ⟩ hoC ⟨v, ⟨tv, rfl⟩, hm⟩ hSt F' N' hown hall hCD hCf hDf hoff
    rw [Int.zero_add] at hm
    refine wpAny_mono (turn i tv ys own C oC D m₂ h tk E' hi hyl hJ hoC hm F' fun p hp => N' p ?_) (fun y s₃ h₃ => ?_) fun _ _ e => e
    · rcases List.mem_append.mp hp with hp | hp
      · exact .tail _ (.tail _ (List.mem_append_right _ hp))
      rcases List.mem_cons.mp hp with rfl | hp
      · exact .head _
      rcases List.mem_cons.mp hp with rfl | hp
      · exact .tail _ (.head _)
      · exact .tail _ (.tail _ (List.mem_append_left _ hp))
    · obtain ⟨h', tk', rfl, F₃, N₃, hJ₃⟩ := h₃
      refine ⟨h', tk', _, rfl, F₃, fun p hp => N₃ p ?_, hoff, rfl, hJ₃⟩
      rcases List.mem_cons.mp hp with rfl | hp
      · exact List.mem_append_right _ (.head _)
      rcases List.mem_cons.mp hp with rfl | hp
      · exact List.mem_append_right _ (.tail _ (.head _))
      rcases List.mem_append.mp hp with hp | hp
      · exact List.mem_append_right _ (.tail _ (.tail _ hp))
      · exact List.mem_append_left _ hp
  · rintro D h tk ys nw F' N' hne hyl ⟨rfl, hJ⟩
    exact done D h tk ys F' N' hne hyl hJ
end
end Mine
end

section
open PySem PySem.W PyProof.Rows
namespace Mine
theorem nat_add_xor : ∀ (n a b : Nat), a ≤ n → a + b = (a ^^^ b) + 2 * (a &&& b)
  | 0, a, b, h => by have : a = 0 := by omega
                     subst this; simp
  | n + 1, a, b, h => by
    by_cases h0 : a = 0
    · subst h0; simp
    have ih := nat_add_xor n (a / 2) (b / 2) (by omega)
    have h1 : (a ^^^ b) / 2 = a / 2 ^^^ b / 2 := by have := xor_div a b 1; simpa using this
    have h2 : (a &&& b) / 2 = a / 2 &&& b / 2 := Nat.and_div_two
    have h3 := xor_mod2 a b
    have h4 : (a &&& b) % 2 = (a % 2) * (b % 2) := by
      have e : (a &&& b) % 2 = (a % 2) &&& (b % 2) := by
        have := Nat.and_mod_two_pow (a := a) (b := b) (n := 1)
        simpa using this
      rw [e]
      rcases Nat.mod_two_eq_zero_or_one a with p | p <;> rcases Nat.mod_two_eq_zero_or_one b with q | q <;> rw [p, q] <;> rfl
    rw [← h1, ← h2] at ih
    rcases Nat.mod_two_eq_zero_or_one a with p | p <;> rcases Nat.mod_two_eq_zero_or_one b with q | q <;> rw [p, q] at h3 h4 <;> omega
theorem xor_nat (a b : Nat) : Builtin.bitXor (Int.ofNat a) (Int.ofNat b) = Int.ofNat (a ^^^ b) := by
  rw [bitXor_and]
  have h : Builtin.bitAnd (Int.ofNat a) (Int.ofNat b) = Int.ofNat (a &&& b) := bitAnd_pp (by exact Int.natCast_nonneg a) (by exact Int.natCast_nonneg b)
  rw [h]
  have := nat_add_xor a a b (Nat.le_refl _)
  have e1 : Int.ofNat a = (a : Int) := rfl
  have e2 : Int.ofNat b = (b : Int) := rfl
  have e3 : Int.ofNat (a ^^^ b) = ((a ^^^ b : Nat) : Int) := rfl
  have e4 : Int.ofNat (a &&& b) = ((a &&& b : Nat) : Int) := rfl
  rw [e1, e2, e3, e4]
  omega
theorem ToksIn.mono {vs : List Value} {tk tk' : Nat} (h : ToksIn vs tk) (hle : tk ≤ tk') : ToksIn vs tk' := fun v hv => let ⟨x, t, e, p, q⟩ := h v hv; ⟨x, t, e, p, Nat.lt_of_lt_of_le q hle⟩
theorem ToksIn.append {vs ws : List Value} {tk : Nat} (h : ToksIn vs tk) (h' : ToksIn ws tk) : ToksIn (vs ++ ws) tk := fun v hv => (List.mem_append.mp hv).elim (h v) (h' v)
theorem ToksIn.one {x : Int} {t tk : Nat} (h : 0 < t) (h' : t < tk) : ToksIn [.int x t] tk := fun v hv => by rw [List.mem_singleton.mp hv]; exact ⟨x, t, rfl, h, h'⟩
theorem take_snocN {α : Type} {l : List α} {i : Nat} {x : α} (h : l[i]? = some x) : l.take (i + 1) = l.take i ++ [x] := by
  rw [List.take_add_one, h]; rfl
/-- a natural number at a place -/
theorem nats_at {vs : List Value} {a : List Nat} (h : IntsAre vs (a.map Int.ofNat)) {i : Nat} {v : Value} (e : vs[i]? = some v) : ∃ n t, v = .int (Int.ofNat n) t ∧ a[i]? = some n := by
  obtain ⟨x, t, rfl, hx⟩ := IntsAre.at h i v e
  rw [List.getElem?_map] at hx
  cases q : a[i]? with
  | none => rw [q] at hx; cases hx
  | some n => rw [q] at hx; exact ⟨n, t, by rw [← Option.some.inj hx], rfl⟩
theorem row_le : ∀ (l : List Nat), l.length ≤ 5 → (rowF l).length ≤ 32 := by
  have h : ∀ (k : Nat) (l : List Nat), l.length = k → (rowF l).length = 2 ^ k := by
    intro k
    induction k with
    | zero => intro l hl; rw [List.length_eq_zero_iff.mp hl]; rfl
    | succ k ih =>
      intro l hl
      have hne : l ≠ [] := by intro e; rw [e] at hl; simp at hl
      rw [← List.dropLast_concat_getLast hne, row_snoc, List.length_append, List.length_map, ih _ (by rw [List.length_dropLast]; omega), Nat.pow_succ]
      omega
  intro l hl
  rw [h _ _ rfl]
  exact Nat.pow_le_pow_right (by decide) hl
theorem News.cons2 {h₀ h : Heap} {L : Addr} {led : List (Addr × Obj)} {p q : Addr × Obj} (N : News h₀ L h led) (hp : p ∈ led) (hq : q ∈ led) : News h₀ L h (p :: q :: led) := fun r hr => by
  rcases List.mem_cons.mp hr with rfl | hr
  · exact N _ hp
  rcases List.mem_cons.mp hr with rfl | hr
  · exact N _ hq
  · exact N _ hr
theorem Fr.congr {h₀ h : Heap} {L : Addr} {m m' : Str → Option Value} (F : Fr h₀ L h m) (e : ∀ z, m z = m' z) : Fr h₀ L h m' := by
  have : m = m' := funext e
  rw [← this]; exact F
/-- a call, its tokens having grown -/
theorem CallsT.useM {w : World} {mean : ExcName → Option Value} {mg mb : Str → Option Value} {f : Addr} {vs : List Value} {k : Nat} {news : List (Addr × Obj)} {Back : Value → List (Addr × Obj) → Nat → Prop} (C : CallsT w mean mg mb f vs k news Back) {dp un : Nat} {gd : Option (List Code)} {cn : Str} {cs : Scope} {a : Addr} {ccd : Value} {cl : List (Str × Addr)} {outer : List Env} {A₀ : Around} {base h₀ : Heap} {L : Addr} {m : Str → Option Value} {s : Shared}
    {Q E : Value → Shared → Prop} (B : Below A₀ base outer h₀) (F : Fr h₀ L s.heap m) (X : (Mine.hd.heap_39 w.params).In h₀) (N : News h₀ L s.heap news)
    (T : Top Mine.hd.view_39 (looseW Mine.hd.view_39 [Str.ofString "nsmallest", Str.ofString "nlargest"]) mean mg mb h₀) (hk : cs.kind = .function)
    (hd : dp + k < recursionLimit) (hu : un + 8 * k < cLine) (ht : 0 < s.toks)
    (h : ∀ r news' h' tk', s.toks ≤ tk' → Fr h₀ L h' m → News h₀ L h' news' → Back r news' tk' → Q r { s with heap := h', toks := tk' }) :
    wpAny (model PySem.Challenge.rw_mr0275_01.row.prog w) (ktrTop dp un gd cn cs L a ccd cl outer) (call (.ref f) vs) Q E s :=
  wpAny_with_toks (n := s.toks) (Nat.le_refl _) (C dp un gd cn cs a ccd cl outer A₀ base h₀ L m s _ _ B F X N T hk hd hu ht fun r news' h' tk' F' N' hb htk => h r news' h' tk' htk F' N' hb)
end Mine
end

section
open PySem PySem.W PyProof.Rows PyProof.Rows.LCg
set_option Elab.async false
set_option pp.maxSteps 20000
set_option pp.deepTerms false
set_option pp.deepTerms.threshold 6
namespace Mine
section
local macro_rules | `(tactic| walk_at "execs cons") => `(tactic| ((with_reducible refine wpAny_execs_cons ?_); try dsimp only))
local macro_rules | `(tactic| walk_at "call ref") => `(tactic| (refine Hold.mk ?_))
local macro_rules | `(tactic| walk_at "exec For Name Name cons nil") => `(tactic| (refine Hold.mk ?_))
local macro_rules | `(tactic| walk_at "binaryOp Add ref ref") => `(tactic| (refine Hold.mk ?_))
local macro_rules | `(tactic| walk_at "pyIter ref") => `(tactic| (refine Hold.mk ?_))
local macro_rules | `(tactic| walk_at "eval ListComp") => `(tactic| (refine Hold.mk ?_))
set_option maxRecDepth 100000 in
set_option maxHeartbeats 8000000 in
theorem row_ok (w mean mg mb) (R : Addr) (vs : List Value) (a : List Nat) (c' : Nat) (rest) (hI : IntsAre vs (a.map Int.ofNat)) (hl : vs.length = 5) (ha : ∀ x ∈ a, x < 256) :
    CallsT w mean mg mb 127 [.ref R] 3 ((R, listOf vs.toArray c') :: rest)
      (fun r news' tk' => ∃ D2 vs' c2, r = .ref D2 ∧ news' = (D2, listOf (List.toArray vs') c2) :: (R, listOf vs.toArray c') :: rest ∧ IntsAre vs' ((rowF a).map Int.ofNat) ∧ ToksIn vs' tk') := by
  unfold CallsT
  k_fill
  intro dp un gd cn cs a' ccd cl outer A₀ base h₀ L m s Q E B F X N T hk hd hu htk hret
  w_on
  w_strict (
  refine wpAny_call ?_
  k_dflt (refine' code_cellsT ?k1 ?k2 ?k3 ?k4 ?k5 ?kA ?kF ?kK ?k6 ?k7 ?k8 ?k9 ?kB ?kD ?_ ?c2 ?c3 ?c4; (case kA => exact rfl); (case kF => exact rfl); (case kK => assumption); (case k1 => k_asm); (case k2 => k_asm); (case k3 => k_asm); (case k4 => k_asm); (case k5 => k_asm); (case k6 => k_is); (case k7 => k_is); (case k8 => ktr_room); (case k9 => exact BindsTo.of_eq rfl); (case kB => exact rfl); (case kD => decide +kernel); (case c2 => exact rfl); (case c3 => exact rfl); (case c4 => exact rfl); k_whole; intro g' L' h' tk' cells' htk' FG' F' N' Y' B' X' T' l1; (try k_lt l1); (have hY := CellsAre.one Y'); obtain ⟨o1, hE1, d1⟩ := hY; subst hE1; clear Y'; (try simp only [List.cons_append, List.nil_append] at N'); (try dsimp only); (try k_fold))
  k_steps)
  unfold Hold
  rename_i Dr _ l2 h2 F2 N2
  k_dflt (refine' for_tk F2 ?_ ?zs ?zE; (case zs => (intro _; with_unfolding_all rfl)); (case zE => (first | passes_own | with_unfolding_all passes_own)))
  w_strict (k_steps)
  unfold Hold
  have hnl := IntsAre.length (by assumption : IntsAre vs (a.map Int.ofNat))
  rw [List.length_map, hl] at hnl
  have F2' := F2
  generalize hm0 : bindL _ _ _ = m₀ at F2'
  have htk0 : 0 < tk' := Nat.lt_of_lt_of_le htk htk'
  k_dflt (refine' for_list rfl F2 N2 ?zR (fun I i m₁ nw tk => ∃ D ws c o v0, nw = (D, listOf (List.toArray ws) c) :: (L' + 1, o) :: (R, listOf vs.toArray c') :: rest ∧ m₁ = (fun z => if z = Str.ofString "row" then some (.ref D) else m₀ z) ∧ o.data = .cell v0 ∧ IntsAre ws ((rowF (a.take i)).map Int.ofNat) ∧ ToksIn ws tk ∧ 0 < tk ∧ (∀ p ∈ nw, p.1 ≠ I) ∧ D ≠ L' + 1) ?_ ?_ ?_ ?_ ?_; (case zR => exact .tail _ (.tail _ (.head _))))
  · rintro I i m nw tk ⟨D, ws, c, o, v0, rfl, rfl, h1, h2, h3, h4, h5, h6⟩; exact h5
  · rintro I i m nw tk tk' ⟨D, ws, c, o, v0, rfl, rfl, h1, h2, h3, h4, h5, h6⟩ hle
    exact ⟨D, ws, c, o, v0, rfl, rfl, h1, h2, fun v hv => let ⟨x, t, e, p, q⟩ := h3 v hv; ⟨x, t, e, p, Nat.lt_of_lt_of_le q hle⟩, Nat.lt_of_lt_of_le h4 hle, h5, h6⟩
  · intro I hI1 hI2
    refine ⟨Dr, [Value.int 0 tk'], 0, o1, _, rfl, by rw [← hm0], d1, ?_, ?_, ?_, fun p hp => Nat.ne_of_lt (hI1 p hp), Nat.ne_of_gt l2.1⟩
    · exact .cons _ _ .nil
    · intro v hv
      rw [List.mem_singleton.mp hv]
      exact ⟨_, _, rfl, htk0, Nat.lt_succ_of_lt (Nat.lt_succ_self _)⟩
    · exact Nat.succ_pos _
  · rintro I i v m₁ nw h tk own hi hv ⟨D, ws, c, o, v0, rfl, rfl, h1, h2, h3, h4, h5, h6⟩ ho ⟨oI, hoI⟩ F3 N3
    obtain ⟨xv, tv, rfl, hxv⟩ := IntsAre.at hI i v hv
    have N4 : News g' L' h ((L' + 1, o) :: (D, listOf (List.toArray ws) c) :: (R, listOf vs.toArray c') :: (own ++ rest)) := fun p hp => N3 p (by
      simp only [List.mem_cons, List.mem_append] at hp ⊢; grind)
    clear N3
    refine wpAny_assign_Name ?_
    k_dflt (refine' storeX_C F3 N4 ?zc (.head ?_) h1 ?_; (case zc => rfl))
    · intro p hp
      rcases List.mem_cons.mp hp with rfl | hp
      · exact h6
      rcases List.mem_cons.mp hp with rfl | hp
      · exact Nat.ne_of_lt (Nat.lt_succ_of_lt l1.1)
      rcases List.mem_append.mp hp with hp | hp
      · rcases ho p hp with e | e
        · rw [e]; exact fun q => h5 (L' + 1, o) (.tail _ (.head _)) q.symm
        · rw [e]; exact Nat.ne_of_lt (Nat.lt_succ_of_lt l1.1)
      · exact Nat.ne_of_lt (Nat.lt_succ_of_lt (allLt_mem l1.2 p hp))
    intro h7 o7 F7 N7 d7
    clear N4 F3
    w_strict (k_steps)
    unfold Hold
    k_dflt (refine' comp_eval [Str.ofString "x"] ?zF ?zcl ?zce ?zki ?znm ?zx ?_ ?zhs; (case zF => k_asm); (case zcl => with_unfolding_all rfl); (case zce => decide); (case zki => rfl); (case znm => decide); (case zx => decide); (case zhs => (intro _; with_unfolding_all rfl)))
    w_strict (k_steps)
    unfold Hold
    have hwl : ws.length = (rowF (a.take i)).length := by have := IntsAre.length h2; simpa using this
    have hrl : ws.length ≤ 32 := by rw [hwl]; exact row_le _ (by rw [List.length_take]; omega)
    obtain ⟨nv, rfl, hnv⟩ : ∃ nv : Nat, xv = Int.ofNat nv ∧ a[i]? = some nv := by
      rw [List.getElem?_map] at hxv
      cases e : a[i]? with
      | none => rw [e] at hxv; cases hxv
      | some q => rw [e] at hxv; exact ⟨q, (Option.some.inj hxv).symm, rfl⟩
    k_dflt (refine' block_list rfl F7 N7 ?zR ?zs (fun j ys tk2 => IntsAre ys ((((rowF (a.take i)).take j).map (· ^^^ nv)).map Int.ofNat) ∧ ToksIn ys tk2 ∧ 0 < tk2 ∧ tk ≤ tk2) ?_ ?_ ?_ ?_; (case zR => exact .tail _ (.head _)); (case zs => omega))
    · rintro j ys tk2 tk3 ⟨a1, a2, a3, a4⟩ hle
      exact ⟨a1, fun v hv => let ⟨x, t, e, p, q⟩ := a2 v hv; ⟨x, t, e, p, Nat.lt_of_lt_of_le q hle⟩, Nat.lt_of_lt_of_le a3 hle, Nat.le_trans a4 hle⟩
    · exact ⟨.nil, (fun v hv => nomatch hv), h4, Nat.le_refl _⟩
    · rintro j v ys own2 C oC D2 m₂ h8 tk8 E' hj hv8 hyl ⟨a1, a2, a3, a4⟩ hoC hm F8 N8
      obtain ⟨xj, tj, rfl, hxj⟩ := IntsAre.at h2 j v hv8
      obtain ⟨nj, rfl, hnj⟩ : ∃ nj : Nat, xj = Int.ofNat nj ∧ (rowF (a.take i))[j]? = some nj := by
        rw [List.getElem?_map] at hxj
        cases e : (rowF (a.take i))[j]? with
        | none => rw [e] at hxj; cases hxj
        | some q => rw [e] at hxj; exact ⟨q, (Option.some.inj hxj).symm, rfl⟩
      have N9 := News.cons2 N8 (p := (C, oC)) (q := (L' + 1, o7)) (List.mem_append_right _ (.head _)) (List.mem_append_left _ (.head _))
      generalize hled : (L' + 1, o7) :: _ ++ _ = led at N8 N9 ⊢
      clear N8 N7
      w_strict (k_steps)
      unfold Hold
      k_dflt (refine' CallsT.useM (xor_T _ _ _ _ (Int.ofNat nj) (Int.ofNat nv) tj tv _) ?zB ?zF ?zX ?zN ?zT ?zk ?zd ?zu ?zt ?_)
      case zB => k_asm
      case zF => k_asm
      case zX => k_asm
      case zN => k_asm
      case zT => k_asm
      case zk => rfl
      case zd => ktr_room
      case zu => ktr_units
      case zt => exact a3
      rintro rk newsk hk4 tkk hgrow Fk Nk ⟨rfl, tx, rfl, t0, t1⟩
      clear N9 F8
      w_strict (k_steps)
      refine EltEnd.intro (by assumption) (by assumption) (fun p hp => .tail _ (.tail _ hp)) ⟨?_, ?_, Nat.lt_of_le_of_lt (Nat.zero_le _) t1, ?_⟩
      · rw [take_snocN hnj, List.map_append, List.map_append, xor_nat]
        exact IntsAre.snoc a1 _ _
      · exact (a2.mono hgrow).append (ToksIn.one t0 t1)
      · exact Nat.le_trans a4 hgrow
    · rintro D2 h8 tk8 ys F8 N8 hne hyl ⟨a1, a2, a3, a4⟩
      clear N7 F7
      w_strict (k_steps)
      unfold Hold
      k_dflt (refine' kmk_add_lit (its := ws.toArray) (its2 := ys.toArray) (zs := ws ++ ys) F8 N8 ?za ?zb ?ze ?_ ?zz)
      case za => exact list_isList (c := c) N8 (.tail _ (.tail _ (.head _)))
      case zb => exact list_isList N8 (.head _)
      case ze => simp
      case zz => simp only [sizeLine_eq]; omega
      intro D9 h9 F9 N9 l9
      clear F8 N8
      w_strict (k_steps)
      rename_i F10 N10
      refine FEnd.intro (Fr.congr F10 (m' := fun z => if z = Str.ofString "row" then some (.ref D9) else m₀ z) (fun z => ?_)) N10 ?_ ⟨D9, ws ++ ys, 0, o7, _, rfl, rfl, d7, ?_, (h3.mono (Nat.le_succ_of_le a4)).append (a2.mono (Nat.le_succ _)), Nat.succ_pos _, ?_, ?_⟩
      · by_cases hz : z = Str.ofString "row"
        · simp only [hz, if_true]
        · simp only [hz, if_false]
      · intro p hp
        rcases List.mem_append.mp hp with hp | hp
        · exact .tail _ (.tail _ (.tail _ (.tail _ (.tail _ (List.mem_append_left _ hp)))))
        rcases List.mem_cons.mp hp with rfl | hp
        · exact .head _
        rcases List.mem_cons.mp hp with rfl | hp
        · exact .tail _ (.tail _ (.head _))
        rcases List.mem_cons.mp hp with rfl | hp
        · exact .tail _ (.tail _ (.tail _ (.tail _ (.head _))))
        · exact .tail _ (.tail _ (.tail _ (.tail _ (.tail _ (List.mem_append_right _ hp)))))
      · rw [take_snocN hnv, row_snoc, List.map_append]
        rw [List.take_of_length_le (Nat.le_of_eq hwl.symm)] at a1
        exact IntsAre.append h2 a1
      · intro p hp
        rcases List.mem_cons.mp hp with rfl | hp
        · exact Nat.ne_of_gt (l9 (I, oI) (.tail _ (.tail _ (.tail _ (.tail _ (List.mem_append_left _ hoI))))))
        rcases List.mem_cons.mp hp with rfl | hp
        · exact h5 (L' + 1, o) (.tail _ (.head _))
        · exact h5 p (.tail _ (.tail _ hp))
      · exact Nat.ne_of_gt (l9 (L' + 1, o7) (.tail _ (.head _)))
  · rintro I h' tk m' nw F3 N3 ⟨D, ws, c, o, v0, rfl, rfl, h1, h2, h3, h4, h5, h6⟩
    w_strict (k_steps)
    rename_i F4 N4 _ _
    refine hret _ _ _ _ F4 (fun p hp => N4 p ?_) ⟨D, ws, c, rfl, rfl, ?_, h3⟩
    · rcases List.mem_cons.mp hp with rfl | hp
      · exact .head _
      · exact .tail _ (.tail _ hp)
    · rw [hl, List.take_of_length_le (Nat.le_of_eq hnl.symm)] at h2; exact h2
end
end Mine
end

section
open PySem PySem.W PyProof.Rows PyProof.Rows.LCg
set_option Elab.async false
set_option pp.maxSteps 20000
set_option pp.deepTerms false
set_option pp.deepTerms.threshold 6
namespace Mine
theorem bit_int (x b : Nat) : ((Int.ofNat x).fdiv (Int.ofNat b)).fmod 2 = Int.ofNat (x / b % 2) := by
  rw [Int.fdiv_eq_ediv_of_nonneg _ (show 0 ≤ Int.ofNat b from Int.natCast_nonneg b), Int.fmod_eq_emod_of_nonneg _ (by decide)]
  rfl
section
local macro_rules | `(tactic| walk_at "binaryOp FloorDiv int int") => `(tactic| ((with_reducible refine floordiv_int ?zb ?_ (Or.inl (PyProof.noPylong_small ?zp))); (case zb => assumption); (case zp => assumption)))
set_option maxRecDepth 100000 in
set_option maxHeartbeats 8000000 in
theorem without_ok (w mean mg mb) (x h b : Nat) (t u v : Tok) (hb : 0 < b) (hb2 : b < 1000) (news) :
    Calls w mean mg mb 134 [.int (Int.ofNat x) t, .int (Int.ofNat h) u, .int (Int.ofNat b) v] 1 news (fun r news' => news' = news ∧ ∃ t, r = .int (Int.ofNat (without x h b)) t) := by
  unfold Calls
  k_fill
  intro dp un gd cn cs a ccd cl outer A₀ base h₀ L m s Q E B F X N T hk hd hu hret
  w_on
  have hb0 : Int.ofNat b ≠ 0 := by intro e; have : (b : Int) = 0 := e; omega
  have hb1 : (Int.ofNat b).natAbs < 1073741824 := by show ((b : Int)).natAbs < _; omega
  w_strict (
  refine wpAny_call ?_
  k_dflt ktr_enter
  k_steps)
  · (with_reducible rename (Int.fmod _ _ = _) => h1); (rename Fr _ _ _ _ => F1); (rename News _ _ _ _ => N1)
    rw [bit_int] at h1
    have h2 : x / b % 2 = 1 := Int.ofNat.inj h1
    have e : without x h b = x ^^^ h := by unfold without; rw [if_pos h2]
    rw [xor_nat, ← e]
    exact hret _ _ _ _ F1 N1 ⟨rfl, _, rfl⟩
  · (with_reducible rename (Int.fmod _ _ ≠ _) => h1); (rename Fr _ _ _ _ => F1); (rename News _ _ _ _ => N1)
    rw [bit_int] at h1
    have h2 : ¬ x / b % 2 = 1 := fun e => h1 (by rw [e]; rfl)
    have e : without x h b = x := by unfold without; rw [if_neg h2]
    exact hret _ _ _ _ F1 N1 ⟨rfl, t, by rw [e]⟩
end
end Mine
end

section
open PySem PySem.Spec PySem.Calls PySem.W PyProof.Rows PyProof.Rows.LCg
set_option Elab.async false
set_option maxHeartbeats 4000000
namespace Mine
section
variable {prog : Program} {w : World} {A : Around} {E : Value → Shared → Prop} {s : Shared} {env : Env} {h₀ : Heap} {m : Str → Option Value} {news : List (Addr × Obj)}
/-- a for over a range -/
theorem for_range {r : Addr} {a b c : Int} {n : Nat} {t u v : Tok} {target : PySem.Expr} {body : List Stmt} {Q : Flow → Shared → Prop} (hh : A.handled = none) (F : Fr h₀ env.locals s.heap m) (N : News h₀ env.locals s.heap news) (hr : IsRange s.heap r a b c t u v)
    (hsm : Builtin.Range.small a b c = true) (hsz : Builtin.Range.rangeSize a b c = (n : Int))
    (J : Addr → Nat → (Str → Option Value) → List (Addr × Obj) → Nat → Prop) (hoff : ∀ I i m nw tk, J I i m nw tk → ∀ p ∈ nw, p.1 ≠ I) (hmono : ∀ I i m nw tk tk', J I i m nw tk → tk ≤ tk' → J I i m nw tk')
    (h0 : ∀ I, (∀ p ∈ news, p.1 < I) → env.locals < I → J I 0 m news s.toks)
    (step : ∀ I i tv m₁ nw h tk own, i < n → J I i m₁ nw tk → (∀ p ∈ own, p.1 = I) → (∃ o, (I, o) ∈ own) → Fr h₀ env.locals h m₁ → News h₀ env.locals h (own ++ nw) →
      wpAny (model prog w) A (assign target env (.int (a + (i : Nat) * c) tv)) (fun _ s₃ => wpAny (model prog w) A (execs body env) (FEnd h₀ env.locals own (J I (i + 1)) s) E s₃) E { s with heap := h, toks := tk })
    (done : ∀ I h' tk m' nw, Fr h₀ env.locals h' m' → News h₀ env.locals h' nw → J I n m' nw tk → Q .next { s with heap := h', toks := tk }) :
    wpAny (model prog w) A (pyIter (.ref r)) (fun it s₂ => ForOk prog w A h₀ env target body Q E it s₂) E s := by
  refine wpAny_pyIter_range hr hsm ?_
  rw [hsz]
  have up : ∀ b' o, s.heap.get? b' = some o → (s.heap.push { cls := .type "range_iterator", data := .fields #[rawInt a, rawInt (n : Int), rawInt c] }).get? b' = some o := fun b o e => Heap.get?_push_of_some _ e
  have hlt : ∀ p ∈ news, p.1 < s.heap.objs.size := fun p hp => Heap.lt_size (N p hp).1
  have hI0 : h₀.get? s.heap.objs.size = none := F.fresh
  have g : (s.heap.push { cls := .type "range_iterator", data := .fields #[rawInt a, rawInt (n : Int), rawInt c] }).get? s.heap.objs.size = some { cls := .type "range_iterator", data := .fields #[rawInt a, rawInt (n : Int), rawInt c] } := Heap.get?_push_size _ rfl
  refine ⟨s.heap.objs.size, [s.heap.objs.size], [s.heap.objs.size], n, _, _, m, news, J s.heap.objs.size, rfl, Walks.range hh s.heap.objs.size a c n, ?_, ?_, ?_, hmono _, ?_, F.keeps up, N.grown up, h0 _ hlt F.ns.lt, ?_, ?_⟩
  · intro h
    exact Nat.ne_of_lt F.ns.lt (List.mem_singleton.mp h)
  · intro b hb; rw [List.mem_singleton.mp hb]; exact hI0
  · intro i m nw tk hJ p hp hw
    exact hoff _ _ _ _ _ hJ p hp (List.mem_singleton.mp hw)
  · show IsRangeIter _ _ _ _ _
    simpa using g
  · rintro i v m₁ nw h tk own hi ⟨tv, rfl⟩ hJ hown hall hst F' N'
    refine step _ i tv m₁ nw h tk own hi hJ (fun p hp => List.mem_singleton.mp (hown p hp)) ?_ F' N'
    exact ⟨_, hall _ (.head _) hI0 _ hst⟩
  · intro h' tk m' nw F' N' hJ
    exact done _ h' tk m' nw F' N' hJ
end
end Mine
end

section
open PySem PySem.Spec PySem.Calls PySem.W PyProof.Rows PyProof.Rows.LCg
set_option Elab.async false
set_option maxHeartbeats 4000000
namespace Mine
section
variable {prog : Program} {w : World} {A : Around} {E : Value → Shared → Prop} {s : Shared} {env : Env} {h₀ : Heap} {m : Str → Option Value} {news : List (Addr × Obj)}
/-- a for over a reversed list -/
theorem for_rev {I R : Addr} {vs : List Value} {c : Nat} {target : PySem.Expr} {body : List Stmt} {Q : Flow → Shared → Prop} (hh : A.handled = none) (F : Fr h₀ env.locals s.heap m) (N : News h₀ env.locals s.heap ((I, revObj R ((vs.length : Int) - 1)) :: news)) (hR : (R, listOf vs.toArray c) ∈ news)
    (J : Nat → (Str → Option Value) → List (Addr × Obj) → Nat → Prop) (hoff : ∀ i m nw tk, J i m nw tk → ∀ p ∈ nw, p.1 ≠ I) (hmono : ∀ i m nw tk tk', J i m nw tk → tk ≤ tk' → J i m nw tk')
    (h0 : J 0 m news s.toks) (hRI : R ≠ I)
    (step : ∀ i v m₁ nw h tk own, i < vs.length → vs[vs.length - 1 - i]? = some v → J i m₁ nw tk → (∀ p ∈ own, p.1 = I ∨ p.1 = R) → (∃ o, (I, o) ∈ own) → Fr h₀ env.locals h m₁ → News h₀ env.locals h (own ++ nw) →
      wpAny (model prog w) A (assign target env v) (fun _ s₃ => wpAny (model prog w) A (execs body env) (FEnd h₀ env.locals own (J (i + 1)) s) E s₃) E { s with heap := h, toks := tk })
    (done : ∀ h' tk m' nw, Fr h₀ env.locals h' m' → News h₀ env.locals h' nw → J vs.length m' nw tk → Q .next { s with heap := h', toks := tk }) :
    wpAny (model prog w) A (pyIter (.ref I)) (fun it s₂ => ForOk prog w A h₀ env target body Q E it s₂) E s := by
  have hl : s.heap.IsList R vs.toArray := list_isList (fun p hp => N p (.tail _ hp)) hR
  have hit : s.heap.IsRevIter I R ((vs.length : Int) - 1) := ⟨_, (N _ (.head _)).1, rfl, rfl⟩
  refine wpAny_pyIter_revIter hit ?_
  have hI0 : h₀.get? I = none := (N _ (.head _)).2.2
  refine ⟨I, [I, R], [I], vs.toArray.size, _, _, m, news, J, rfl, Walks.listRev hh I R hRI vs.toArray, ?_, ?_, ?_, hmono, ⟨Nat.zero_le _, ?_, hl⟩, F, (fun p hp => N p (.tail _ hp)), h0, ?_, ?_⟩
  · intro h
    rcases List.mem_cons.mp h with h | h
    · exact (N _ (.head _)).2.1 h.symm
    · exact (N _ (.tail _ hR)).2.1 (List.mem_singleton.mp h).symm
  · intro b hb; rw [List.mem_singleton.mp hb]; exact hI0
  · intro i m nw tk hJ p hp hw
    exact hoff _ _ _ _ hJ p hp (List.mem_singleton.mp hw)
  · simpa using hit
  · intro i v m₁ nw h tk own hi hv hJ hown hall hst F' N'
    refine step i v m₁ nw h tk own (by simpa using hi) (by simpa using hv) hJ (fun p hp => ?_) ?_ F' N'
    · have := hown p hp
      rcases List.mem_cons.mp this with e | e
      · exact .inl e
      · exact .inr (List.mem_singleton.mp e)
    · obtain ⟨o, ho, _⟩ := hst.2.1
      exact ⟨o, hall _ (.head _) hI0 o ho⟩
  · intro h' tk m' nw F' N' hJ
    rw [List.size_toArray] at hJ
    exact done h' tk m' nw F' N' hJ
end
end Mine
end

section
open PySem PySem.W PyProof.Rows PyProof.Rows.LCg
set_option Elab.async false
set_option pp.maxSteps 20000
set_option pp.deepTerms false
set_option pp.deepTerms.threshold 6
namespace Mine
theorem mod2_int (d : Nat) : (Int.ofNat d).fmod 2 = Int.ofNat (d % 2) := by
  rw [Int.fmod_eq_emod_of_nonneg _ (by decide)]; rfl
theorem half_int (d : Nat) : (Int.ofNat d).fdiv 2 = Int.ofNat (d / 2) := by
  rw [Int.fdiv_eq_ediv_of_nonneg _ (by decide)]; rfl
section
local macro_rules | `(tactic| walk_at "exec For Name Name cons nil") => `(tactic| (refine Hold.mk ?_))
local macro_rules | `(tactic| walk_at "exec For Name Call cons nil") => `(tactic| (refine Hold.mk ?_))
local macro_rules | `(tactic| walk_at "pyIter ref") => `(tactic| (refine Hold.mk ?_))
set_option maxRecDepth 100000 in
set_option maxHeartbeats 8000000 in
theorem made_ok (w mean mg mb) (R : Addr) (vs : List Value) (b : List Nat) (c' : Nat) (rest) (hI : IntsAre vs (b.map Int.ofNat)) (hl : vs.length ≤ 5) (j : Nat) (tj : Tok) :
    Calls w mean mg mb 146 [.ref R, .int (Int.ofNat j) tj] 1 ((R, listOf vs.toArray c') :: rest)
      (fun r news' => news' = (R, listOf vs.toArray c') :: rest ∧ ∃ t, r = .int (Int.ofNat (made b j)) t) := by
  unfold Calls
  k_fill
  intro dp un gd cn cs a ccd cl outer A₀ base h₀ L m s Q E B F X N T hk hd hu hret
  w_on
  w_strict (
  refine wpAny_call ?_
  k_dflt ktr_enter
  k_steps)
  unfold Hold
  (rename Fr _ _ _ _ => F2)
  k_dflt (refine' for_tk F2 ?_ ?zs ?zE; (case zs => (intro _; with_unfolding_all rfl)); (case zE => (first | passes_own | with_unfolding_all passes_own)))
  w_strict (k_steps)
  unfold Hold
  (rename Fr _ _ _ _ => F3)
  (rename News _ _ _ _ => N3)
  (rename R < _ ∧ _ => l3)
  have hnl := IntsAre.length hI
  rw [List.length_map] at hnl
  obtain ⟨m₀, tm0, F4⟩ : ∃ (m₀ : Str → Option Value) (tm0 : Tok), Fr _ _ _ (fun z => if z = Str.ofString "digits" then some (.int (Int.ofNat j) tj) else if z = Str.ofString "made" then some (.int 0 tm0) else m₀ z) := ⟨_, _, F3⟩
  clear F3
  k_dflt (refine' for_rev rfl F4 N3 (.head _) (fun i m₁ nw tk => nw = (R, listOf vs.toArray c') :: rest ∧ ∃ d td md tm mh, m₁ = (fun z => if z = Str.ofString "digits" then some (.int (Int.ofNat d) td) else if z = Str.ofString "made" then some (.int (Int.ofNat md) tm) else if z = Str.ofString "head" then mh else m₀ z) ∧ md ^^^ madeF (b.reverse.drop i) d = madeF b.reverse j) ?_ ?_ ?_ ?_ ?_ ?_)
  · rintro i m nw tk ⟨rfl, _⟩ p hp
    rcases List.mem_cons.mp hp with rfl | hp
    · exact Nat.ne_of_lt l3.1
    · exact Nat.ne_of_lt (allLt_mem l3.2 p hp)
  · rintro i m nw tk tk' h _; exact h
  · refine ⟨rfl, j, tj, 0, tm0, m₀ (Str.ofString "head"), ?_, by rw [List.drop_zero, Nat.zero_xor]⟩
    funext z
    by_cases hz0 : z = Str.ofString "digits"
    · subst hz0; rfl
    by_cases hz1 : z = Str.ofString "made"
    · subst hz1; rfl
    by_cases hz2 : z = Str.ofString "head"
    · subst hz2; rfl
    simp only [hz0, hz1, hz2, if_false]
  · exact Nat.ne_of_lt l3.1
  · rintro i v m₁ nw h tk own hi hv ⟨rfl, d, td, md, tm, mh, rfl, hJ⟩ ho ⟨oI, hoI⟩ F5 N5
    obtain ⟨n, tn, rfl, hn⟩ := nats_at hI hv
    have hir : i < b.reverse.length := by rw [List.length_reverse]; omega
    have hdr : b.reverse.drop i = n :: b.reverse.drop (i + 1) := by
      rw [List.drop_eq_getElem_cons hir]
      congr 1
      have e : b.reverse[i]? = some n := by rw [List.getElem?_reverse (by omega), ← hnl]; exact hn
      rw [List.getElem?_eq_getElem hir] at e
      exact Option.some.inj e
    rw [hdr] at hJ
    clear F4 N3
    w_strict (k_steps)
    · (with_reducible rename (Int.fmod _ _ = _) => h1); (rename Fr _ _ _ _ => F9); (rename News _ _ _ _ => N9)
      rw [mod2_int] at h1
      simp only [half_int, xor_nat] at F9
      refine FEnd.intro F9 N9 (fun p hp => hp) ⟨rfl, d / 2, ?td, md ^^^ n, ?tm, some (.int (Int.ofNat n) tn), ?ze, ?zj⟩
      case zj =>
        rw [← hJ]
        show _ = md ^^^ (madeF _ (d / 2) ^^^ (if d % 2 = 1 then n else 0))
        have h2 : d % 2 = 1 := Int.ofNat.inj h1
        rw [if_pos h2, Nat.xor_comm (madeF _ _) n, ← Nat.xor_assoc]
      case ze =>
        funext z
        by_cases hz0 : z = Str.ofString "digits"
        · subst hz0; rfl
        by_cases hz1 : z = Str.ofString "made"
        · subst hz1; rfl
        by_cases hz2 : z = Str.ofString "head"
        · subst hz2; rfl
        simp only [hz0, hz1, hz2, if_false]
    · (with_reducible rename (Int.fmod _ _ ≠ _) => h1); (rename Fr _ _ _ _ => F9); (rename News _ _ _ _ => N9)
      rw [mod2_int] at h1
      simp only [half_int, xor_nat] at F9
      refine FEnd.intro F9 N9 (fun p hp => hp) ⟨rfl, d / 2, ?td2, md, ?tm2, some (.int (Int.ofNat n) tn), ?ze, ?zj⟩
      case zj =>
        rw [← hJ]
        show _ = md ^^^ (madeF _ (d / 2) ^^^ (if d % 2 = 1 then n else 0))
        have h2 : ¬ d % 2 = 1 := fun e => h1 (by rw [e]; rfl)
        rw [if_neg h2, Nat.xor_zero]
      case ze =>
        funext z
        by_cases hz0 : z = Str.ofString "digits"
        · subst hz0; rfl
        by_cases hz1 : z = Str.ofString "made"
        · subst hz1; rfl
        by_cases hz2 : z = Str.ofString "head"
        · subst hz2; rfl
        simp only [hz0, hz1, hz2, if_false]
  · rintro h' tk m' nw F5 N5 ⟨rfl, d, td, md, tm, mh, rfl, hJ⟩
    clear F4 N3
    w_strict (k_steps)
    (rename Fr _ _ _ _ => F6)
    (rename News _ _ _ _ => N6)
    have e : md = made b j := by
      have hz : b.reverse.drop vs.length = [] := List.drop_eq_nil_of_le (by rw [List.length_reverse]; omega)
      rw [hz] at hJ
      unfold made
      rw [← hJ]
      exact (Nat.xor_zero _).symm
    rw [e]
    exact hret _ _ _ _ F6 N6 ⟨rfl, _, rfl⟩
end
end Mine
end

section
open PySem PySem.W PyProof.Rows PyProof.Rows.LCg
set_option Elab.async false
set_option pp.maxSteps 20000
set_option pp.deepTerms false
set_option pp.deepTerms.threshold 6
namespace Mine
theorem store_cell {M : Model} {A : Around} {E : Value → Shared → Prop} {s : Shared} {h₀ : Heap} {L a : Addr} {m : Str → Option Value} {cn : Str} {cs : Scope} {ccd : Value} {cl : List (Str × Addr)} {x : Str} {v : Value} {Q : Unit → Shared → Prop} {all : List (Addr × Obj)} {c : Addr} {o : Obj} {v₀ : Option Value}
    (F : Fr h₀ L s.heap m) (N : News h₀ L s.heap all) (hc : cl.lookup x = some c) (hm : (c, o) ∈ all) (hd : o.data = .cell v₀) (led : List (Addr × Obj)) (hsub : ∀ p ∈ led, p ∈ all) (hne : ∀ p ∈ led, p.1 ≠ c)
    (h : ∀ h' o', Fr h₀ L h' m → News h₀ L h' ((c, o') :: led) → o'.data = .cell (some v) → Q () { s with heap := h' })
    (hk : cs.kind = .function := by rfl) (hx : (envX cn cs L a ccd cl).kindOf x = some .cell := by rfl) : wpAny M A (storeName (envX cn cs L a ccd cl) x v) Q E s :=
  storeX_C (g := fun o' => (c, o') :: led) F (fun p hp => by
    rcases List.mem_cons.mp hp with rfl | hp
    · exact N _ hm
    · exact N _ (hsub p hp)) hc (.head hne) hd h hk hx
theorem heads_snoc (l : List Nat) (x b : Nat) : headsF (l ++ [x]) b = headsF l b ++ (if x / b % 2 = 1 then [x] else []) := by
  unfold headsF
  rw [List.filter_append]
  congr 1
  by_cases h : x / b % 2 = 1
  · simp [h]
  · simp [h]
def stateF (a : List Nat) (i : Nat) : List Nat × List Nat := ([7, 6, 5, 4, 3, 2, 1, 0].take i).foldl (fun s p => stepF p s) (a, [])
theorem state_succ (a : List Nat) (i : Nat) (h : i < 8) : stateF a (i + 1) = stepF (7 - i) (stateF a i) := by
  unfold stateF
  have e : [7, 6, 5, 4, 3, 2, 1, 0][i]? = some (7 - i) := by
    rcases i with _ | _ | _ | _ | _ | _ | _ | _ | i <;> first | rfl | omega
  rw [take_snocN e, List.foldl_append]
  rfl
theorem mem_re {α : Type} {p a b c d : α} {r : List α} (h : p ∈ b :: a :: d :: c :: r) : p ∈ a :: b :: c :: d :: r := by
  simp only [List.mem_cons] at h ⊢
  rcases h with h | h | h | h | h
  · exact .inr (.inl h)
  · exact .inl h
  · exact .inr (.inr (.inr (.inl h)))
  · exact .inr (.inr (.inl h))
  · exact .inr (.inr (.inr (.inr h)))
theorem state_len (a : List Nat) (i : Nat) : (stateF a i).1.length = a.length := by
  unfold stateF
  generalize [7, 6, 5, 4, 3, 2, 1, 0].take i = ps
  have : ∀ (ps : List Nat) (s : List Nat × List Nat), (ps.foldl (fun s p => stepF p s) s).1.length = s.1.length := by
    intro ps
    induction ps with
    | nil => intro s; rfl
    | cons p r ih =>
      intro s
      rw [List.foldl_cons, ih]
      unfold stepF
      split
      · rfl
      · rw [List.length_map]
  exact this ps _
theorem state_len2 (a : List Nat) (i : Nat) : (stateF a i).2.length ≤ i := by
  unfold stateF
  have h : ∀ (ps : List Nat) (s : List Nat × List Nat), (ps.foldl (fun s p => stepF p s) s).2.length ≤ s.2.length + ps.length := by
    intro ps
    induction ps with
    | nil => intro s; exact Nat.le_refl _
    | cons p r ih =>
      intro s
      rw [List.foldl_cons]
      refine Nat.le_trans (ih _) ?_
      have : (stepF p s).2.length ≤ s.2.length + 1 := by
        unfold stepF
        split
        · exact Nat.le_succ _
        · rw [List.length_append, List.length_map]; exact Nat.le_refl _
      rw [List.length_cons]; omega
  refine Nat.le_trans (h _ _) ?_
  rw [List.length_nil, Nat.zero_add]
  exact List.length_take_le _ _
theorem off1_mem {D : Addr} : ∀ {l : List (Addr × Obj)}, Off1 D l → ∀ p ∈ l, p.1 ≠ D
  | [], _, _, h => nomatch h
  | q :: r, ⟨h1, h2⟩, p, hp => by
    rcases List.mem_cons.mp hp with rfl | hp
    · exact h1
    · exact off1_mem h2 p hp
theorem state_all (a : List Nat) : stateF a 8 = basisF a := rfl
theorem comp_evalT {prog : Program} {w : World} {A : Around} {E : Value → Shared → Prop} {s : Shared} {h₀ : Heap} {L : Addr} {m : Str → Option Value} {env : Env} {ct elt iter : PySem.Expr} {x : Str} {px : Pos} {scope : Scope} {cl : List (Str × Addr)} {pos : Pos} {Q : Value → Shared → Prop} (F₀ : Fr h₀ L s.heap m)
    (hclos : closureFor scope env = pure cl) (hcell : ∀ y ∈ scope.names, y.2 ≠ .cell) (hkind : scope.kind = .function)
    (hnames : ∀ y ∈ scope.names, y.2 = .local → scope.names.lookup y.1 = some .local) (hx : scope.names.lookup x = some .local)
    (h : wpAny (model prog w) A (eval iter env) (fun xv s₁ => Hold (LCt.CompSrcT prog w A h₀ L m env ct elt x scope cl (fun s₂ => FinE h₀ L m s₂ Q) xv s₁)) E s)
    (hs : ∀ x, foldedSetIterable iter env x = pure x := by intro _; rfl) :
    wpAny (model prog w) A (eval (.ListComp elt [⟨.Name x px, iter, [ct], 0⟩] scope pos) env) Q E s :=
  LCt.ListComp_T F₀ hclos hcell hkind hnames hx h hs
/-- a block with a test, over a list of the ledger -/
theorem block_T {prog : Program} {w : World} {A : Around} {s : Shared} {h₀ : Heap} {L : Addr} {m : Str → Option Value} {env : Env} {ct elt : PySem.Expr} {x : Str} {scope : Scope} {cl : List (Str × Addr)} {Fin : Shared → List Value → List (Addr × Obj) → Prop} {R : Addr} {vs : List Value} {c : Nat} {news : List (Addr × Obj)}
    (hh : A.handled = none) (F : Fr h₀ L s.heap m) (N : News h₀ L s.heap news) (hR : (R, listOf vs.toArray c) ∈ news) (hsz : vs.length ≤ 64) (J : Nat → List Value → Prop) (h0 : J 0 [])
    (turn : ∀ g i v ys I oI C oC D m₂ h tk (E' : Value → Shared → Prop), i < vs.length → vs[i]? = some v → J i ys → NsObj oC m₂ → m₂ x = some v → Fr h₀ L h m → News h₀ L h ((C, oC) :: (news ++ [(I, oI), (D, lst ys)])) →
      wpAny (model prog w) A (isTrue ct (compEnvC scope cl C env) (eval ct (compEnvC scope cl C env))) (fun ok s' => if ok = true then
        wpAny (model prog w) A (eval elt (compEnvC scope cl C env)) (EltEnd h₀ L m { s with heap := g } ((C, oC) :: (news ++ [(I, oI), (D, lst ys)])) (fun y _ => J (i + 1) (ys ++ [y]))) E' s'
        else EltEnd h₀ L m { s with heap := g } ((C, oC) :: (news ++ [(I, oI), (D, lst ys)])) (fun _ _ => J (i + 1) ys) Value.none s') E' { s with heap := h, toks := tk })
    (done : ∀ g ys, J vs.length ys → Fin { s with heap := g } ys news) :
    LCt.CompSrcT prog w A h₀ L m env ct elt x scope cl Fin (.ref R) s := by
  refine LCt.CompSrcT.ledger (k := c) hh F N hR (by rw [List.size_toArray, sizeLine_eq]; omega) fun g => ?_
  have hS : SrcAt h₀ R vs.toArray news := .inr ⟨_, hR, rfl, _, rfl⟩
  have go : ∀ k i ys, i + k = vs.length → J i ys → LCt.CompRestT prog w A h₀ L m env ct elt x scope cl { s with heap := g } (SrcAt h₀ R vs.toArray) (fun i v => vs.toArray[i]? = some v) (Fin { s with heap := g }) k i ys news := by
    intro k
    induction k with
    | zero =>
      intro i ys hi hJ
      have : i = vs.length := hi
      subst this
      exact .zero (done g ys hJ)
    | succ k ih =>
      intro i ys hi hJ
      refine .succ fun v I oI C oC D m₂ h tk E' hv hoC hm F' N' off hne => ?_
      have hin : ∀ p ∈ (I, oI) :: (C, oC) :: (D, lst ys) :: news, p ∈ (C, oC) :: (news ++ [(I, oI), (D, lst ys)]) := fun p hp => by
        simp only [List.mem_cons, List.mem_append, List.not_mem_nil, or_false] at hp ⊢
        rcases hp with h | h | h | h
        · exact .inr (.inr (.inl h))
        · exact .inl h
        · exact .inr (.inr (.inr h))
        · exact .inr (.inl h)
      have hout : ∀ p ∈ (C, oC) :: (news ++ [(I, oI), (D, lst ys)]), p ∈ (I, oI) :: (C, oC) :: (D, lst ys) :: news := fun p hp => by
        simp only [List.mem_cons, List.mem_append, List.not_mem_nil, or_false] at hp ⊢
        rcases hp with h | h | h | h
        · exact .inr (.inl h)
        · exact .inr (.inr (.inr h))
        · exact .inl h
        · exact .inr (.inr (.inl h))
      refine wpAny_mono (turn g i v ys I oI C oC D m₂ h tk E' (by omega) (by simpa using hv) hJ hoC hm F' fun p hp => N' p (hout p hp)) (fun ok s' h' => ?_) fun _ _ e => e
      cases ok with
      | true =>
        simp only [if_true] at h' ⊢
        refine wpAny_mono h' (fun y s₃ h₃ => ?_) fun _ _ e => e
        obtain ⟨h4, tk4, rfl, F4, N4, hJ4⟩ := h₃
        exact ⟨h4, tk4, news, rfl, F4, fun p hp => N4 p (hin p hp), off, hS, ih _ _ (by omega) hJ4⟩
      | false =>
        simp only [Bool.false_eq_true, if_false] at h' ⊢
        obtain ⟨h4, tk4, rfl, F4, N4, hJ4⟩ := h'
        exact ⟨h4, tk4, news, rfl, F4, fun p hp => N4 p (hin p hp), off, hS, ih _ _ (by omega) hJ4⟩
  have := go vs.length 0 [] (Nat.zero_add _) h0
  rw [List.size_toArray]
  exact this
section
local macro_rules | `(tactic| walk_at "execs cons") => `(tactic| ((with_reducible refine wpAny_execs_cons ?_); try dsimp only))
local macro_rules | `(tactic| walk_at "call ref") => `(tactic| (refine Hold.mk ?_))
local macro_rules | `(tactic| walk_at "exec For Name Call cons nil") => `(tactic| (refine Hold.mk ?_))
local macro_rules | `(tactic| walk_at "exec Assign cons ListComp") => `(tactic| ((with_reducible show wpAny _ _ (exec (Stmt.Assign [PySem.Expr.Name (Str.ofString "left") _] _ _) _) _ _ _); (refine Hold.mk ?_)))
local macro_rules | `(tactic| walk_at "storeName") => `(tactic| (k_dflt (first
  | (refine' storeX_L ?zF ?zN ?_ ?za ?zb; (case zF => k_asm); (case zN => k_asm); (case za => rfl); (case zb => rfl); k_whole; intro h' F' N'; (try k_sweep))
  | (refine Hold.mk ?_))))
local macro_rules | `(tactic| walk_at "binaryOp Pow int int") => `(tactic| (refine Hold.mk ?_))
local macro_rules | `(tactic| walk_at "binaryOp FloorDiv int int") => `(tactic| ((with_reducible refine floordiv_int ?zb ?_ (Or.inl (PyProof.noPylong_small ?zp))); (case zb => assumption); (case zp => assumption)))
local macro_rules | `(tactic| walk_at "pyIter ref") => `(tactic| (refine Hold.mk ?_))
local macro_rules | `(tactic| walk_at "eval ListComp") => `(tactic| (refine Hold.mk ?_))
local macro_rules | `(tactic| walk_at "binaryOp Add ref ref") => `(tactic| (refine Hold.mk ?_))
set_option maxRecDepth 100000 in
set_option maxHeartbeats 8000000 in
theorem basis_ok (w mean mg mb) (R : Addr) (vs : List Value) (a : List Nat) (c' : Nat) (rest) (hI : IntsAre vs (a.map Int.ofNat)) (hl : vs.length = 5) (ha : ∀ x ∈ a, x < 256) :
    Calls w mean mg mb 139 [.ref R] 3 ((R, listOf vs.toArray c') :: rest)
      (fun r news' => ∃ D2 vs' c2, r = .ref D2 ∧ news' = (D2, listOf (List.toArray vs') c2) :: (R, listOf vs.toArray c') :: rest ∧ IntsAre vs' ((basisF a).2.map Int.ofNat)) := by
  unfold Calls
  k_fill
  intro dp un gd cn cs a' ccd cl outer A₀ base h₀ L m s Q E B F X N T hk hd hu hret
  w_on
  w_strict (
  refine wpAny_call ?_
  k_dflt (refine' code_cellsT ?k1 ?k2 ?k3 ?k4 ?k5 ?kA ?kF ?kK ?k6 ?k7 ?k8 ?k9 ?kB ?kD ?_ ?c2 ?c3 ?c4; (case kA => exact rfl); (case kF => exact rfl); (case kK => assumption); (case k1 => k_asm); (case k2 => k_asm); (case k3 => k_asm); (case k4 => k_asm); (case k5 => k_asm); (case k6 => k_is); (case k7 => k_is); (case k8 => ktr_room); (case k9 => exact BindsTo.of_eq rfl); (case kB => exact rfl); (case kD => decide +kernel); (case c2 => exact rfl); (case c3 => exact rfl); (case c4 => exact rfl); k_whole; intro g' L' h' tk' cells' htk' FG' F' N' Y' B' X' T' l1; (try k_lt l1); (have hY := CellsAre.two Y'); obtain ⟨o1, o2, hE1, d1, d2⟩ := hY; subst hE1; clear Y'; (try simp only [List.cons_append, List.nil_append] at N'); (try dsimp only); (try k_fold))
  k_steps)
  unfold Hold
  (rename Fr _ _ _ _ => F2)
  (rename News _ _ _ _ => N2)
  k_dflt (refine' for_tk F2 ?_ ?zs ?zE; (case zs => (intro _; with_unfolding_all rfl)); (case zE => (first | passes_own | with_unfolding_all passes_own)))
  w_strict (k_steps)
  unfold Hold
  (rename Fr _ _ _ _ => F3)
  (rename News _ _ _ _ => N3)
  have hnl := IntsAre.length hI
  rw [List.length_map, hl] at hnl
  (with_reducible rename (_ < _ ∧ _ < _ ∧ _ < _ ∧ _ < _ ∧ AllLt _ rest) => lb)
  (with_reducible rename (_ < _ ∧ _ < _ ∧ _ < _ ∧ AllLt _ rest) => ll)
  obtain ⟨m₀, Db0, Dl0, c0, F4, N4', hb0, hl0⟩ : ∃ (m₀ : Str → Option Value) (Db0 Dl0 : Addr) (c0 : Nat), Fr _ _ _ (fun z => if z = Str.ofString "basis" then some (.ref Db0) else if z = Str.ofString "left" then some (.ref Dl0) else m₀ z) ∧ News _ _ _ ((Db0, listOf #[] 0) :: (Dl0, listOf vs.toArray c0) :: (L' + 1 + 1, o1) :: (L' + 1, o2) :: (R, listOf vs.toArray c') :: rest) ∧ L' + 1 + 1 < Db0 ∧ L' + 1 + 1 < Dl0 := ⟨_, _, _, _, F3, N3, lb.2.1, ll.1⟩
  have N4 := fun p hp => N4' p (mem_re hp)
  clear F3 N3 N4'
  (rename IsRange _ _ _ _ _ _ _ _ => hr)
  k_dflt (refine' for_range (news := (Dl0, listOf vs.toArray c0) :: (Db0, listOf #[] 0) :: (L' + 1, o2) :: (L' + 1 + 1, o1) :: (R, listOf vs.toArray c') :: rest) (n := 8) rfl F4 N4 hr ?zsm ?zsz (fun I i m₁ nw tk => ∃ DL wl c1 DB wb c2 ob oh vb vh mp, nw = (DL, listOf (List.toArray wl) c1) :: (DB, listOf (List.toArray wb) c2) :: (L' + 1, ob) :: (L' + 1 + 1, oh) :: (R, listOf vs.toArray c') :: rest ∧ m₁ = (fun z => if z = Str.ofString "basis" then some (.ref DB) else if z = Str.ofString "left" then some (.ref DL) else if z = Str.ofString "place" then mp else m₀ z) ∧ ob.data = .cell vb ∧ oh.data = .cell vh ∧ IntsAre wl ((stateF a i).1.map Int.ofNat) ∧ IntsAre wb ((stateF a i).2.map Int.ofNat) ∧ (∀ p ∈ nw, p.1 ≠ I) ∧ (DL ≠ L' + 1 ∧ DL ≠ L' + 1 + 1) ∧ (DB ≠ L' + 1 ∧ DB ≠ L' + 1 + 1)) ?_ ?_ ?_ ?_ ?_; (case zsm => decide); (case zsz => rfl))
  · rintro I i m nw tk ⟨DL, wl, c1, DB, wb, c2, ob, oh, vb, vh, mp, rfl, rfl, h1, h2, h3, h4, h5, h6, h7⟩; exact h5
  · rintro I i m nw tk tk' h _; exact h
  · intro I hI1 hI2
    refine ⟨Dl0, vs, c0, Db0, [], 0, o2, o1, _, _, m₀ (Str.ofString "place"), rfl, ?_, d2, d1, hI, .nil, fun p hp => Nat.ne_of_lt (hI1 p hp), ⟨Nat.ne_of_gt (Nat.lt_of_succ_lt hl0), Nat.ne_of_gt hl0⟩, ⟨Nat.ne_of_gt (Nat.lt_of_succ_lt hb0), Nat.ne_of_gt hb0⟩⟩
    funext z
    by_cases hz0 : z = Str.ofString "basis"
    · subst hz0; rfl
    by_cases hz1 : z = Str.ofString "left"
    · subst hz1; rfl
    by_cases hz2 : z = Str.ofString "place"
    · subst hz2; rfl
    simp only [hz0, hz1, hz2, if_false]
  · intro I i tv
    refine elim11 (fun DL wl c1 DB wb c2 ob oh vb vh mp h tk own hi => ?_)
    refine and7 fun h1 h2 h3 h4 h5 h6 h7 => ?_
    rintro ho ⟨oI, hoI⟩ F5 N5
    clear N4 F4
    w_strict (k_steps)
    unfold Hold
    (rename Fr _ _ _ _ => F6)
    (rename News _ _ _ _ => N6)
    have e7 : ((2 : Int) ^ (7 + (i : Int) * -1).toNat) = Int.ofNat (2 ^ (7 - i)) := by
      have e8 : (7 + (i : Int) * -1).toNat = 7 - i := by omega
      rw [e8]; exact (Int.natCast_pow 2 (7 - i)).symm
    k_dflt (refine' pow_int_small ?zn ?zm ?zl ?_; (case zn => omega); (case zm => omega); (case zl => decide))
    rw [e7]
    have hbit : 2 ^ (7 - i) ≤ 128 := Nat.pow_le_pow_right (by decide) (by omega : 7 - i ≤ 7)
    have hbit0 : 0 < 2 ^ (7 - i) := Nat.two_pow_pos _
    generalize hbb : 2 ^ (7 - i) = bt at hbit hbit0 ⊢
    have hb0 : Int.ofNat bt ≠ 0 := by intro e; have : (bt : Int) = 0 := e; omega
    have hb1 : (Int.ofNat bt).natAbs < 1073741824 := by show ((bt : Int)).natAbs < _; omega
    have hnI : ∀ p ∈ own, p.1 ≠ L' + 1 := fun p hp => by rw [ho p hp]; exact fun q => h5 (L' + 1, ob) (.tail _ (.tail _ (.head _))) q.symm
    have hnI2 : ∀ p ∈ own, p.1 ≠ L' + 1 + 1 := fun p hp => by rw [ho p hp]; exact fun q => h5 (L' + 1 + 1, oh) (.tail _ (.tail _ (.tail _ (.head _)))) q.symm
    w_strict (k_steps)
    unfold Hold
    k_dflt (refine' store_cell (o := ob) F6 N6 ?zc ?zm ?zd ((DL, listOf (List.toArray wl) c1) :: (DB, listOf (List.toArray wb) c2) :: (L' + 1 + 1, oh) :: (R, listOf vs.toArray c') :: (own ++ rest)) ?zs ?ze ?_ ?zk ?zx; (case zc => rfl); (case zk => rfl); (case zx => rfl); (case zd => exact h1))
    case zm => exact List.mem_append_right _ (.tail _ (.tail _ (.head _)))
    case zs =>
      intro p hp
      simp only [List.mem_cons, List.mem_append] at hp ⊢
      grind
    case ze =>
      intro p hp
      rcases List.mem_cons.mp hp with rfl | hp
      · exact h6.1
      rcases List.mem_cons.mp hp with rfl | hp
      · exact h7.1
      rcases List.mem_cons.mp hp with rfl | hp
      · exact Nat.ne_of_gt (Nat.lt_succ_self _)
      rcases List.mem_cons.mp hp with rfl | hp
      · exact Nat.ne_of_lt (Nat.lt_succ_of_lt l1.1)
      rcases List.mem_append.mp hp with hp | hp
      · exact hnI p hp
      · exact Nat.ne_of_lt (Nat.lt_succ_of_lt (allLt_mem l1.2 p hp))
    intro h7a ob' F7 N7 d7
    clear F6 N6
    w_strict (k_steps)
    unfold Hold
    k_dflt (refine' comp_evalT ?zF ?zcl ?zce ?zki ?znm ?zx ?_ ?zhs; (case zF => k_asm); (case zcl => with_unfolding_all rfl); (case zce => decide); (case zki => rfl); (case znm => decide); (case zx => decide); (case zhs => (intro _; with_unfolding_all rfl)))
    w_strict (k_steps)
    unfold Hold
    have hll := IntsAre.length h3
    rw [List.length_map] at hll
    have hl5 : wl.length ≤ 5 := by rw [hll, state_len]; omega
    k_dflt (refine' block_T rfl F7 N7 ?zR ?zz (fun j ys => IntsAre ys ((headsF ((stateF a i).1.take j) bt).map Int.ofNat)) ?z0 ?_ ?_; (case zR => exact .tail _ (.head _)); (case zz => omega); (case z0 => exact .nil))
    · intro gq j v ys I2 oI2 C oC D2 m₂ h8 tk8 E' hj hv8 hJ8 hoC hm F8 N8
      obtain ⟨nj, tj, rfl, hnj⟩ := nats_at h3 hv8
      have N9 := News.cons2 N8 (p := (C, oC)) (q := (L' + 1, ob')) (.head _) (.tail _ (List.mem_append_left _ (.head _)))
      generalize hled : (C, oC) :: (_ ++ _) = led at N8 N9 ⊢
      clear N8 N7
      w_strict (k_steps)
      · (with_reducible rename (Int.fmod _ _ = _) => hq); (rename Fr _ _ _ _ => F9); (rename News _ _ _ _ => N9)
        rw [bit_int] at hq
        have hq2 : nj / bt % 2 = 1 := Int.ofNat.inj hq
        refine EltEnd.intro F9 N9 (fun p hp => .tail _ (.tail _ hp)) ?_
        rw [take_snocN hnj, heads_snoc, if_pos hq2, List.map_append]
        exact IntsAre.snoc hJ8 _ _
      · (with_reducible rename (Int.fmod _ _ ≠ _) => hq); (rename Fr _ _ _ _ => F9); (rename News _ _ _ _ => N9)
        rw [bit_int] at hq
        have hq2 : ¬ nj / bt % 2 = 1 := fun e => hq (by rw [e]; rfl)
        refine EltEnd.intro F9 N9 (fun p hp => .tail _ (.tail _ hp)) ?_
        rw [take_snocN hnj, heads_snoc, if_neg hq2, List.append_nil]
        exact hJ8
    intro gq hs hJ8 D9 h9 tk9 F9 N9 off9
    rw [List.take_of_length_le (Nat.le_of_eq hll.symm)] at hJ8
    have off9' := off1_mem off9
    have N9' : News g' L' h9 ((D9, listOf (List.toArray hs) hs.length) :: (L' + 1, ob') :: (DL, listOf (List.toArray wl) c1) :: (DB, listOf (List.toArray wb) c2) :: (L' + 1 + 1, oh) :: (R, listOf vs.toArray c') :: (own ++ rest)) := N9
    clear F7 N7 N9
    w_strict (k_steps)
    unfold Hold
    k_dflt (refine' store_cell (o := oh) F9 N9' ?zc ?zm ?zd ((D9, listOf (List.toArray hs) hs.length) :: (L' + 1, ob') :: (DL, listOf (List.toArray wl) c1) :: (DB, listOf (List.toArray wb) c2) :: (R, listOf vs.toArray c') :: (own ++ rest)) ?zs ?ze ?_ ?zk ?zx; (case zc => rfl); (case zk => rfl); (case zx => rfl); (case zd => exact h2))
    case zm => exact .tail _ (.tail _ (.tail _ (.tail _ (.head _))))
    case zs =>
      intro p hp
      simp only [List.mem_cons, List.mem_append] at hp ⊢
      grind
    case ze =>
      intro p hp
      rcases List.mem_cons.mp hp with rfl | hp
      · exact Ne.symm (off9' (L' + 1 + 1, oh) (.tail _ (.tail _ (.tail _ (.head _)))))
      rcases List.mem_cons.mp hp with rfl | hp
      · exact Nat.ne_of_lt (Nat.lt_succ_self _)
      rcases List.mem_cons.mp hp with rfl | hp
      · exact h6.2
      rcases List.mem_cons.mp hp with rfl | hp
      · exact h7.2
      rcases List.mem_cons.mp hp with rfl | hp
      · exact Nat.ne_of_lt (Nat.lt_succ_of_lt (Nat.lt_succ_of_lt l1.1))
      rcases List.mem_append.mp hp with hp | hp
      · exact hnI2 p hp
      · exact Nat.ne_of_lt (Nat.lt_succ_of_lt (Nat.lt_succ_of_lt (allLt_mem l1.2 p hp)))
    intro hA oh' FA NA dA
    clear F9 N9'
    cases hh : headsF (stateF a i).1 bt with
    | nil =>
      rw [hh] at hJ8
      obtain rfl := IntsAre.nil_inv hJ8
      w_strict (k_steps)
      have hst : stateF a (i + 1) = stateF a i := by rw [state_succ a i hi]; unfold stepF; rw [hbb, hh]
      refine FEnd.intro FA NA ?_ ⟨DL, wl, c1, DB, wb, c2, ob', oh', _, _, some (.int (7 + (i : Int) * -1) tv), rfl, ?_, d7, dA, by rw [hst]; exact h3, by rw [hst]; exact h4, ?_, h6, h7⟩
      · intro p hp
        simp only [List.mem_cons, List.mem_append] at hp ⊢
        grind
      · funext z
        by_cases hz0 : z = Str.ofString "basis"
        · subst hz0; rfl
        by_cases hz1 : z = Str.ofString "left"
        · subst hz1; rfl
        by_cases hz2 : z = Str.ofString "place"
        · subst hz2; rfl
        simp only [hz0, hz1, hz2, if_false]
      · intro p hp
        rcases List.mem_cons.mp hp with rfl | hp
        · exact h5 _ (.head _)
        rcases List.mem_cons.mp hp with rfl | hp
        · exact h5 _ (.tail _ (.head _))
        rcases List.mem_cons.mp hp with rfl | hp
        · exact h5 (L' + 1, ob) (.tail _ (.tail _ (.head _)))
        rcases List.mem_cons.mp hp with rfl | hp
        · exact h5 (L' + 1 + 1, oh) (.tail _ (.tail _ (.tail _ (.head _))))
        · exact h5 p (.tail _ (.tail _ (.tail _ (.tail _ hp))))
    | cons hd0 tl0 =>
      rw [hh, List.map_cons] at hJ8
      obtain ⟨th, hs', rfl, _⟩ := IntsAre.cons_inv hJ8
      have hhl := IntsAre.length hJ8
      have hhl2 : (headsF (stateF a i).1 bt).length ≤ 5 := Nat.le_trans (List.length_filter_le _ _) (hll ▸ hl5)
      rw [hh] at hhl2
      simp only [List.length_cons, List.length_map] at hhl hhl2
      w_strict (k_steps)
      unfold Hold
      k_dflt (refine' comp_assign [Str.ofString "x"] ?zF ?zL ?zsw ?zcl ?zce ?zki ?znm ?zx ?zy ?zp ?_ ?zhs; (case zF => k_asm); (case zL => rfl); (case zsw => with_unfolding_all rfl); (case zcl => with_unfolding_all rfl); (case zce => decide); (case zki => rfl); (case znm => decide); (case zx => decide); (case zy => rfl); (case zp => rfl); (case zhs => (intro _; with_unfolding_all rfl)))
      w_strict (k_steps)
      unfold Hold
      k_dflt (refine' block_list rfl FA NA ?zR ?zs (fun j ys _ => IntsAre ys ((((stateF a i).1.take j).map (without · hd0 bt)).map Int.ofNat)) ?_ ?_ ?_ ?_; (case zR => exact .tail _ (.tail _ (.tail _ (.head _)))); (case zs => omega))
      · rintro j ys tk2 tk3 a1 hle; exact a1
      · exact .nil
      · rintro j v ys own2 C oC D2 m₂ h8 tk8 E' hj hv8 hyl hJ2 hoC hm F8 N8
        obtain ⟨nj, tj, rfl, hnj⟩ := nats_at h3 hv8
        have N8' := News.cons2 N8 (p := (L' + 1 + 1, oh')) (q := (D9, listOf (Value.int (Int.ofNat hd0) th :: hs').toArray (Value.int (Int.ofNat hd0) th :: hs').length)) (List.mem_append_left _ (.head _)) (List.mem_append_left _ (.tail _ (.head _)))
        have N9 := News.cons2 N8' (p := (C, oC)) (q := (L' + 1, ob')) (.tail _ (.tail _ (List.mem_append_right _ (.head _)))) (.tail _ (.tail _ (List.mem_append_left _ (.tail _ (.tail _ (.head _))))))
        generalize hled : _ ++ (C, oC) :: _ = led at N8 N8' N9 ⊢
        clear N8 N8' NA
        w_strict (k_steps)
        unfold Hold
        k_dflt (refine' Calls.useNI (without_ok _ _ _ _ nj hd0 bt tj _ _ hbit0 (Nat.lt_of_le_of_lt hbit (by decide)) _) ?zB ?zF ?zX ?zN ?zT ?zk ?zd ?zu ?_)
        case zB => k_asm
        case zF => k_asm
        case zX => k_asm
        case zN => k_asm
        case zT => k_asm
        case zk => rfl
        case zd => ktr_room
        case zu => ktr_units
        intro hk4 tkk tx Fk Nk
        clear N9 F8
        w_strict (k_steps)
        refine EltEnd.intro (by assumption) (by assumption) (fun p hp => .tail _ (.tail _ (.tail _ (.tail _ hp)))) ?_
        rw [take_snocN hnj, List.map_append, List.map_append]
        exact IntsAre.snoc hJ2 _ _
      · rintro DN hB tkB wn FB NB hneB hynB hJB
        have hwb := IntsAre.length h4
        rw [List.length_map] at hwb
        have hwb2 := state_len2 a i
        clear FA NA
        w_strict (k_steps)
        unfold Hold
        k_dflt (refine' comp_eval [Str.ofString "x"] ?yF ?ycl ?yce ?yki ?ynm ?yx ?_ ?yhs; (case yF => k_asm); (case ycl => with_unfolding_all rfl); (case yce => decide); (case yki => rfl); (case ynm => decide); (case yx => decide); (case yhs => (intro _; with_unfolding_all rfl)))
        w_strict (k_steps)
        unfold Hold
        k_dflt (refine' block_list rfl FB NB ?yR ?ys (fun j ys _ => IntsAre ys ((((stateF a i).2.take j).map (without · hd0 bt)).map Int.ofNat)) ?_ ?_ ?_ ?_; (case yR => exact .tail _ (.tail _ (.tail _ (.tail _ (.tail _ (.head _)))))); (case ys => omega))
        · rintro j ys tk2 tk3 a1 hle; exact a1
        · exact .nil
        · rintro j v ys own2 C oC D2 m₂ h8 tk8 E' hj hv8 hyl hJ2 hoC hm F8 N8
          obtain ⟨nj, tj, rfl, hnj⟩ := nats_at h4 hv8
          have N8' := News.cons2 N8 (p := (L' + 1 + 1, oh')) (q := (D9, listOf (Value.int (Int.ofNat hd0) th :: hs').toArray (Value.int (Int.ofNat hd0) th :: hs').length)) (List.mem_append_left _ (.tail _ (.head _))) (List.mem_append_left _ (.tail _ (.tail _ (.head _))))
          have N9 := News.cons2 N8' (p := (C, oC)) (q := (L' + 1, ob')) (.tail _ (.tail _ (List.mem_append_right _ (.head _)))) (.tail _ (.tail _ (List.mem_append_left _ (.tail _ (.tail _ (.tail _ (.head _)))))))
          generalize hled : _ ++ (C, oC) :: _ = led at N8 N8' N9 ⊢
          clear N8 N8' NB
          w_strict (k_steps)
          unfold Hold
          k_dflt (refine' Calls.useNI (without_ok _ _ _ _ nj hd0 bt tj _ _ hbit0 (Nat.lt_of_le_of_lt hbit (by decide)) _) ?yB ?yF ?yX ?yN ?yT ?yk ?yd ?yu ?_)
          case yB => k_asm
          case yF => k_asm
          case yX => k_asm
          case yN => k_asm
          case yT => k_asm
          case yk => rfl
          case yd => ktr_room
          case yu => ktr_units
          intro hk4 tkk tx Fk Nk
          clear N9 F8
          w_strict (k_steps)
          refine EltEnd.intro (by assumption) (by assumption) (fun p hp => .tail _ (.tail _ (.tail _ (.tail _ hp)))) ?_
          rw [take_snocN hnj, List.map_append, List.map_append]
          exact IntsAre.snoc hJ2 _ _
        · rintro DX hC tkC wx FC NC hneC hynC hJC
          clear FB NB
          w_strict (k_steps)
          unfold Hold
          (rename Fr _ _ _ _ => FD)
          (rename News _ _ _ _ => ND)
          rename_i t9 DM hM l9
          k_dflt (refine' kmk_add_lit (its := wx.toArray) (its2 := #[Value.int (Int.ofNat hd0) t9]) (zs := wx ++ [Value.int (Int.ofNat hd0) t9]) FD ND ?xa ?xb ?xe ?_ ?xz)
          case xa => exact list_isList ND (.tail _ (.head _))
          case xb => exact list_isList (vs := [Value.int (Int.ofNat hd0) t9]) (c := 0) ND (.head _)
          case xe => simp
          case xz => simp only [sizeLine_eq, List.length_cons, List.length_nil]; omega
          intro DR hR FR NR lR
          clear FD ND
          w_strict (k_steps)
          (rename Fr _ _ _ _ => FS)
          (rename News _ _ _ _ => NS)
          have hst : stateF a (i + 1) = ((stateF a i).1.map (without · hd0 bt), (stateF a i).2.map (without · hd0 bt) ++ [hd0]) := by rw [state_succ a i hi]; unfold stepF; rw [hbb, hh]
          rw [List.take_of_length_le (Nat.le_of_eq hll.symm)] at hJB
          rw [List.take_of_length_le (Nat.le_of_eq hwb.symm)] at hJC
          refine FEnd.intro FS NS ?_ ⟨DN, wn, wn.length, DR, wx ++ [Value.int (Int.ofNat hd0) t9], 0, ob', oh', _, _, some (.int (7 + (i : Int) * -1) tv), rfl, ?_, d7, dA, by rw [hst]; exact hJB, ?_, ?_, ⟨?_, ?_⟩, ⟨?_, ?_⟩⟩
          · intro p hp
            rcases List.mem_append.mp hp with hp | hp
            · exact .tail _ (.tail _ (.tail _ (.tail _ (.tail _ (.tail _ (.tail _ (.tail _ (.tail _ (.tail _ (List.mem_append_left _ hp))))))))))
            rcases List.mem_cons.mp hp with rfl | hp
            · exact .tail _ (.tail _ (.tail _ (.head _)))
            rcases List.mem_cons.mp hp with rfl | hp
            · exact .head _
            rcases List.mem_cons.mp hp with rfl | hp
            · exact .tail _ (.tail _ (.tail _ (.tail _ (.tail _ (.tail _ (.head _))))))
            rcases List.mem_cons.mp hp with rfl | hp
            · exact .tail _ (.tail _ (.tail _ (.tail _ (.head _))))
            rcases List.mem_cons.mp hp with rfl | hp
            · exact .tail _ (.tail _ (.tail _ (.tail _ (.tail _ (.tail _ (.tail _ (.tail _ (.tail _ (.head _)))))))))
            · exact .tail _ (.tail _ (.tail _ (.tail _ (.tail _ (.tail _ (.tail _ (.tail _ (.tail _ (.tail _ (List.mem_append_right _ hp))))))))))
          · funext z
            by_cases hz0 : z = Str.ofString "basis"
            · subst hz0; rfl
            by_cases hz1 : z = Str.ofString "left"
            · subst hz1; rfl
            by_cases hz2 : z = Str.ofString "place"
            · subst hz2; rfl
            simp only [hz0, hz1, hz2, if_false]
          · rw [hst, List.map_append]
            exact IntsAre.snoc hJC _ _
          · intro p hp
            rcases List.mem_cons.mp hp with rfl | hp
            · exact Ne.symm (hneB (I, oI) (.tail _ (.tail _ (.tail _ (.tail _ (.tail _ (.tail _ (List.mem_append_left _ hoI))))))))
            rcases List.mem_cons.mp hp with rfl | hp
            · exact Nat.ne_of_gt (lR (I, oI) (.tail _ (.tail _ (.tail _ (.tail _ (.tail _ (.tail _ (.tail _ (.tail _ (.tail _ (List.mem_append_left _ hoI)))))))))))
            rcases List.mem_cons.mp hp with rfl | hp
            · exact h5 (L' + 1, ob) (.tail _ (.tail _ (.head _)))
            rcases List.mem_cons.mp hp with rfl | hp
            · exact h5 (L' + 1 + 1, oh) (.tail _ (.tail _ (.tail _ (.head _))))
            · exact h5 p (.tail _ (.tail _ (.tail _ (.tail _ hp))))
          · exact Ne.symm (hneB (L' + 1, ob') (.tail _ (.tail _ (.head _))))
          · exact Ne.symm (hneB (L' + 1 + 1, oh') (.head _))
          · exact Nat.ne_of_gt (lR (L' + 1, ob') (.tail _ (.tail _ (.tail _ (.tail _ (.tail _ (.head _)))))))
          · exact Nat.ne_of_gt (lR (L' + 1 + 1, oh') (.tail _ (.tail _ (.tail _ (.head _)))))
  · intro I h' tk
    refine done11 (fun DL wl c1 DB wb c2 ob oh vb vh mp F5 N5 => ?_)
    refine and7 fun h1 h2 h3 h4 h5 h6 h7 => ?_
    clear N4 F4
    w_strict (k_steps)
    (rename Fr _ _ _ _ => F6)
    (rename News _ _ _ _ => N6)
    refine hret _ _ _ _ F6 (fun p hp => N6 p ?_) ⟨DB, wb, c2, rfl, rfl, h4⟩
    rcases List.mem_cons.mp hp with rfl | hp
    · exact .tail _ (.head _)
    · exact .tail _ (.tail _ (.tail _ (.tail _ hp)))
end
end Mine
end

section
open PySem PySem.W PyProof.Rows PyProof.Rows.LCg
set_option Elab.async false
set_option pp.maxSteps 20000
set_option pp.deepTerms false
set_option pp.deepTerms.threshold 6
namespace Mine
theorem cell_ne {h₀ h : Heap} {L D C : Addr} {led : List (Addr × Obj)} {its : Array Value} {c : Nat} {o : Obj} {v : Option Value} (N : News h₀ L h led) (h1 : (D, listOf its c) ∈ led) (h2 : (C, o) ∈ led) (hd : o.data = .cell v) : D ≠ C := by
  intro e
  subst e
  have a : h.get? D = some (listOf its c) := (N _ h1).1
  have b : h.get? D = some o := (N _ h2).1
  rw [a] at b
  have e := Option.some.inj b
  subst e
  cases hd
section
local macro_rules | `(tactic| walk_at "execs cons") => `(tactic| ((with_reducible refine wpAny_execs_cons ?_); try dsimp only))
local macro_rules | `(tactic| walk_at "call ref") => `(tactic| (refine Hold.mk ?_))
local macro_rules | `(tactic| walk_at "pyIter ref") => `(tactic| (refine Hold.mk ?_))
local macro_rules | `(tactic| walk_at "eval ListComp") => `(tactic| (refine Hold.mk ?_))
local macro_rules | `(tactic| walk_at "storeName") => `(tactic| (refine Hold.mk ?_))
local macro_rules | `(tactic| walk_at "binaryOp Pow int int") => `(tactic| (refine Hold.mk ?_))
local macro_rules | `(tactic| walk_at "binaryOp FloorDiv int int") => `(tactic| ((with_reducible refine floordiv_int ?zb ?_ (Or.inl (PyProof.noPylong_small ?zp))); (case zb => assumption); (case zp => assumption)))
set_option maxRecDepth 100000 in
set_option maxHeartbeats 8000000 in
theorem order_ok' (w mean mg mb) (R : Addr) (vs : List Value) (a : List Nat) (c' : Nat) (rest) (hI : IntsAre vs (a.map Int.ofNat)) (hl : vs.length = 5) (ha : ∀ x ∈ a, x < 256) :
    Calls w mean mg mb 151 [.ref R] 5 ((R, listOf vs.toArray c') :: rest)
      (fun r news' => ∃ D2 vs' c2, r = .ref D2 ∧ news' = (D2, listOf (List.toArray vs') c2) :: (R, listOf vs.toArray c') :: rest ∧ IntsAre vs' ((orderF a).map Int.ofNat)) := by
  unfold Calls
  k_fill
  intro dp un gd cn cs a' ccd cl outer A₀ base h₀ L m s Q E B F X N T hk hd hu hret
  w_on
  w_strict (
  refine wpAny_call ?_
  k_dflt (refine' code_cellsT ?k1 ?k2 ?k3 ?k4 ?k5 ?kA ?kF ?kK ?k6 ?k7 ?k8 ?k9 ?kB ?kD ?_ ?c2 ?c3 ?c4; (case kA => exact rfl); (case kF => exact rfl); (case kK => assumption); (case k1 => k_asm); (case k2 => k_asm); (case k3 => k_asm); (case k4 => k_asm); (case k5 => k_asm); (case k6 => k_is); (case k7 => k_is); (case k8 => ktr_room); (case k9 => exact BindsTo.of_eq rfl); (case kB => exact rfl); (case kD => decide +kernel); (case c2 => exact rfl); (case c3 => exact rfl); (case c4 => exact rfl); k_whole; intro g' L' h' tk' cells' htk' FG' F' N' Y' B' X' T' l1; (try k_lt l1); (have hY := CellsAre.two Y'); obtain ⟨o1, o2, hE1, d1, d2⟩ := hY; subst hE1; clear Y'; (try simp only [List.cons_append, List.nil_append] at N'); (try dsimp only); (try k_fold))
  k_steps)
  unfold Hold
  have hnl := IntsAre.length hI
  rw [List.length_map, hl] at hnl
  have hbl := basis_len ha hnl.symm
  have N1 : News g' L' h' ((R, listOf vs.toArray c') :: (L' + 1 + 1, o1) :: (L' + 1, o2) :: rest) := fun p hp => N' p (by
    simp only [List.mem_cons] at hp ⊢; grind)
  clear N'
  k_dflt (refine' Calls.use (basis_ok _ _ _ _ R vs a c' _ hI hl ha) ?zB ?zF ?zX ?zN ?zT ?zk ?zd ?zu ?_)
  case zB => k_asm
  case zF => k_asm
  case zX => k_asm
  case zN => k_asm
  case zT => k_asm
  case zk => rfl
  case zd => ktr_room
  case zu => ktr_units
  rintro rk newsk hk4 tkk Fk Nk ⟨D2, bs, c2, rfl, rfl, hb⟩
  have hbs := IntsAre.length hb
  rw [List.length_map] at hbs
  clear N1
  have hne2 := cell_ne Nk (.head _) (.tail _ (.tail _ (.tail _ (.head _)))) d2
  have hne1 := cell_ne Nk (.head _) (.tail _ (.tail _ (.head _))) d1
  w_strict (k_steps)
  unfold Hold
  k_dflt (refine' store_cell (o := o2) Fk Nk ?zc ?zm ?zd ((D2, listOf (List.toArray bs) c2) :: (R, listOf vs.toArray c') :: (L' + 1 + 1, o1) :: rest) ?zs ?ze ?_ ?zk ?zx; (case zc => rfl); (case zk => rfl); (case zx => rfl); (case zd => exact d2))
  case zm => exact .tail _ (.tail _ (.tail _ (.head _)))
  case zs => intro p hp; simp only [List.mem_cons] at hp ⊢; grind
  case ze =>
    intro p hp
    rcases List.mem_cons.mp hp with rfl | hp
    · exact hne2
    rcases List.mem_cons.mp hp with rfl | hp
    · exact Nat.ne_of_lt (Nat.lt_succ_of_lt l1.1)
    rcases List.mem_cons.mp hp with rfl | hp
    · exact Nat.ne_of_gt (Nat.lt_succ_self _)
    · exact Nat.ne_of_lt (Nat.lt_succ_of_lt (allLt_mem l1.2 p hp))
  intro h7 ob F7 N7 d7
  clear Fk Nk
  w_strict (k_steps)
  unfold Hold
  have e0 : (List.map Int.ofNat (basisF a).2).length = (basisF a).2.length := List.length_map _
  (try rw [e0])
  (try rw [hbs])
  have hlk : ((2 : Int) ^ ((5 : Int) - ((basisF a).2.length : Int)).toNat) = Int.ofNat (2 ^ (5 - (basisF a).2.length)) := by
    have e8 : ((5 : Int) - ((basisF a).2.length : Int)).toNat = 5 - (basisF a).2.length := by omega
    rw [e8]; exact (Int.natCast_pow 2 _).symm
  k_dflt (refine' pow_int_small ?zn ?zm2 ?zl ?_; (case zn => omega); (case zm2 => omega); (case zl => decide))
  rw [hlk]
  have hb2 : 2 ^ (5 - (basisF a).2.length) ≤ 32 := Nat.pow_le_pow_right (by decide) (by omega : 5 - (basisF a).2.length ≤ 5)
  have hb3 : 0 < 2 ^ (5 - (basisF a).2.length) := Nat.two_pow_pos _
  generalize hbb : 2 ^ (5 - (basisF a).2.length) = lk at hb2 hb3 ⊢
  have hb0 : Int.ofNat lk ≠ 0 := by intro e; have : (lk : Int) = 0 := e; omega
  have hb1 : (Int.ofNat lk).natAbs < 1073741824 := by show ((lk : Int)).natAbs < _; omega
  w_strict (k_steps)
  unfold Hold
  k_dflt (refine' store_cell (o := o1) F7 N7 ?yc ?ym ?yd ((L' + 1, ob) :: (D2, listOf (List.toArray bs) c2) :: (R, listOf vs.toArray c') :: rest) ?ys ?ye ?_ ?yk ?yx; (case yc => rfl); (case yk => rfl); (case yx => rfl); (case yd => exact d1))
  case ym => exact .tail _ (.tail _ (.tail _ (.head _)))
  case ys => intro p hp; simp only [List.mem_cons] at hp ⊢; grind
  case ye =>
    intro p hp
    rcases List.mem_cons.mp hp with rfl | hp
    · exact Nat.ne_of_lt (Nat.lt_succ_self _)
    rcases List.mem_cons.mp hp with rfl | hp
    · exact hne1
    rcases List.mem_cons.mp hp with rfl | hp
    · exact Nat.ne_of_lt (Nat.lt_succ_of_lt (Nat.lt_succ_of_lt l1.1))
    · exact Nat.ne_of_lt (Nat.lt_succ_of_lt (Nat.lt_succ_of_lt (allLt_mem l1.2 p hp)))
  intro h8 ol F8 N8 d8
  clear F7 N7
  w_strict (k_steps)
  unfold Hold
  k_dflt (refine' comp_eval [Str.ofString "i"] ?xF ?xcl ?xce ?xki ?xnm ?xx ?_ ?xhs; (case xF => k_asm); (case xcl => with_unfolding_all rfl); (case xce => decide); (case xki => rfl); (case xnm => decide); (case xx => decide); (case xhs => (intro _; with_unfolding_all rfl)))
  w_strict (k_steps)
  unfold Hold
  (rename Fr _ _ _ _ => F9)
  (rename News _ _ _ _ => N9)
  (rename IsRange _ _ _ _ _ _ _ _ => hr)
  k_dflt (refine' block_range (n := 32) rfl F9 N9 hr ?ws (fun j ys _ => IntsAre ys (((List.range j).map fun i => made (basisF a).2 (i / lk)).map Int.ofNat)) ?_ ?_ ?_ ?_; (case ws => decide))
  · rintro j ys tk2 tk3 a1 hle; exact a1
  · exact .nil
  · rintro j tj ys own2 C oC D3 m₂ hX tkX E' hj hyl hJ2 hoC hm FX NX
    have NX' := News.cons2 NX (p := (L' + 1, ob)) (q := (L' + 1 + 1, ol)) (List.mem_append_left _ (.tail _ (.head _))) (List.mem_append_left _ (.head _))
    have NY := News.cons2 NX' (p := (D2, listOf (List.toArray bs) c2)) (q := (C, oC)) (.tail _ (.tail _ (List.mem_append_left _ (.tail _ (.tail _ (.head _)))))) (.tail _ (.tail _ (List.mem_append_right _ (.head _))))
    generalize hled : _ ++ (C, oC) :: _ = led at NX NX' NY ⊢
    clear NX NX' N9 F9
    w_strict (k_steps)
    unfold Hold
    have ej : ((j : Int)).fdiv (Int.ofNat lk) = Int.ofNat (j / lk) := by
      rw [Int.fdiv_eq_ediv_of_nonneg _ (show 0 ≤ Int.ofNat lk from Int.natCast_nonneg lk)]; rfl
    rw [ej]
    k_dflt (refine' Calls.use (made_ok _ _ _ _ D2 bs (basisF a).2 c2 _ (by assumption) (by omega) (j / lk) _) ?vB ?vF ?vX ?vN ?vT ?vk ?vd ?vu ?_)
    case vB => k_asm
    case vF => k_asm
    case vX => k_asm
    case vN => exact NY
    case vT => k_asm
    case vk => rfl
    case vd => ktr_room
    case vu => ktr_units
    rintro rk newsk hk5 tk5 Fk5 Nk5 ⟨rfl, tx, rfl⟩
    clear NY FX
    w_strict (k_steps)
    refine EltEnd.intro (by assumption) (by assumption) (fun p hp => .tail _ (.tail _ (.tail _ (.tail _ hp)))) ?_
    rw [List.range_succ, List.map_append, List.map_append]
    exact IntsAre.snoc hJ2 _ _
  · rintro D3 hX tkX ys FX NX hne hyl hJ2
    clear F9 N9
    w_strict (k_steps)
    (rename Fr _ _ _ _ => FY)
    (rename News _ _ _ _ => NY)
    subst hbb
    refine hret _ _ _ _ FY (fun p hp => NY p ?_) ⟨D3, ys, ys.length, rfl, rfl, hJ2⟩
    rcases List.mem_cons.mp hp with rfl | hp
    · exact .head _
    · exact .tail _ (.tail _ (.tail _ (.tail _ hp)))
end
end Mine
end

section
open PySem PySem.W PyProof.Rows PyProof.Rows.LCg
set_option Elab.async false
set_option pp.maxSteps 20000
set_option pp.deepTerms false
set_option pp.deepTerms.threshold 6
namespace Mine
theorem is_ints {M : Model} {A : Around} {E : Value → Shared → Prop} {s : Shared} {Q : Value → Shared → Prop} {x b : Int} {t u : Tok} (ht : t ≠ 0) (hu : u ≠ 0) (htu : t ≠ u) (hb : smallInt b = true) (h : Q (.bool (decide (x = b))) s) : wpAny M A (compareOp .Is (.int x t) (.int b u)) Q E s := by
  have ht' : (t == 0) = false := beq_eq_false_iff_ne.mpr ht
  have hu' : (u == 0) = false := beq_eq_false_iff_ne.mpr hu
  have htu' : (t == u) = false := beq_eq_false_iff_ne.mpr htu
  have e : wpAny M A (isSame (.int x t) (.int b u)) (fun r s' => Q (.bool r) s') E s := by
    show wpAny M A (if (x == b && smallInt x) = true then isSame.cachedInt t u else isSame.created (x == b) t u) _ E s
    by_cases hx : x = b
    · subst hx
      rw [beq_self_eq_true, hb]
      simp only [Bool.and_self, if_true]
      unfold isSame.cachedInt
      rw [ht', hu']
      show wpAny M A (do rule "is.small-int-cache"; pure true) _ E s
      rw [decide_eq_true rfl] at h
      exact wpAny_bind (wpAny_rule (wpAny_pure h))
    · have hx' : (x == b) = false := beq_eq_false_iff_ne.mpr hx
      rw [decide_eq_false hx] at h
      rw [hx']
      simp only [Bool.false_and, Bool.false_eq_true, if_false]
      unfold isSame.created
      rw [ht', hu', htu']
      exact wpAny_pure h
  show wpAny M A (do return .bool (← isSame (.int x t) (.int b u))) Q E s
  exact wpAny_bind (wpAny_mono e (fun _ _ h => wpAny_pure h) fun _ _ e => e)
section
local macro_rules | `(tactic| walk_at "execs cons") => `(tactic| ((with_reducible refine wpAny_execs_cons ?_); try dsimp only))
local macro_rules | `(tactic| walk_at "exec For Name Name cons nil") => `(tactic| (refine Hold.mk ?_))
local macro_rules | `(tactic| walk_at "pyIter ref") => `(tactic| (refine Hold.mk ?_))
local macro_rules | `(tactic| walk_at "compareOp Is int int") => `(tactic| (refine Hold.mk ?_))
set_option maxRecDepth 100000 in
set_option maxHeartbeats 8000000 in
theorem countOf_ok (w mean mg mb) (R : Addr) (vs : List Value) (a : List Int) (c' : Nat) (rest) (hI : IntsAre vs a) (hl : vs.length ≤ 64) (b : Int) (t : Tok) (tk0 : Nat) (hT : ToksIn vs tk0) (ht : tk0 ≤ t) (hsm : smallInt b = true) :
    Calls w mean mg mb 117 [.ref R, .int b t] 1 ((R, listOf vs.toArray c') :: rest)
      (fun r news' => news' = (R, listOf vs.toArray c') :: rest ∧ ∃ t, r = .int (Int.ofNat (a.count b)) t) := by
  unfold Calls
  k_fill
  intro dp un gd cn cs a' ccd cl outer A₀ base h₀ L m s Q E B F X N T hk hd hu hret
  w_on
  w_strict (
  refine wpAny_call ?_
  k_dflt ktr_enter
  k_steps)
  unfold Hold
  (rename Fr _ _ _ _ => F2)
  k_dflt (refine' for_tk F2 ?_ ?zs ?zE; (case zs => (intro _; with_unfolding_all rfl)); (case zE => (first | passes_own | with_unfolding_all passes_own)))
  w_strict (k_steps)
  unfold Hold
  (rename Fr _ _ _ _ => F3)
  (rename News _ _ _ _ => N3)
  obtain ⟨m₀, tm0, F4, hmb⟩ : ∃ (m₀ : Str → Option Value) (tm0 : Tok), Fr _ _ _ (fun z => if z = Str.ofString "count" then some (.int 0 tm0) else m₀ z) ∧ m₀ (Str.ofString "b") = some (.int b t) := ⟨_, _, F3, rfl⟩
  clear F3
  k_dflt (refine' for_list rfl F4 N3 ?zR (fun I i m₁ nw tk => nw = (R, listOf vs.toArray c') :: rest ∧ (∀ p ∈ nw, p.1 ≠ I) ∧ ∃ tm mi, m₁ = (fun z => if z = Str.ofString "count" then some (.int (Int.ofNat ((a.take i).count b)) tm) else if z = Str.ofString "i" then mi else if z = Str.ofString "b" then some (.int b t) else m₀ z)) ?_ ?_ ?_ ?_ ?_; (case zR => exact .head _))
  · rintro I i m nw tk ⟨rfl, h, _⟩; exact h
  · rintro I i m nw tk tk' h _; exact h
  · intro I hI1 hI2
    refine ⟨rfl, fun p hp => Nat.ne_of_lt (hI1 p hp), tm0, m₀ (Str.ofString "i"), ?_⟩
    funext z
    by_cases hz0 : z = Str.ofString "count"
    · subst hz0; rfl
    by_cases hz1 : z = Str.ofString "i"
    · subst hz1; rfl
    by_cases hz2 : z = Str.ofString "b"
    · subst hz2; exact hmb
    simp only [hz0, hz1, hz2, if_false]
  · rintro I i v m₁ nw h tk own hi hv ⟨rfl, hoff, tm, mi, rfl⟩ ho ⟨oI, hoI⟩ F5 N5
    obtain ⟨x, tx, rfl, hx⟩ := IntsAre.at hI i v hv
    obtain ⟨x', tx', hxe, ht0, ht1⟩ := hT _ (List.mem_of_getElem? hv)
    obtain ⟨rfl, rfl⟩ : x = x' ∧ tx = tx' := by injection hxe; exact ⟨by assumption, by assumption⟩
    clear F4 N3
    w_strict (k_steps)
    unfold Hold
    k_dflt (refine' is_ints ?y1 ?y2 ?y3 ?y4 ?_; (case y4 => exact hsm))
    case y1 => exact Nat.ne_of_gt ht0
    case y2 => exact Nat.ne_of_gt (Nat.lt_of_lt_of_le (Nat.lt_trans ht0 ht1) ht)
    case y3 => exact Nat.ne_of_lt (Nat.lt_of_lt_of_le ht1 ht)
    by_cases hxb : x = b
    · rw [decide_eq_true hxb]
      w_strict (k_steps)
      (rename Fr _ _ _ _ => F9); (rename News _ _ _ _ => N9)
      have hcnt : (a.take (i + 1)).count b = (a.take i).count b + 1 := by
        rw [take_snocN hx, List.count_append, hxb, List.count_singleton_self]
      refine FEnd.intro F9 N9 (fun p hp => hp) ⟨rfl, hoff, ?tmA, some (.int x tx), ?zeA⟩
      case zeA =>
        funext z
        by_cases hz0 : z = Str.ofString "count"
        · subst hz0
          show _ = some (Value.int (Int.ofNat ((a.take (i + 1)).count b)) _)
          rw [hcnt]; rfl
        by_cases hz1 : z = Str.ofString "i"
        · subst hz1; rfl
        by_cases hz2 : z = Str.ofString "b"
        · subst hz2; rfl
        simp only [hz0, hz1, hz2, if_false]
    · rw [decide_eq_false hxb]
      w_strict (k_steps)
      · exact absurd (by assumption) hxb
      (rename Fr _ _ _ _ => F9); (rename News _ _ _ _ => N9)
      have hcnt : (a.take (i + 1)).count b = (a.take i).count b := by
        rw [take_snocN hx, List.count_append, List.count_singleton, if_neg (by simpa using hxb)]; rfl
      refine FEnd.intro F9 N9 (fun p hp => hp) ⟨rfl, hoff, ?tmB, some (.int x tx), ?zeB⟩
      case zeB =>
        funext z
        by_cases hz0 : z = Str.ofString "count"
        · subst hz0
          show _ = some (Value.int (Int.ofNat ((a.take (i + 1)).count b)) _)
          rw [hcnt]; rfl
        by_cases hz1 : z = Str.ofString "i"
        · subst hz1; rfl
        by_cases hz2 : z = Str.ofString "b"
        · subst hz2; rfl
        simp only [hz0, hz1, hz2, if_false]
  · rintro I h' tk m' nw F5 N5 ⟨rfl, hoff, tm, mi, rfl⟩
    clear F4 N3
    w_strict (k_steps)
    (rename Fr _ _ _ _ => F6)
    (rename News _ _ _ _ => N6)
    have hnl := IntsAre.length hI
    refine hret _ _ _ _ F6 N6 ⟨rfl, tm, ?_⟩
    rw [hnl, List.take_length]
end
end Mine
end

section
open PySem PySem.W PyProof.Rows PyProof.Rows.LCg
set_option Elab.async false
set_option pp.maxSteps 20000
set_option pp.deepTerms false
set_option pp.deepTerms.threshold 6
namespace Mine
section
local macro_rules | `(tactic| walk_at "compareOp Eq ref ref") => `(tactic| (refine Hold.mk ?_))
set_option maxRecDepth 100000 in
set_option maxHeartbeats 8000000 in
theorem same_ok (w mean mg mb) (D1 D2 : Addr) (vs ws : List Value) (ns : List Int) (c1 c2 : Nat) (rest) (hI : IntsAre vs ns) (hJ : IntsAre ws ns) :
    Calls w mean mg mb 158 [.ref D1, .ref D2] 12 ((D1, listOf vs.toArray c1) :: (D2, listOf ws.toArray c2) :: rest)
      (fun r news' => news' = (D1, listOf vs.toArray c1) :: (D2, listOf ws.toArray c2) :: rest ∧ r = .bool true) := by
  unfold Calls
  k_fill
  intro dp un gd cn cs a' ccd cl outer A₀ base h₀ L m s Q E B F X N T hk hd hu hret
  w_on
  w_strict (
  refine wpAny_call ?_
  k_dflt ktr_enter
  k_steps)
  unfold Hold
  (rename Fr _ _ _ _ => F1)
  (rename News _ _ _ _ => N1)
  k_dflt (refine' eq_intsK (ns := ns) (ms := ns) ?y1 ?y2 ?y3 ?y4 ?y5 ?_; (case y1 => exact list_isList N1 (.head _)); (case y2 => exact hI); (case y3 => exact list_isList N1 (.tail _ (.head _))); (case y4 => exact hJ); (case y5 => (first | exact Nat.lt_of_le_of_lt (Nat.add_le_add_left (by decide : 64 ≤ 8 * 12) _) hu | exact Nat.lt_of_le_of_lt (by show un + 1 + 64 ≤ un + 8 * 12; omega) hu | exact Nat.lt_of_le_of_lt (by show un + 2 + 64 ≤ un + 8 * 12; omega) hu | ktr_units)))
  rw [decide_eq_true rfl]
  w_strict (k_steps)
  (rename Fr _ _ _ _ => F2)
  (rename News _ _ _ _ => N2)
  exact hret _ _ _ _ F2 N2 ⟨rfl, rfl⟩
end
end Mine
end

section
open PySem PySem.W PyProof.Rows PyProof.Rows.LCg
set_option Elab.async false
set_option pp.maxSteps 20000
set_option pp.deepTerms false
set_option pp.deepTerms.threshold 6
namespace Mine
section
local macro_rules | `(tactic| walk_at "execs cons") => `(tactic| ((with_reducible refine wpAny_execs_cons ?_); try dsimp only))
local macro_rules | `(tactic| walk_at "call ref") => `(tactic| (refine Hold.mk ?_))
local macro_rules | `(tactic| walk_at "pyIter ref") => `(tactic| (refine Hold.mk ?_))
local macro_rules | `(tactic| walk_at "eval ListComp") => `(tactic| (refine Hold.mk ?_))
local macro_rules | `(tactic| walk_at "call builtin:sum") => `(tactic| (refine Hold.mk ?_))
/-- a call of _law_numbers with a list of the ground -/
def NumbersOk (w : World) (mean : ExcName → Option Value) (mg mb : Str → Option Value) (S : Addr) (vs : List Value) (news : List (Addr × Obj)) : Prop :=
  ∀ (dp un : Nat) (gd : Option (List Code)) (cn : Str) (cs : Scope) (a : Addr) (ccd : Value) (cl : List (Str × Addr)) (outer : List Env) (A₀ : Around) (base h₀ : Heap) (L : Addr) (m : Str → Option Value) (s : Shared)
    (Q E : Value → Shared → Prop), h₀.IsList S vs.toArray →
    Below A₀ base outer h₀ → Fr h₀ L s.heap m → (Mine.hd.heap_39 w.params).In h₀ → News h₀ L s.heap news →
    Top Mine.hd.view_39 (looseW Mine.hd.view_39 [Str.ofString "nsmallest", Str.ofString "nlargest"]) mean mg mb h₀ → cs.kind = .function →
    dp + 3 < recursionLimit → un + 8 * 3 < cLine →
    (∀ D2 vs' c2 (as : List Nat) h' tk', Fr h₀ L h' m → News h₀ L h' ((D2, listOf (List.toArray vs') c2) :: news) → IntsAre vs' (as.map Int.ofNat) → as.length = 5 → (∀ x ∈ as, x < 256) → Q (.ref D2) { s with heap := h', toks := tk' }) →
    wpAny (model PySem.Challenge.rw_mr0275_01.row.prog w) (ktrTop dp un gd cn cs L a ccd cl outer) (call (.ref 122) [.ref S]) Q E s
set_option maxRecDepth 100000 in
set_option maxHeartbeats 8000000 in
theorem numbers_ok (w mean mg mb) (S : Addr) (vs : List Value) (ns : List Int) (hI : IntsAre vs ns) (hl : vs.length ≤ 63) (news) : NumbersOk w mean mg mb S vs news := by
  unfold NumbersOk
  k_fill
  intro dp un gd cn cs a' ccd cl outer A₀ base h₀ L m s Q E hS B F X N T hk hd hu hret
  w_on
  w_strict (
  refine wpAny_call ?_
  k_dflt (refine' code_cellsT ?k1 ?k2 ?k3 ?k4 ?k5 ?kA ?kF ?kK ?k6 ?k7 ?k8 ?k9 ?kB ?kD ?_ ?c2 ?c3 ?c4; (case kA => exact rfl); (case kF => exact rfl); (case kK => assumption); (case k1 => k_asm); (case k2 => k_asm); (case k3 => k_asm); (case k4 => k_asm); (case k5 => k_asm); (case k6 => k_is); (case k7 => k_is); (case k8 => ktr_room); (case k9 => exact BindsTo.of_eq rfl); (case kB => exact rfl); (case kD => decide +kernel); (case c2 => exact rfl); (case c3 => exact rfl); (case c4 => exact rfl); k_whole; intro g' L' h' tk' cells' htk' FG' F' N' Y' B' X' T' l1; (try k_lt l1); (have hY := CellsAre.two Y'); obtain ⟨o1, o2, hE1, d1, d2⟩ := hY; subst hE1; clear Y'; (try simp only [List.cons_append, List.nil_append] at N'); (try dsimp only); (try k_fold))
  k_steps)
  (rename Fr _ _ _ _ => F2)
  (rename News _ _ _ _ => N2)
  rename_i Df h2 l2
  have d2' : o2.data = .cell (some (.ref S)) := d2
  have hS' : g'.IsList S vs.toArray := hS.at fun o e => FG'.keep _ _ e
  clear d2
  k_dflt (refine' store_cell (o := o1) F2 N2 ?zc ?zm ?zd ((L' + 1, o2) :: (Df, _) :: news) ?zs ?ze ?_ ?zk ?zx; (case zc => rfl); (case zk => rfl); (case zx => rfl); (case zd => exact d1))
  case zm => exact .tail _ (.head _)
  case zs =>
    intro p hp
    rcases List.mem_cons.mp hp with rfl | hp
    · exact .tail _ (.tail _ (.head _))
    rcases List.mem_cons.mp hp with rfl | hp
    · exact .head _
    · exact .tail _ (.tail _ (.tail _ hp))
  case ze =>
    intro p hp
    rcases List.mem_cons.mp hp with rfl | hp
    · exact Nat.ne_of_lt (Nat.lt_succ_self _)
    rcases List.mem_cons.mp hp with rfl | hp
    · exact Nat.ne_of_gt l2.1
    · exact Nat.ne_of_lt (Nat.lt_succ_of_lt (Nat.lt_succ_of_lt (l1 p hp)))
  intro h3 o3 F3 N3 d3
  clear F2 N2
  w_strict (k_steps)
  unfold Hold
  k_dflt (refine' comp_eval [Str.ofString "k"] ?xF ?xcl ?xce ?xki ?xnm ?xx ?_ ?xhs; (case xF => k_asm); (case xcl => with_unfolding_all rfl); (case xce => decide); (case xki => rfl); (case xnm => decide); (case xx => decide); (case xhs => (intro _; with_unfolding_all rfl)))
  w_strict (k_steps)
  unfold Hold
  (rename Fr _ _ _ _ => F4)
  (rename News _ _ _ _ => N4)
  (rename IsRange _ _ _ _ _ _ _ _ => hr)
  k_dflt (refine' block_range (n := 5) rfl F4 N4 hr ?ws (fun j ys _ => ∃ as : List Nat, IntsAre ys (as.map Int.ofNat) ∧ as.length = j ∧ ∀ x ∈ as, x < 256) ?_ ?_ ?_ ?_; (case ws => decide))
  · rintro j ys tk2 tk3 a1 hle; exact a1
  · exact ⟨[], .nil, rfl, fun x hx => nomatch hx⟩
  · rintro j tj ys own2 C oC D3 m₂ hX tkX E' hj hyl ⟨as, ha1, ha2, ha3⟩ hoC hm FX NX
    have NX' := News.cons2 NX (p := (L' + 1, o2)) (q := (L' + 1 + 1, o3)) (List.mem_append_left _ (.tail _ (.head _))) (List.mem_append_left _ (.head _))
    have NY := News.cons2 NX' (p := (Df, _)) (q := (C, oC)) (.tail _ (.tail _ (List.mem_append_left _ (.tail _ (.tail _ (.head _)))))) (.tail _ (.tail _ (List.mem_append_right _ (.head _))))
    generalize hled : _ ++ (C, oC) :: _ = led at NX NX' NY ⊢
    clear NX NX' N4 F4
    w_strict (k_steps)
    unfold Hold
    (rename Fr _ _ _ _ => FZ)
    (rename News _ _ _ _ => NZ)
    have hIvs : IntsAre vs ns := by assumption
    have hsl := IntsAre.pick hIvs (some (j : Int)) none (some 5)
    generalize hsv : slicePick vs.toArray (some (j : Int)) none (some 5) = sv at hsl NZ
    generalize hsn : pickNums ns (some (j : Int)) none (some 5) = sn at hsl
    k_dflt (refine' PyProof.Rows.LSm.sum_ints (vs := sv.toList) (ns := sn) FZ NZ rfl ?ul ?ui ?_; (case ui => exact hsl); (case ul => exact list_isList (vs := sv.toList) (c := 0) NZ (.head _)))
    intro hW tkW tW FW NW
    clear FZ NZ
    w_strict (k_steps)
    unfold Hold
    k_dflt (refine' Calls.use (and_ok _ _ _ _ _ _ _ _) ?vB ?vF ?vX ?vN ?vT ?vk ?vd ?vu ?_)
    case vB => k_asm
    case vF => k_asm
    case vX => k_asm
    case vN => k_asm
    case vT => k_asm
    case vk => rfl
    case vd => ktr_room
    case vu => ktr_units
    rintro rk newsk hk5 tk5 Fk5 Nk5 ⟨rfl, tx, rfl⟩
    clear NW FW
    w_strict (k_steps)
    generalize hXX : (sn.sum + _ : Int) = XX
    have e256 : XX % 256 = Int.ofNat (XX % 256).toNat := by
      show _ = (((XX % 256).toNat : Nat) : Int); omega
    refine EltEnd.intro (by assumption) (by assumption) (fun p hp => .tail _ (.tail _ (.tail _ (.tail _ (.tail _ hp))))) ⟨as ++ [(XX % 256).toNat], ?_, by simp [ha2], ?_⟩
    · rw [List.map_append, e256]
      exact IntsAre.snoc ha1 _ _
    · intro x hx
      rcases List.mem_append.mp hx with hx | hx
      · exact ha3 x hx
      · rw [List.mem_singleton.mp hx]; omega
  · rintro D3 hX tkX ys FX NX hne hyl ⟨as, ha1, ha2, ha3⟩
    clear F4 N4
    w_strict (k_steps)
    (rename Fr _ _ _ _ => FY)
    (rename News _ _ _ _ => NY)
    refine hret D3 ys ys.length as _ _ FY (fun p hp => NY p ?_) ha1 ha2 ha3
    rcases List.mem_cons.mp hp with rfl | hp
    · exact .head _
    · exact .tail _ (.tail _ (.tail _ (.tail _ hp)))
end
end Mine
end

section
open PySem PySem.W PyProof.Rows
set_option Elab.async false
namespace Mine
theorem sel_uniq {le : Int → Int → Prop} (anti : ∀ x y, le x y → le y x → x = y) : ∀ (out ord dr : List Int), (out ++ dr).Perm ord → out.Pairwise le → (∀ x ∈ out, ∀ y ∈ dr, le x y) → ord.Pairwise le → out = ord.take out.length
  | [], ord, dr, _, _, _, _ => by simp
  | x :: o, ord, dr, hp, hs, hb, ho => by
    cases ord with
    | nil => have := hp.length_eq; simp at this
    | cons y r =>
      have hx : x ∈ y :: r := hp.mem_iff.mp (by simp)
      have hy : y ∈ (x :: o) ++ dr := hp.mem_iff.mpr (by simp)
      have e : x = y := by
        rcases List.mem_cons.mp hx with e | hx
        · exact e
        have h1 : le y x := (List.pairwise_cons.mp ho).1 x hx
        rcases List.mem_append.mp hy with hy | hy
        · rcases List.mem_cons.mp hy with e | hy
          · exact e.symm
          · exact anti _ _ ((List.pairwise_cons.mp hs).1 y hy) h1
        · exact anti _ _ (hb x (by simp) y hy) h1
      subst e
      have hp' : (o ++ dr).Perm r := by simpa using hp
      have := sel_uniq anti o r dr hp' (List.pairwise_cons.mp hs).2 (fun a ha => hb a (by simp [ha])) (List.pairwise_cons.mp ho).2
      rw [List.length_cons, List.take_succ_cons, ← this]
theorem sel_take {le : Int → Int → Prop} (anti : ∀ x y, le x y → le y x → x = y) {k : Nat} {ns out ord : List Int} (h : Sel le k ns out) (hp : ord.Perm ns) (hs : ord.Pairwise le) : out = ord.take k := by
  obtain ⟨h1, h2, dr, h3, h4⟩ := h
  have := sel_uniq anti out ord dr (h3.trans hp.symm) h2 h4 hs
  rw [this, h1, ← hp.length_eq]
  rcases Nat.le_total k ord.length with h | h
  · rw [Nat.min_eq_left h]
  · rw [Nat.min_eq_right h, List.take_length, List.take_of_length_le h]
section
variable {w : World} {mean : ExcName → Option Value} {mg mb : Str → Option Value} {f : Addr} {vs : List Value} {kw : List (Str × Value)} {k : Nat} {news : List (Addr × Obj)} {Back Back' : Value → List (Addr × Obj) → Prop}
theorem CallsK.mono (C : CallsK w mean mg mb f vs kw k news Back) (h : ∀ r n, Back r n → Back' r n) : CallsK w mean mg mb f vs kw k news Back' := by
  unfold CallsK at *
  intro dp un gd cn cs a ccd cl outer A₀ base h₀ L m s Q E B F X N T hk hd hu hret
  exact C dp un gd cn cs a ccd cl outer A₀ base h₀ L m s Q E B F X N T hk hd hu fun r news' h' tk' F' N' hb => hret r news' h' tk' F' N' (h _ _ hb)
end
def Picked (le : Int → Int → Prop) (n : Int) (R : Addr) (vs : List Value) (c' : Nat) (rest : List (Addr × Obj)) (ord : List Int) (r : Value) (news' : List (Addr × Obj)) : Prop :=
  ∃ D2 vs' c2, r = .ref D2 ∧ news' = (D2, listOf (List.toArray vs') c2) :: (R, listOf vs.toArray c') :: rest ∧ IntsAre vs' (ord.take n.toNat)
section
variable (w : World) (mean : ExcName → Option Value) (mg mb : Str → Option Value) (R : Addr) (vs : List Value) (ns ord : List Int) (c' : Nat) (n : Int) (tn : Tok) (rest : List (Addr × Obj)) (hI : IntsAre vs ns) (hl : vs.length = 32) (h0 : -1 ≤ n) (h2 : n < 64) (hp : ord.Perm ns)
include hI hl h0 h2 hp
theorem nsm_all (hs : ord.Pairwise (· ≤ ·)) : CallsK w mean mg mb 76 [.int n tn, .ref R] [] 6 ((R, listOf vs.toArray c') :: rest) (Picked (· ≤ ·) n R vs c' rest ord) := by
  have an : ∀ x y : Int, x ≤ y → y ≤ x → x = y := fun _ _ a b => Int.le_antisymm a b
  by_cases e1 : n = 1
  · subst e1
    exact (nsm_1 w mean mg mb R vs ns c' tn rest hI hl).mono fun r nw ⟨D2, vs', out, a, b, c, d⟩ => ⟨D2, vs', _, a, b, sel_take an d hp hs ▸ c⟩
  by_cases e2 : n < 32
  · exact (nsm_heap w mean mg mb R vs ns c' n tn rest hI hl h0 e1 e2).mono fun r nw ⟨D2, vs', out, a, b, c, d⟩ => ⟨D2, vs', _, a, b, sel_take an d hp hs ▸ c⟩
  · exact (nsm_32 w mean mg mb R vs ns c' n tn rest hI hl (by omega) h2).mono fun r nw ⟨D2, vs', out, a, b, c, d⟩ => ⟨D2, vs', _, a, b, sel_take an d hp hs ▸ c⟩
theorem nlgK_all (hs : ord.Pairwise (· ≤ ·)) : CallsK w mean mg mb 82 [.int n tn, .ref R] [(Str.ofString "key", .ref 103)] 6 ((R, listOf vs.toArray c') :: rest) (Picked (· ≤ ·) n R vs c' rest ord) := by
  have an : ∀ x y : Int, x ≤ y → y ≤ x → x = y := fun _ _ a b => Int.le_antisymm a b
  by_cases e1 : n = 1
  · subst e1
    exact (nlgK_1 w mean mg mb R vs ns c' tn rest hI hl).mono fun r nw ⟨D2, vs', out, a, b, c, d⟩ => ⟨D2, vs', _, a, b, sel_take an d hp hs ▸ c⟩
  by_cases e2 : n < 32
  · exact (nlgK_heap w mean mg mb R vs ns c' n tn rest hI hl h0 e1 e2).mono fun r nw ⟨D2, vs', out, a, b, c, d⟩ => ⟨D2, vs', _, a, b, sel_take an d hp hs ▸ c⟩
  · exact (nlgK_32 w mean mg mb R vs ns c' n tn rest hI hl (by omega) h2).mono fun r nw ⟨D2, vs', out, a, b, c, d⟩ => ⟨D2, vs', _, a, b, sel_take an d hp hs ▸ c⟩
theorem nsmK_all (hs : ord.Pairwise (fun x y : Int => x ≥ y)) : CallsK w mean mg mb 76 [.int n tn, .ref R] [(Str.ofString "key", .ref 96)] 6 ((R, listOf vs.toArray c') :: rest) (Picked (fun x y : Int => x ≥ y) n R vs c' rest ord) := by
  have an : ∀ x y : Int, x ≥ y → y ≥ x → x = y := fun _ _ a b => Int.le_antisymm b a
  by_cases e1 : n = 1
  · subst e1
    exact (nsmK_1 w mean mg mb R vs ns c' tn rest hI hl).mono fun r nw ⟨D2, vs', out, a, b, c, d⟩ => ⟨D2, vs', _, a, b, sel_take an d hp hs ▸ c⟩
  by_cases e2 : n < 32
  · exact (nsmK_heap w mean mg mb R vs ns c' n tn rest hI hl h0 e1 e2).mono fun r nw ⟨D2, vs', out, a, b, c, d⟩ => ⟨D2, vs', _, a, b, sel_take an d hp hs ▸ c⟩
  · exact (nsmK_32 w mean mg mb R vs ns c' n tn rest hI hl (by omega) h2).mono fun r nw ⟨D2, vs', out, a, b, c, d⟩ => ⟨D2, vs', _, a, b, sel_take an d hp hs ▸ c⟩
theorem nlg_all (hs : ord.Pairwise (fun x y : Int => x ≥ y)) : CallsK w mean mg mb 82 [.int n tn, .ref R] [] 6 ((R, listOf vs.toArray c') :: rest) (Picked (fun x y : Int => x ≥ y) n R vs c' rest ord) := by
  have an : ∀ x y : Int, x ≥ y → y ≥ x → x = y := fun _ _ a b => Int.le_antisymm b a
  by_cases e1 : n = 1
  · subst e1
    exact (nlg_1 w mean mg mb R vs ns c' tn rest hI hl).mono fun r nw ⟨D2, vs', out, a, b, c, d⟩ => ⟨D2, vs', _, a, b, sel_take an d hp hs ▸ c⟩
  by_cases e2 : n < 32
  · exact (nlg_heap w mean mg mb R vs ns c' n tn rest hI hl h0 e1 e2).mono fun r nw ⟨D2, vs', out, a, b, c, d⟩ => ⟨D2, vs', _, a, b, sel_take an d hp hs ▸ c⟩
  · exact (nlg_32 w mean mg mb R vs ns c' n tn rest hI hl (by omega) h2).mono fun r nw ⟨D2, vs', out, a, b, c, d⟩ => ⟨D2, vs', _, a, b, sel_take an d hp hs ▸ c⟩
end
end Mine
end

section
open PySem PySem.W PyProof.Rows PyProof.Rows.LCg
set_option Elab.async false
set_option pp.maxSteps 20000
set_option pp.deepTerms false
set_option pp.deepTerms.threshold 6
namespace Mine
/-- a call, and the tokens before and behind it -/
def CallsG (w : World) (mean : ExcName → Option Value) (mg mb : Str → Option Value) (f : Addr) (vs : List Value) (k : Nat) (news : List (Addr × Obj))
    (Back : Nat → Value → List (Addr × Obj) → Nat → Prop) : Prop :=
  ∀ (dp un : Nat) (gd : Option (List Code)) (cn : Str) (cs : Scope) (a : Addr) (ccd : Value) (cl : List (Str × Addr)) (outer : List Env) (A₀ : Around) (base h₀ : Heap) (L : Addr) (m : Str → Option Value) (s : Shared)
    (Q E : Value → Shared → Prop),
    Below A₀ base outer h₀ → Fr h₀ L s.heap m → (Mine.hd.heap_39 w.params).In h₀ → News h₀ L s.heap news →
    Top Mine.hd.view_39 (looseW Mine.hd.view_39 [Str.ofString "nsmallest", Str.ofString "nlargest"]) mean mg mb h₀ → cs.kind = .function →
    dp + k < recursionLimit → un + 8 * k < cLine →
    (∀ r news' h' tk', Fr h₀ L h' m → News h₀ L h' news' → Back s.toks r news' tk' → Q r { s with heap := h', toks := tk' }) →
    wpAny (model PySem.Challenge.rw_mr0275_01.row.prog w) (ktrTop dp un gd cn cs L a ccd cl outer) (call (.ref f) vs) Q E s
theorem CallsG.use {w : World} {mean : ExcName → Option Value} {mg mb : Str → Option Value} {f : Addr} {vs : List Value} {k : Nat} {news : List (Addr × Obj)} {Back : Nat → Value → List (Addr × Obj) → Nat → Prop} (C : CallsG w mean mg mb f vs k news Back) {dp un : Nat} {gd : Option (List Code)} {cn : Str} {cs : Scope} {a : Addr} {ccd : Value} {cl : List (Str × Addr)} {outer : List Env} {A₀ : Around} {base h₀ : Heap} {L : Addr} {m : Str → Option Value} {s : Shared}
    {Q E : Value → Shared → Prop} (B : Below A₀ base outer h₀) (F : Fr h₀ L s.heap m) (X : (Mine.hd.heap_39 w.params).In h₀) (N : News h₀ L s.heap news)
    (T : Top Mine.hd.view_39 (looseW Mine.hd.view_39 [Str.ofString "nsmallest", Str.ofString "nlargest"]) mean mg mb h₀) (hk : cs.kind = .function)
    (hd : dp + k < recursionLimit) (hu : un + 8 * k < cLine)
    (h : ∀ r news' h' tk', Fr h₀ L h' m → News h₀ L h' news' → Back s.toks r news' tk' → Q r { s with heap := h', toks := tk' }) :
    wpAny (model PySem.Challenge.rw_mr0275_01.row.prog w) (ktrTop dp un gd cn cs L a ccd cl outer) (call (.ref f) vs) Q E s :=
  C dp un gd cn cs a ccd cl outer A₀ base h₀ L m s Q E B F X N T hk hd hu h
section
local macro_rules | `(tactic| walk_at "execs cons") => `(tactic| ((with_reducible refine wpAny_execs_cons ?_); try dsimp only))
set_option maxRecDepth 100000 in
set_option maxHeartbeats 8000000 in
theorem and_G (w mean mg mb) (x : Int) (t u : Tok) (news) :
    CallsG w mean mg mb 89 [.int x t, .int 255 u] 1 news (fun tk r news' _ => news' = news ∧ ∃ t, r = .int (x % 256) t ∧ tk ≤ t) := by
  unfold CallsG
  k_fill
  intro dp un gd cn cs a ccd cl outer A₀ base h₀ L m s Q E B F X N T hk hd hu hret
  w_on
  w_strict (
  refine wpAny_call ?_
  k_dflt ktr_enter
  k_steps)
  rw [bitAnd_m8]
  exact hret _ _ _ _ (by assumption) (by assumption) ⟨rfl, _, rfl, Nat.le_add_right _ _⟩
end
end Mine
end

section
open PySem PySem.W PyProof.Rows PyProof.Rows.LCg
set_option Elab.async false
namespace Mine
section
variable {w : World} {mean : ExcName → Option Value} {mg mb : Str → Option Value} {f : Addr} {vs : List Value} {kw : List (Str × Value)} {k : Nat} {news : List (Addr × Obj)} {Back : Value → List (Addr × Obj) → Prop}
theorem CallsK.use (C : CallsK w mean mg mb f vs kw k news Back) {dp un : Nat} {gd : Option (List Code)} {cn : Str} {cs : Scope} {a : Addr} {ccd : Value} {cl : List (Str × Addr)} {outer : List Env} {A₀ : Around} {base h₀ : Heap} {L : Addr} {m : Str → Option Value} {s : Shared}
    {Q E : Value → Shared → Prop} (B : Below A₀ base outer h₀) (F : Fr h₀ L s.heap m) (X : (Mine.hd.heap_39 w.params).In h₀) (N : News h₀ L s.heap news)
    (T : Top Mine.hd.view_39 (looseW Mine.hd.view_39 [Str.ofString "nsmallest", Str.ofString "nlargest"]) mean mg mb h₀) (hk : cs.kind = .function)
    (hd : dp + k < recursionLimit) (hu : un + 8 * k < cLine)
    (h : ∀ r news' h' tk', Fr h₀ L h' m → News h₀ L h' news' → Back r news' → Q r { s with heap := h', toks := tk' }) :
    wpAny (model PySem.Challenge.rw_mr0275_01.row.prog w) (ktrTop dp un gd cn cs L a ccd cl outer) (call (.ref f) vs kw) Q E s :=
  C dp un gd cn cs a ccd cl outer A₀ base h₀ L m s Q E B F X N T hk hd hu h
end
section
variable {w : World} {mean : ExcName → Option Value} {mg mb : Str → Option Value} {f : Addr} {vs : List Value} {kw : List (Str × Value)} {k : Nat} {news n0 : List (Addr × Obj)} {dp un : Nat} {gd : Option (List Code)} {cn : Str} {cs : Scope} {a : Addr} {ccd : Value} {cl : List (Str × Addr)} {outer : List Env} {A₀ : Around} {base h₀ : Heap} {L : Addr} {m : Str → Option Value} {s : Shared} {Q E : Value → Shared → Prop}
/-- what nsmallest and nlargest give, taken apart -/
theorem CallsK.usePick {le : Int → Int → Prop} {n : Int} {R : Addr} {us : List Value} {c' : Nat} {rest : List (Addr × Obj)} {ord : List Int} (C : CallsK w mean mg mb f vs kw k news (Picked le n R us c' rest ord)) (B : Below A₀ base outer h₀) (F : Fr h₀ L s.heap m) (X : (Mine.hd.heap_39 w.params).In h₀) (N : News h₀ L s.heap news)
    (T : Top Mine.hd.view_39 (looseW Mine.hd.view_39 [Str.ofString "nsmallest", Str.ofString "nlargest"]) mean mg mb h₀) (hk : cs.kind = .function)
    (hd : dp + k < recursionLimit) (hu : un + 8 * k < cLine)
    (h : ∀ D2 vs' c2 h' tk', Fr h₀ L h' m → News h₀ L h' ((D2, listOf (List.toArray vs') c2) :: (R, listOf us.toArray c') :: rest) → IntsAre vs' (ord.take n.toNat) → Q (.ref D2) { s with heap := h', toks := tk' }) :
    wpAny (model PySem.Challenge.rw_mr0275_01.row.prog w) (ktrTop dp un gd cn cs L a ccd cl outer) (call (.ref f) vs kw) Q E s :=
  C.use B F X N T hk hd hu (by rintro r n h' tk' F' N' ⟨D2, vs', c2, rfl, rfl, hp⟩; exact h D2 vs' c2 h' tk' F' N' hp)
theorem CallsT.useML {P : List Value → Nat → Prop} (C : CallsT w mean mg mb f vs k news (fun r n tk => ∃ D2 vs' c2, r = .ref D2 ∧ n = (D2, listOf (List.toArray vs') c2) :: n0 ∧ P vs' tk)) (B : Below A₀ base outer h₀) (F : Fr h₀ L s.heap m) (X : (Mine.hd.heap_39 w.params).In h₀) (N : News h₀ L s.heap news)
    (T : Top Mine.hd.view_39 (looseW Mine.hd.view_39 [Str.ofString "nsmallest", Str.ofString "nlargest"]) mean mg mb h₀) (hk : cs.kind = .function)
    (hd : dp + k < recursionLimit) (hu : un + 8 * k < cLine) (ht : 0 < s.toks)
    (h : ∀ D2 vs' c2 h' tk', s.toks ≤ tk' → Fr h₀ L h' m → News h₀ L h' ((D2, listOf (List.toArray vs') c2) :: n0) → P vs' tk' → Q (.ref D2) { s with heap := h', toks := tk' }) :
    wpAny (model PySem.Challenge.rw_mr0275_01.row.prog w) (ktrTop dp un gd cn cs L a ccd cl outer) (call (.ref f) vs) Q E s :=
  C.useM B F X N T hk hd hu ht (by rintro r n h' tk' hg F' N' ⟨D2, vs', c2, rfl, rfl, hp⟩; exact h D2 vs' c2 h' tk' hg F' N' hp)
theorem CallsG.useI {x : Int} (C : CallsG w mean mg mb f vs k news (fun tk r n _ => n = n0 ∧ ∃ t, r = .int x t ∧ tk ≤ t)) (B : Below A₀ base outer h₀) (F : Fr h₀ L s.heap m) (X : (Mine.hd.heap_39 w.params).In h₀) (N : News h₀ L s.heap news)
    (T : Top Mine.hd.view_39 (looseW Mine.hd.view_39 [Str.ofString "nsmallest", Str.ofString "nlargest"]) mean mg mb h₀) (hk : cs.kind = .function)
    (hd : dp + k < recursionLimit) (hu : un + 8 * k < cLine)
    (h : ∀ h' tk' t, s.toks ≤ t → Fr h₀ L h' m → News h₀ L h' n0 → Q (.int x t) { s with heap := h', toks := tk' }) :
    wpAny (model PySem.Challenge.rw_mr0275_01.row.prog w) (ktrTop dp un gd cn cs L a ccd cl outer) (call (.ref f) vs) Q E s :=
  C.use B F X N T hk hd hu (by rintro r n h' tk' F' N' ⟨rfl, t, rfl, hg⟩; exact h h' tk' t hg F' N')
end
section
variable {h₀ h : Heap} {L : Addr} {a b c d e f g : Addr × Obj}
theorem News.pickA (N : News h₀ L h [a, b, c, d, e, f, g]) : News h₀ L h [f, c, a, d, g] := fun p hp => N p (by
  simp only [List.mem_cons, List.not_mem_nil, or_false] at hp ⊢; grind)
theorem News.sw2 {l : List (Addr × Obj)} (N : News h₀ L h (a :: b :: c :: l)) : News h₀ L h (a :: c :: b :: l) := fun p hp => N p (by
  simp only [List.mem_cons] at hp ⊢; grind)
theorem News.sw3 {l : List (Addr × Obj)} (N : News h₀ L h (a :: b :: c :: d :: l)) : News h₀ L h (a :: d :: b :: c :: l) := fun p hp => N p (by
  simp only [List.mem_cons] at hp ⊢; grind)
theorem News.dropF {l : List (Addr × Obj)} (N : News h₀ L h (a :: c :: b :: l)) : News h₀ L h (b :: c :: l) := fun p hp => N p (by
  simp only [List.mem_cons] at hp ⊢; grind)
theorem News.dropG {l : List (Addr × Obj)} (N : News h₀ L h (a :: d :: b :: c :: l)) : News h₀ L h (b :: c :: d :: l) := fun p hp => N p (by
  simp only [List.mem_cons] at hp ⊢; grind)
end
theorem countOf_perm (w mean mg mb) (R : Addr) (vs : List Value) (a ord : List Int) (c' : Nat) (rest) (hI : IntsAre vs a) (hl : vs.length ≤ 64) (b : Int) (t : Tok) (tk0 : Nat) (hT : ToksIn vs tk0) (ht : tk0 ≤ t) (hsm : smallInt b = true) (hp : ord.Perm a) :
    Calls w mean mg mb 117 [.ref R, .int b t] 1 ((R, listOf vs.toArray c') :: rest)
      (fun r news' => news' = (R, listOf vs.toArray c') :: rest ∧ ∃ t, r = .int ((ord.count b : Nat) : Int) t) := by
  have h := countOf_ok w mean mg mb R vs a c' rest hI hl b t tk0 hT ht hsm
  rw [← hp.count_eq] at h
  exact h
end Mine
end

section
open PySem PySem.W PyProof.Rows PyProof.Rows.LCg
set_option Elab.async false
set_option pp.maxSteps 20000
set_option pp.deepTerms false
set_option pp.deepTerms.threshold 8
namespace Mine
theorem wish_lo (x : Int) : -1 ≤ x.fmod 36 - 1 := by
  have := Int.fmod_nonneg_of_pos x (show (0 : Int) < 36 by decide); omega
theorem wish_hi (x : Int) : x.fmod 36 - 1 < 35 := by
  have := Int.fmod_lt_of_pos x (show (0 : Int) < 36 by decide); omega
theorem News.perm3 {h₀ h : Heap} {L : Addr} {a b c : Addr × Obj} (N : News h₀ L h [a, b, c]) : News h₀ L h [c, b, a] := fun p hp => N p (by
  simp only [List.mem_cons, List.not_mem_nil, or_false] at hp ⊢; grind)
theorem small_mod (x : Int) : smallInt (x % 256) = true := by
  unfold smallInt
  simp only [Bool.and_eq_true, decide_eq_true_eq]
  omega
section
local macro_rules | `(tactic| k_qdec) => `(tactic| decide +kernel)
local macro_rules | `(tactic| walk_at "execs cons") => `(tactic| ((with_reducible refine wpAny_execs_cons ?_); try dsimp only))
local macro_rules | `(tactic| walk_at "call ref") => `(tactic| (refine Hold.mk ?_))
local macro_rules | `(tactic| walk_at "subscriptTail Name Slice ref ref") => `(tactic| (refine Hold.mk ?_))
local macro_rules | `(tactic| walk_at "subscriptTail") => `(tactic| (refine Hold.mk ?_))
local macro_rules | `(tactic| walk_at "call builtin:max") => `(tactic| (refine Hold.mk ?_))
local macro_rules | `(tactic| walk_at "call builtin:sum") => `(tactic| (refine Hold.mk ?_))
set_option maxRecDepth 100000 in
set_option maxHeartbeats 8000000 in
theorem law_holds : PySem.Challenge.rw_mr0275_01.Holds := Mine.hd (by
  k_go0
  all_goals (try k_fold)
  k_steps
  unfold Hold
  (rename IntsAre _ _ => hIS)
  have hlS := IntsAre.length hIS
  refine wpAny_with_toks (Nat.le_refl _) ?_
  k_dflt (refine' numbers_ok _ _ _ _ _ _ _ ?n1 ?n2 _ _ _ _ _ _ _ _ _ _ _ _ _ _ _ _ _ _ ?n3 ?n4 ?n5 ?n6 ?n7 ?n8 ?n9 ?na ?nb ?_)
  case n5 => k_asm
  case n4 => k_asm
  case n6 => k_asm
  case n7 => k_asm
  case n8 => k_asm
  case n9 => rfl
  case na => ktr_room
  case nb => ktr_units
  case n3 => assumption
  case n1 => assumption
  case n2 => first | assumption | omega
  intro D2 vs1 c2 as h1 tk1 F1 N1 hI1 hl1 hb1 htk1
  dsimp only at htk1
  have htk2 : 0 < tk1 := Nat.lt_of_lt_of_le (Nat.succ_pos _) htk1
  k_steps
  unfold Hold
  have hv1 := IntsAre.length hI1
  rw [List.length_map, hl1] at hv1
  k_dflt (refine' CallsT.useML (row_ok _ _ _ _ D2 vs1 as c2 _ hI1 hv1 hb1) ?rB ?rF ?rX ?rN ?rT ?rk ?rd ?ru ?rt ?_)
  case rB => k_asm
  case rF => k_asm
  case rX => k_asm
  case rN => k_asm
  case rT => k_asm
  case rk => rfl
  case rd => ktr_room
  case ru => ktr_units
  case rt => exact Nat.succ_pos _
  intro D3 vs2 c3 h2 tk2 hg2 F2 N2 hP2
  have hI2 := hP2.1
  have hT2 := hP2.2
  clear hP2
  have hperm := (order_row hb1 hl1).1
  have hsort := (order_row hb1 hl1).2
  have hl2 : vs2.length = 32 := by
    have h := IntsAre.length hI2
    rw [List.length_map, ← hperm.length_eq] at h
    rw [h]; simp [orderF]
  k_steps
  unfold Hold
  (rename Fr _ _ _ _ => F3)
  (rename News _ _ _ _ => N3)
  (rename D3 < _ ∧ D2 < _ => l3)
  refine wpAny_with_toks (Nat.le_refl _) ?_
  k_dflt (refine' PyProof.Rows.LSm.sum_ints F3 N3 rfl ?sl hIS ?_; (case sl => exact Heap.IsList.at (by assumption) fun o e => F3.keep _ _ e))
  intro h4 tk4 t4 F4 N4 hg4
  dsimp only at hg4
  clear F3 N3
  k_steps
  unfold Hold
  k_dflt (refine' CallsG.useI (and_G _ _ _ _ _ _ _ _) ?vB ?vF ?vX ?vN ?vT ?vk ?vd ?vu ?_)
  case vB => k_asm
  case vF => k_asm
  case vX => k_asm
  case vN => k_asm
  case vT => k_asm
  case vk => rfl
  case vd => ktr_room
  case vu => ktr_units
  intro h5 tk5 tS hgS F5 N5
  k_steps
  unfold Hold
  (rename Fr _ _ _ _ => F6)
  (rename News _ _ _ _ => N6)
  have N6' := News.perm3 N6
  clear N6
  k_dflt (refine' Calls.useL (order_ok' _ _ _ _ D2 vs1 as c2 _ hI1 hv1 hb1) ?oB ?oF ?oX ?oN ?oT ?ok ?od ?ou ?_)
  case oB => k_asm
  case oF => k_asm
  case oX => k_asm
  case oN => exact N6'
  case oT => k_asm
  case ok => rfl
  case od => ktr_room
  case ou => ktr_units
  intro D4 vs4 c4 h6 tk6 F7 N7 hI4
  clear N6' F6
  k_steps
  unfold Hold
  (rename Fr _ _ _ _ => F8)
  (rename News _ _ _ _ => N8)
  generalize hW : ((_ : Int).fmod 36 - 1) = W at F8 ⊢
  have hW0 : -1 ≤ W := by rw [← hW]; exact wish_lo _
  have hW1 : W < 35 := by rw [← hW]; exact wish_hi _
  clear hW
  k_dflt (refine' max_two_N rfl F8 N8 ?_)
  intro h9 tk9 F9 N9
  have hV : (if 0 > W then (0 : Int) else W) = ((W.toNat : Nat) : Int) := by split <;> omega
  rw [hV]
  generalize (if 0 > W then _ else _ : Tok) = tV
  clear F8 N8
  k_steps
  unfold Hold
  (rename Fr _ _ _ _ => FA)
  (rename News _ _ _ _ => NA)
  clear hV
  have hlo : (List.map Int.ofNat (orderF as)).length = 32 := by simp [orderF]
  have hl4 : vs4.length = 32 := (IntsAre.length hI4).trans hlo
  k_dflt (refine' kmk_slice_ints FA NA ?al ?ap ?aq hI4 ?am ?ac ?_ ?as1 ?at1 ?az)
  case al => exact list_isList NA (.head _)
  case ap => kmk_part
  case aq => kmk_part
  case am => exact kmk_upto hI4 (Int.natCast_nonneg _)
  case ac => exact rfl
  case as1 => with_unfolding_all rfl
  case at1 => kmk_pure
  case az => rw [List.size_toArray, hl4]; decide
  intro D5 vs5 hB FB NB lB hI5 _ _
  rw [Int.toNat_natCast] at hI5
  clear FA NA
  k_steps
  unfold Hold
  (rename Fr _ _ _ _ => FC)
  (rename News _ _ _ _ => NC)
  k_dflt (refine' krv_ints FC NC ?bl ?bp hI4 ?_ ?bs ?bt ?bz)
  case bl => exact list_isList NC (.tail _ (.head _))
  case bp => exact IsPart.int _ _
  case bs => with_unfolding_all rfl
  case bt => kmk_pure
  case bz => rw [List.size_toArray, hl4]; decide
  intro D6 vs6 hD FD ND lD hI6 _
  have hl6 : vs6.length = 32 := (IntsAre.length hI6).trans ((List.length_reverse ..).trans hlo)
  clear FC NC
  k_steps
  unfold Hold
  k_dflt (refine kba_turn (value' := PySem.Expr.Name (PySem.Str.ofString "_") ⟨0, 0, 0, 0⟩) (fun _ => rfl) ?_)
  k_dflt (refine' kmk_slice_ints FD ND ?cl ?cp ?cq hI6 ?cm ?cc ?_ ?cs1 ?ct1 ?cz)
  case cl => exact list_isList ND (.head _)
  case cp => kmk_part
  case cq => kmk_part
  case cm => exact kmk_upto hI6 (Int.natCast_nonneg _)
  case cc => exact rfl
  case cs1 => with_unfolding_all rfl
  case ct1 => kmk_pure
  case cz => rw [List.size_toArray, hl6]; decide
  intro D7 vs7 hE FE NE lE hI7 _ _
  rw [Int.toNat_natCast] at hI7
  clear FD ND
  k_steps
  unfold Hold
  (rename Fr _ _ _ _ => G1)
  (rename News _ _ _ _ => M1)
  have P1 := News.pickA M1
  clear M1
  have hop : (List.map Int.ofNat (orderF as)).Perm (List.map Int.ofNat (rowF as)) := hperm.map _
  have hos : (List.map Int.ofNat (orderF as)).Pairwise (· ≤ ·) := List.pairwise_map.mpr (hsort.imp fun h => Int.ofNat_le.mpr h)
  have hrp : (List.map Int.ofNat (orderF as)).reverse.Perm (List.map Int.ofNat (rowF as)) := (List.reverse_perm _).trans hop
  have hrs : (List.map Int.ofNat (orderF as)).reverse.Pairwise (fun x y : Int => x ≥ y) := List.pairwise_reverse.mpr hos
  have hW2 : W < 64 := by omega
  k_dflt (refine' CallsK.usePick (nsm_all _ _ _ _ D3 vs2 _ _ c3 W _ _ hI2 hl2 hW0 hW2 hop hos) ?pB ?pF ?pX ?pN ?pT ?pk ?pd ?pu ?_)
  case pB => k_asm
  case pF => k_asm
  case pX => k_asm
  case pN => exact P1
  case pT => k_asm
  case pk => rfl
  case pd => ktr_room
  case pu => ktr_units
  intro E1 ws1 e1 hh1 tt1 G2 M2 hJ1
  clear P1 G1
  k_steps
  unfold Hold
  have P2 := News.sw2 M2
  clear M2
  k_dflt (refine' Calls.useNR (same_ok _ _ _ _ E1 D5 ws1 vs5 _ e1 0 _ hJ1 hI5) ?s1B ?s1F ?s1X ?s1N ?s1T ?s1k ?s1d ?s1u ?_)
  case s1B => k_asm
  case s1F => k_asm
  case s1X => k_asm
  case s1N => exact P2
  case s1T => k_asm
  case s1k => rfl
  case s1d => ktr_room
  case s1u => ktr_units
  intro sh1 st1 GS1 MS1
  have R1 := News.dropF MS1
  clear P2 MS1 G2
  k_steps
  unfold Hold
  (rename Fr _ _ _ _ => GT1)
  (rename News _ _ _ _ => MT1)
  k_dflt (refine' CallsK.usePick (nlg_all _ _ _ _ D3 vs2 _ _ c3 W _ _ hI2 hl2 hW0 hW2 hrp hrs) ?p2B ?p2F ?p2X ?p2N ?p2T ?p2k ?p2d ?p2u ?_)
  case p2B => k_asm
  case p2F => k_asm
  case p2X => k_asm
  case p2N => k_asm
  case p2T => k_asm
  case p2k => rfl
  case p2d => ktr_room
  case p2u => ktr_units
  intro E2 ws2 e2 hh2 tt2 G3 M3 hJ2
  clear GT1 MT1
  k_steps
  unfold Hold
  have P3 := News.sw3 M3
  clear M3
  k_dflt (refine' Calls.useNR (same_ok _ _ _ _ E2 D7 ws2 vs7 _ e2 0 _ hJ2 hI7) ?s2B ?s2F ?s2X ?s2N ?s2T ?s2k ?s2d ?s2u ?_)
  case s2B => k_asm
  case s2F => k_asm
  case s2X => k_asm
  case s2N => exact P3
  case s2T => k_asm
  case s2k => rfl
  case s2d => ktr_room
  case s2u => ktr_units
  intro sh2 st2 GS2 MS2
  have R2 := News.dropG MS2
  clear P3 MS2 G3
  k_steps
  unfold Hold
  (rename Fr _ _ _ _ => GT2)
  (rename News _ _ _ _ => MT2)
  k_dflt (refine' CallsK.usePick (nsmK_all _ _ _ _ D3 vs2 _ _ c3 W _ _ hI2 hl2 hW0 hW2 hrp hrs) ?p3B ?p3F ?p3X ?p3N ?p3T ?p3k ?p3d ?p3u ?_)
  case p3B => k_asm
  case p3F => k_asm
  case p3X => k_asm
  case p3N => k_asm
  case p3T => k_asm
  case p3k => rfl
  case p3d => ktr_room
  case p3u => ktr_units
  intro E3 ws3 e3 hh3 tt3 G4 M4 hJ3
  clear GT2 MT2
  k_steps
  unfold Hold
  have P4 := News.sw3 M4
  clear M4
  k_dflt (refine' Calls.useNR (same_ok _ _ _ _ E3 D7 ws3 vs7 _ e3 0 _ hJ3 hI7) ?s3B ?s3F ?s3X ?s3N ?s3T ?s3k ?s3d ?s3u ?_)
  case s3B => k_asm
  case s3F => k_asm
  case s3X => k_asm
  case s3N => exact P4
  case s3T => k_asm
  case s3k => rfl
  case s3d => ktr_room
  case s3u => ktr_units
  intro sh3 st3 GS3 MS3
  have R3 := News.dropG MS3
  clear P4 MS3 G4
  k_steps
  unfold Hold
  (rename Fr _ _ _ _ => GT3)
  (rename News _ _ _ _ => MT3)
  k_dflt (refine' CallsK.usePick (nlgK_all _ _ _ _ D3 vs2 _ _ c3 W _ _ hI2 hl2 hW0 hW2 hop hos) ?p4B ?p4F ?p4X ?p4N ?p4T ?p4k ?p4d ?p4u ?_)
  case p4B => k_asm
  case p4F => k_asm
  case p4X => k_asm
  case p4N => k_asm
  case p4T => k_asm
  case p4k => rfl
  case p4d => ktr_room
  case p4u => ktr_units
  intro E4 ws4 e4 hh4 tt4 G5 M5 hJ4
  clear GT3 MT3
  k_steps
  unfold Hold
  have P5 := News.sw2 M5
  clear M5
  k_dflt (refine' Calls.useNR (same_ok _ _ _ _ E4 D5 ws4 vs5 _ e4 0 _ hJ4 hI5) ?s4B ?s4F ?s4X ?s4N ?s4T ?s4k ?s4d ?s4u ?_)
  case s4B => k_asm
  case s4F => k_asm
  case s4X => k_asm
  case s4N => exact P5
  case s4T => k_asm
  case s4k => rfl
  case s4d => ktr_room
  case s4u => ktr_units
  intro sh4 st4 GS4 MS4
  have R4 := News.dropF MS4
  clear P5 MS4 G5
  k_steps
  unfold Hold
  (rename Fr _ _ _ _ => GT4)
  (rename News _ _ _ _ => MT4)
  dsimp only at hgS
  k_dflt (refine' Calls.useNI (countOf_perm _ _ _ _ D3 vs2 _ _ c3 _ hI2 ?q1 _ _ tk2 hT2 ?q2 (small_mod _) hop) ?qB ?qF ?qX ?qN ?qT ?qk ?qd ?qu ?_)
  case q1 => rw [hl2]; decide
  case q2 => omega
  case qB => k_asm
  case qF => k_asm
  case qX => k_asm
  case qN => k_asm
  case qT => k_asm
  case qk => rfl
  case qd => ktr_room
  case qu => ktr_units
  intro hh5 tt5 tC GU MU
  clear GT4 MT4
  k_steps
  all_goals exact absurd rfl (by assumption))
end
end Mine
theorem PySem.Challenge.cw_mr0275_01_holds : PySem.Challenge.rw_mr0275_01.Holds :=
  Mine.law_holds
end
