import Derived.Lib.AppendStr
import Derived.Laws.Entries
import Derived.Below
namespace Go.Proofs.Qxb6003641a

theorem rev_nodup {α : Type} {l : List α} (h : l.Nodup) : l.reverse.Nodup := (List.reverse_perm l).symm.nodup h

section
variable {α : Type} [DecidableEq α]

/-- Who stands right behind s. -/
def nextOf : List α → α → Option α
  | [], _ => none
  | x :: r, s => if x = s then r.head? else nextOf r s

/-- Who stands right ahead of s. -/
def prevOf (l : List α) (s : α) : Option α := nextOf l.reverse s

/-- The list without s. -/
def del (l : List α) (s : α) : List α := l.filter (fun u => decide (u ≠ s))

theorem nextOf_not {l : List α} {s : α} (h : s ∉ l) : nextOf l s = none := by
  induction l with
  | nil => rfl
  | cons x r ih =>
    simp only [List.mem_cons, not_or] at h
    simp only [nextOf]
    rw [if_neg (fun e => h.1 e.symm), ih h.2]

theorem prevOf_not {l : List α} {s : α} (h : s ∉ l) : prevOf l s = none := nextOf_not (by simpa using h)

theorem mem_del {l : List α} {s u : α} : u ∈ del l s ↔ u ∈ l ∧ u ≠ s := by simp [del]

theorem del_not {l : List α} {s : α} (h : s ∉ l) : del l s = l := by
  unfold del
  exact List.filter_eq_self.2 fun u hu => by simp; exact fun e => h (e ▸ hu)

theorem del_nodup {l : List α} (h : l.Nodup) (s : α) : (del l s).Nodup := h.filter _

theorem del_reverse (l : List α) (s : α) : (del l s).reverse = del l.reverse s := by simp [del, List.filter_reverse]

theorem del_cons_same {r : List α} {s : α} (h : s ∉ r) : del (s :: r) s = r := by
  have h2 := del_not h
  unfold del at h2 ⊢
  rw [List.filter_cons_of_neg (by simp), h2]

theorem del_cons_ne {r : List α} {x s : α} (h : x ≠ s) : del (x :: r) s = x :: del r s := by simp [del, h]

theorem del_length {l : List α} {s : α} (h : s ∈ l) (hn : l.Nodup) : (del l s).length + 1 = l.length := by
  induction l with
  | nil => cases h
  | cons x r ih =>
    obtain ⟨h1, h2⟩ := List.nodup_cons.1 hn
    by_cases e : x = s
    · subst e; rw [del_cons_same h1]; rfl
    · rw [del_cons_ne e]
      have := ih ((List.mem_cons.1 h).resolve_left (fun e' => e e'.symm)) h2
      simp; omega

theorem head_del {l : List α} (hn : l.Nodup) (s : α) : (del l s).head? = if l.head? = some s then nextOf l s else l.head? := by
  cases l with
  | nil => simp [del]
  | cons x r =>
    obtain ⟨h1, h2⟩ := List.nodup_cons.1 hn
    by_cases e : x = s
    · subst e; rw [del_cons_same h1]; simp [nextOf]
    · rw [del_cons_ne e]; simp [e]

theorem nextOf_del {l : List α} (hn : l.Nodup) (s u : α) : nextOf (del l s) u = if u = s then none else if nextOf l u = some s then nextOf l s else nextOf l u := by
  induction l with
  | nil => simp [del, nextOf]
  | cons x r ih =>
    obtain ⟨h1, h2⟩ := List.nodup_cons.1 hn
    by_cases e : x = s
    · subst e
      rw [del_cons_same h1]
      by_cases eu : u = x
      · subst eu; rw [nextOf_not h1]; simp
      · have hne : nextOf r u ≠ some x := by
          intro h
          apply h1
          clear ih hn h1 h2
          induction r with
          | nil => simp [nextOf] at h
          | cons y t ih2 =>
            simp only [nextOf] at h
            by_cases ey : y = u
            · rw [if_pos ey] at h
              exact List.mem_cons_of_mem _ (List.mem_of_mem_head? h)
            · rw [if_neg ey] at h
              exact List.mem_cons_of_mem _ (ih2 h)
        simp only [nextOf, if_neg (fun h : x = u => eu h.symm), if_neg eu, if_neg hne]
    · rw [del_cons_ne e]
      by_cases eu : x = u
      · subst eu
        simp only [nextOf, if_true, if_neg e]
        rw [head_del h2]
      · simp only [nextOf, if_neg eu, if_neg e]
        rw [ih h2]

theorem prevOf_del {l : List α} (hn : l.Nodup) (s u : α) : prevOf (del l s) u = if u = s then none else if prevOf l u = some s then prevOf l s else prevOf l u := by
  unfold prevOf
  rw [del_reverse, nextOf_del (rev_nodup hn)]

theorem last_del {l : List α} (hn : l.Nodup) (s : α) : (del l s).getLast? = if l.getLast? = some s then prevOf l s else l.getLast? := by
  have h := head_del (l := l.reverse) (rev_nodup hn) s
  rw [← del_reverse] at h
  unfold prevOf
  simpa using h

theorem nextOf_iff {l : List α} (hn : l.Nodup) (o s : α) : nextOf l o = some s ↔ ∃ a b, l = a ++ o :: s :: b := by
  induction l with
  | nil => simp [nextOf]
  | cons x r ih =>
    obtain ⟨h1, h2⟩ := List.nodup_cons.1 hn
    by_cases e : x = o
    · subst e
      simp only [nextOf, if_true]
      constructor
      · intro h
        cases r with
        | nil => cases h
        | cons y t => cases h; exact ⟨[], t, rfl⟩
      · rintro ⟨a, b, hab⟩
        cases a with
        | nil => simp at hab; simp [hab]
        | cons y t =>
          simp only [List.cons_append, List.cons.injEq] at hab
          exact absurd (by rw [hab.2]; simp) h1
    · simp only [nextOf, if_neg e]
      rw [ih h2]
      constructor
      · rintro ⟨a, b, rfl⟩; exact ⟨x :: a, b, rfl⟩
      · rintro ⟨a, b, hab⟩
        cases a with
        | nil => simp at hab; exact absurd hab.1 e
        | cons y t =>
          simp only [List.cons_append, List.cons.injEq] at hab
          exact ⟨t, b, hab.2⟩

theorem prev_next {l : List α} (hn : l.Nodup) (o s : α) : prevOf l s = some o ↔ nextOf l o = some s := by
  unfold prevOf
  rw [nextOf_iff hn, nextOf_iff (rev_nodup hn)]
  constructor
  · rintro ⟨a, b, h⟩
    refine ⟨b.reverse, a.reverse, ?_⟩
    have := congrArg List.reverse h
    simpa using this
  · rintro ⟨a, b, h⟩
    exact ⟨b.reverse, a.reverse, by rw [h]; simp⟩

theorem next_mem {l : List α} {o s : α} (hn : l.Nodup) (h : nextOf l o = some s) : s ∈ l ∧ o ∈ l ∧ o ≠ s := by
  obtain ⟨a, b, rfl⟩ := (nextOf_iff hn o s).1 h
  refine ⟨by simp, by simp, ?_⟩
  have := (List.nodup_append.1 hn).2.1
  have := (List.nodup_cons.1 this).1
  intro e
  apply this
  simp [e]

theorem next_none {l : List α} (hn : l.Nodup) {s : α} (hs : s ∈ l) : nextOf l s = none ↔ l.getLast? = some s := by
  induction l with
  | nil => cases hs
  | cons x r ih =>
    obtain ⟨h1, h2⟩ := List.nodup_cons.1 hn
    by_cases e : x = s
    · subst e
      simp only [nextOf, if_true]
      cases r with
      | nil => simp
      | cons y t =>
        constructor
        · intro h; cases h
        · intro h
          rw [List.getLast?_cons_cons] at h
          exact absurd (List.mem_of_getLast? h) h1
    · have hr : s ∈ r := (List.mem_cons.1 hs).resolve_left (fun e' => e e'.symm)
      simp only [nextOf, if_neg e]
      rw [ih h2 hr]
      cases r with
      | nil => cases hr
      | cons y t => rw [List.getLast?_cons_cons]

theorem prev_none {l : List α} (hn : l.Nodup) {s : α} (hs : s ∈ l) : prevOf l s = none ↔ l.head? = some s := by
  unfold prevOf
  rw [next_none (rev_nodup hn) (by simpa using hs)]
  simp

theorem nextOf_snoc {l : List α} {s : α} (hs : s ∉ l) (hn : l.Nodup) (u : α) : nextOf (l ++ [s]) u = if l.getLast? = some u then some s else nextOf l u := by
  induction l with
  | nil => simp [nextOf]
  | cons x r ih =>
    obtain ⟨h1, h2⟩ := List.nodup_cons.1 hn
    simp only [List.mem_cons, not_or] at hs
    simp only [List.cons_append, nextOf]
    cases r with
    | nil => by_cases e : x = u <;> simp [e, nextOf]
    | cons y t =>
      rw [List.getLast?_cons_cons]
      by_cases e : x = u
      · subst e
        rw [if_pos rfl, if_neg (fun h => h1 (List.mem_of_getLast? h)), if_pos rfl]
        rfl
      · rw [if_neg e, if_neg e, ih hs.2 h2]

theorem prevOf_snoc {l : List α} {s : α} (u : α) : prevOf (l ++ [s]) u = if s = u then l.getLast? else prevOf l u := by
  simp [prevOf, nextOf]

theorem nextOf_at {l : List α} (hn : l.Nodup) {i : Nat} {s : α} (h : l[i]? = some s) : nextOf l s = l[i + 1]? := by
  induction l generalizing i with
  | nil => cases h
  | cons x r ih =>
    obtain ⟨h1, h2⟩ := List.nodup_cons.1 hn
    cases i with
    | zero =>
      simp at h
      subst h
      simp [nextOf, List.head?_eq_getElem?]
    | succ i =>
      simp only [List.getElem?_cons_succ] at h
      have hm : s ∈ r := List.mem_of_getElem? h
      simp only [nextOf]
      rw [if_neg (fun e : x = s => h1 (e ▸ hm)), ih h2 h]
      simp

theorem prevOf_at {l : List α} (hn : l.Nodup) {i : Nat} {s : α} (h : l[i]? = some s) : prevOf l s = if i = 0 then none else l[i - 1]? := by
  have hi : i < l.length := (List.getElem?_eq_some_iff.1 h).1
  by_cases h0 : i = 0
  · subst h0
    rw [if_pos rfl, prev_none hn (List.mem_of_getElem? h), List.head?_eq_getElem?]
    exact h
  · rw [if_neg h0]
    have hp : l[i - 1]? = some l[i - 1] := List.getElem?_eq_getElem (by omega)
    rw [hp, prev_next hn, nextOf_at hn hp, show i - 1 + 1 = i by omega]
    exact h

end
end Go.Proofs.Qxb6003641a
