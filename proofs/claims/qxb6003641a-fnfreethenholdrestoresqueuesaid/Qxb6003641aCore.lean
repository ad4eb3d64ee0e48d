import Derived.Test.Qxb6003641aRows
import Derived.Test.Qxb6003641aPlain
import Derived.WalkKit
import Derived.WalkSpells
import Derived.WalkLawsBesides
import Derived.Deep.QuietTactic
import Derived.BigQuiet
import Derived.RegionTactic
import Derived.OwnWalk
import Derived.Lib.Hide
import Derived.Lib.SliceRun
import Derived.Outline
import Derived.Maps.OwnSet
namespace Go.Proofs.Qxb6003641a
open Go.RowKit

/-- A pointer to a block, or nil. -/
def ptr (o : Option Nat) : Value := .pointer (o.map fun b => ⟨b, 0, none⟩)

/-- Block b is a row of type t, all of which may be written. -/
def Tag (w : World) (b t : Nat) : Prop := ∃ cs, w.heap[b]? = some (.cells cs t (0, 0))

theorem Tag.fz {w : World} {b t : Nat} (h : Tag w b t) (i : Nat) : w.frozen? ⟨b, i, none⟩ = false := by
  obtain ⟨cs, h⟩ := h
  simp [World.frozen?, h]
theorem Tag.lt {w : World} {b t : Nat} (h : Tag w b t) : b < w.heap.size := by
  obtain ⟨cs, h⟩ := h
  exact (Array.getElem?_eq_some_iff.1 h).1
theorem Tag.set {w : World} {b t : Nat} (h : Tag w b t) (b' i : Nat) (v : Value) : Tag (w.setCell ⟨b', i, none⟩ v) b t := by
  obtain ⟨cs, h⟩ := h
  by_cases e : b' = b
  · subst e
    refine ⟨cs.setIfInBounds i v, ?_⟩
    simp [World.setCell, Array.getElem?_modify, h]
  · exact ⟨cs, by simp [World.setCell, Array.getElem?_modify, e, h]⟩
theorem Tag.ne {w : World} {b b' t t' : Nat} (h : Tag w b t) (h' : Tag w b' t') (hne : t ≠ t') : b ≠ b' := by
  rintro rfl
  obtain ⟨cs, h⟩ := h
  obtain ⟨cs', h'⟩ := h'
  rw [h] at h'
  cases h'
  exact hne rfl

theorem cell_set (w : World) (b i b' i' : Nat) (v : Value) : (w.setCell ⟨b, i, none⟩ v).cell? ⟨b', i', none⟩ = if b = b' ∧ i = i' then (w.cell? ⟨b', i', none⟩).map (fun _ => v) else w.cell? ⟨b', i', none⟩ := by
  by_cases h : b = b' ∧ i = i'
  · obtain ⟨rfl, rfl⟩ := h
    rw [if_pos ⟨rfl, rfl⟩]
    cases hc : w.cell? ⟨b, i, none⟩ with
    | some u => rw [World.cell?_setCell_same _ _ _ hc]; rfl
    | none =>
      simp only [Option.map_none]
      simp only [World.cell?, World.setCell, Array.getElem?_modify, if_true] at hc ⊢
      cases hh : w.heap[b]? with
      | none => simp
      | some x =>
        rw [hh] at hc
        cases x <;> simp at hc ⊢
        omega
  · rw [if_neg h]
    exact World.cell?_setCell_other _ _ _ _ (fun e => h (by cases e; exact ⟨rfl, rfl⟩))

/-- An entry, by its cells. -/
structure EntC (w : World) (b : Nat) (s : ByteArray) (fr : Bool) (o n : Option Nat) : Prop where
  c0 : w.cell? ⟨b, 0, none⟩ = some (.string s)
  c1 : w.cell? ⟨b, 1, none⟩ = some (.int .u64 0)
  c3 : w.cell? ⟨b, 3, none⟩ = some (.bool fr)
  c4 : w.cell? ⟨b, 4, none⟩ = some (ptr o)
  c5 : w.cell? ⟨b, 5, none⟩ = some (ptr n)
  tag : Tag w b 55

/-- A Tokens, by its cells. -/
structure TokC (w : World) (T : Nat) (m o n : Option Nat) (k : Nat) : Prop where
  c0 : w.cell? ⟨T, 0, none⟩ = some (.map m)
  c1 : w.cell? ⟨T, 1, none⟩ = some (ptr o)
  c2 : w.cell? ⟨T, 2, none⟩ = some (ptr n)
  c3 : w.cell? ⟨T, 3, none⟩ = some (.int .i64 k)
  c4 : w.cell? ⟨T, 4, none⟩ = some (.int .u64 0)
  tag : Tag w T 33

/-- The world behind unlink. -/
def unl (w : World) (T e : Nat) (o n : Option Nat) (k : Int) : World :=
  let w1 := match o with
    | none => w.setCell ⟨T, 1, none⟩ (ptr n)
    | some b => w.setCell ⟨b, 5, none⟩ (ptr n)
  let w2 := match n with
    | none => w1.setCell ⟨T, 2, none⟩ (ptr o)
    | some b => w1.setCell ⟨b, 4, none⟩ (ptr o)
  (((w2.setCell ⟨e, 3, none⟩ (.bool false)).setCell ⟨e, 4, none⟩ (.pointer none)).setCell ⟨e, 5, none⟩ (.pointer none)).setCell ⟨T, 3, none⟩ (.int .i64 (k - 1))

theorem drew1 (w : World) : w.drew = w.drewN 1 := rfl
theorem drew2 (w : World) : w.drew.drew = w.drewN 2 := rfl

end Go.Proofs.Qxb6003641a
