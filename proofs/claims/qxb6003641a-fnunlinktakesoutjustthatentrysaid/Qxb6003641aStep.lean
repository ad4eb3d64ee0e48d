import Derived.Test.Qxb6003641aState
namespace Go.Proofs.Qxb6003641a
open Go.RowKit

/-- 'append(v, c)', with where the new row lies. -/
theorem wpList_appS2 {w : World} {ops : Array Oper} {rest : List Oper} {o : Oper} {a : Act} {Q : Exit → Act → World → Prop}
    (hg : o.guard = none) (s x : Operand) (hop : o.op = Op.call { callee := Callee.builtin Builtin.append, args := #[s, x], argTypes := #[22, 22] })
    (B : Nat) (v : Value) (l : List ByteArray) (hs : a.eval s = v) (c : ByteArray) (hsl : OwS w B v l) (hx : a.eval x = .slice (some ⟨w.heap.size, 0, none⟩) 1 1)
    (b1 : l.length + 1 ≤ 1099511627776) (hB : B ≤ w.heap.size)
    (hK : ∀ v' w', Hid (OwS w' B v' (l ++ [c])) → Hid (w.grownBy w' v.ownBlock) → Hid (∀ g, v'.ownBlock = some g → v.ownBlock = some g ∨ w.heap.size ≤ g) → wpList Try.prog ops Q rest (a.put o.dst v') w') :
    wpList Try.prog ops Q (o :: rest) a (w.alloc (.cells #[.string c] 9)) := by
  obtain ⟨i0, hi, hz0, hz1, hz2⟩ := info_parts infoStr
  refine wpList_append_lies _ hg s x 22 hop B 9 i0 (.string ⟨#[]⟩) 1 16 Try.underlying22 hi hz0 hz1 hz2 rfl (by decide) v l.length (l.map Value.string) hs (World.ownsRow.alloc hsl _) ⟨w.heap.size, 0, none⟩ 1 1 [.string c] hx rfl ?_ ?_ (by decide) (by unfold maxLen; omega) (by omega) (by simp; omega) _ rfl ?_
  · intro j u' hj
    match j, hj with
    | 0, hj => simp at hj; subst hj; simp [Addr.add]
  · intro u' hu'; simp at hu'; subst hu'; rfl
  · intro g cap w' hown hgr hat hlt
    refine hK _ w' ?_ ⟨hgr.os, hgr.tape, hgr.output, Nat.le_trans (by simp) hgr.size, fun q hq hne => (hgr.block q (by simp; omega) hne).trans (Below.heap_alloc w _ q hq)⟩ ?_
    · show OwS _ _ _ _
      unfold OwS
      rw [List.map_append]
      simpa using hown
    · intro g' hg'
      have : g' = g := by simpa [Value.ownBlock] using hg'.symm
      subst this
      rcases hat with h | h
      · exact .inl h
      · right; rw [h]; simp

section
variable {w : World} {base T : Nat} {m : Option Nat} {kn fr : List ByteArray} {B : ByteArray → Nat}

/-- The Tokens stays what it is while a row of strings is written. -/
theorem Inv.grown (h : Inv w base T m kn fr B) {w' : World} {row : Option Nat} (hg : w.grownBy w' row) (hr : ∀ g, row = some g → Tag w g 9) : Inv w' base T m kn fr B := by
  have key : ∀ b t, Tag w b t → t ≠ 9 → w'.heap[b]? = w.heap[b]? := fun b t ht h9 => hg.block b ht.lt (fun e => (hr b e.symm).ne ht (fun x => h9 x.symm) rfl)
  refine ⟨h.tok.kept (key T 33 h.tok.tag (by decide)), ?_, fun s hs => (h.ent s hs).kept (key _ 55 (h.ent s hs).tag (by decide)), h.sub, h.nod, h.siz, h.bT, h.bm, h.bB⟩
  have hm := h.map
  cases m with
  | none => exact hm
  | some b => exact MapIs.kept hm (hg.block b (MapIs.lt hm) (fun e => MapIs.ne_tag hm (hr b e.symm) rfl))

theorem Inv.below (h : Inv w base T m kn fr B) {w' : World} (hb : Below w.heap.size w w') : Inv w' base T m kn fr B :=
  h.grown (row := none) ⟨hb.os, hb.tape, hb.output, hb.size, fun k hk _ => hb.block k hk⟩ (fun g hg => by cases hg)

/-- Two slices do not share a block. -/
def Sep (u v : Value) : Prop := ∀ g, u.ownBlock = some g → v.ownBlock ≠ some g

theorem OwS.grown {v : Value} {l : List ByteArray} (h : OwS w base v l) {w' : World} {u : Value} (hg : w.grownBy w' u.ownBlock) (hs : Sep u v) : OwS w' base v l := by
  obtain ⟨hl, h0 | ⟨g, cap, cur, hv, hbg, hg', r⟩⟩ := h
  · exact ⟨hl, .inl h0⟩
  · refine ⟨hl, .inr ⟨g, cap, cur, hv, hbg, ?_, r⟩⟩
    rw [hg.block g (Array.getElem?_eq_some_iff.1 hg').1 (fun e => hs g e.symm (by rw [hv]; rfl))]
    exact hg'

theorem below_app {w0 w w' : World} {v : Value} {l : List ByteArray} (h : Below base w0 w) (hb : base ≤ w.heap.size) (ho : OwS w base v l) (hg : w.grownBy w' v.ownBlock) : Below base w0 w' :=
  h.grown hg hb (fun _ hq => (ho.tag hq).1)

end
end Go.Proofs.Qxb6003641a
