import Derived.Test.Qxb6605458aDoorSmall
import Derived.Test.Qxb6605458aDoorShelf
import Derived.Lib.AppendIntMem
import Derived.Lib.AppendStr
import Derived.Lib.ItoaLen
import Derived.ArgAppend
import Derived.OwnWalk
import Derived.Lib.Hide
namespace Go.Proofs.Qxb6605458aDoor
open Go.RowKit

theorem infoByte : (Tryd.prog.info? 5).map (fun i => (i.zero, i.size, i.bytes)) = some (some (.int .u8 0), 1, 1) := by kernel_rfl

theorem ownsRow_mono {w : World} {B B' : Nat} {v : Value} {n : Nat} {xs : List Value} (h : w.ownsRow B 5 1 v n xs) (hb : B' ≤ B) : w.ownsRow B' 5 1 v n xs := by
  obtain ⟨hl, h0 | ⟨g, cap, cur, hv, hbg, r⟩⟩ := h
  · exact ⟨hl, .inl h0⟩
  · exact ⟨hl, .inr ⟨g, cap, cur, hv, by omega, r⟩⟩

theorem ownsRow_below {w w' : World} {B : Nat} {v : Value} {n : Nat} {xs : List Value} (h : w.ownsRow B 5 1 v n xs) (hb : Below w.heap.size w w') : w'.ownsRow B 5 1 v n xs := by
  obtain ⟨hl, h0 | ⟨g, cap, cur, hv, hbg, hg, r⟩⟩ := h
  · exact ⟨hl, .inl h0⟩
  · exact ⟨hl, .inr ⟨g, cap, cur, hv, hbg, by rw [hb.block g (Array.getElem?_eq_some_iff.1 hg).1]; exact hg, r⟩⟩

/-- A byte slice that is either the call's own from block B on, or lies full below B: whatever is appended to it is then the call's own, and nothing below B turns. -/
def Slc (w : World) (B : Nat) (v : Value) (n : Nat) (xs : List Value) : Prop :=
  w.ownsRow B 5 1 v n xs ∨ ∃ g, g < B ∧ v = .slice (some ⟨g, 0, none⟩) n n ∧ w.ownsRow g 5 1 v n xs

theorem Slc.below {w w' : World} {B : Nat} {v : Value} {n : Nat} {xs : List Value} (h : Slc w B v n xs) (hb : Below w.heap.size w w') : Slc w' B v n xs := by
  rcases h with h | ⟨g, hg, hv, h⟩
  · exact .inl (ownsRow_below h hb)
  · exact .inr ⟨g, hg, hv, ownsRow_below h hb⟩

theorem Slc.alloc {w : World} {B : Nat} {v : Value} {n : Nat} {xs : List Value} (h : Slc w B v n xs) (o : Obj) : Slc (w.alloc o) B v n xs :=
  h.below ((Below.refl _ _).alloc (Nat.le_refl _) o)

theorem Slc.len {w : World} {B : Nat} {v : Value} {n : Nat} {xs : List Value} (h : Slc w B v n xs) : xs.length = n := by
  rcases h with h | ⟨g, hg, hv, h⟩ <;> simpa using h.1

/-- What a slice value of the kind looks like. -/
theorem Slc.shape {w : World} {B : Nat} {v : Value} {n : Nat} {xs : List Value} (h : Slc w B v n xs) : ∃ a c, v = .slice a n c := by
  rcases h with h | ⟨g, hg, hv, h⟩
  · rcases h.2 with ⟨h1, h2⟩ | ⟨g, cap, cur, hv, _⟩
    · exact ⟨none, 0, by rw [h1, h2]⟩
    · exact ⟨_, _, hv⟩
  · exact ⟨_, _, hv⟩

/-- 'append(v, x, ..)' from a slice with an address, at least one element. -/
theorem wpList_append_slc {w : World} {ops : Array Oper} {rest : List Oper} {o : Oper} {a : Act} {Q : Exit → Act → World → Prop}
    (hg : o.guard = none) (s x : Operand) (hop : o.op = Op.call { callee := Callee.builtin Builtin.append, args := #[s, x], argTypes := #[22, 22] })
    (B : Nat) (v : Value) (n : Nat) (xs : List Value) (hs : a.eval s = v) (hslc : Slc w B v n xs)
    (ad : Addr) (m c : Nat) (news : List Value) (hx : a.eval x = .slice (some ad) m c) (hn : news.length = m) (hc : ∀ j u, news[j]? = some u → w.cell? (ad.add j) = some u) (h1c : ∀ u ∈ news, u.oneCell' = true)
    (hm : 0 < m) (b1 : n + m ≤ 140737488355328) (hB : B ≤ w.heap.size)
    (hK : ∀ v' w', w'.ownsRow B 5 1 v' (n + m) (xs ++ news) → Below B w w' → wpList Tryd.prog ops Q rest (a.put o.dst v') w') :
    wpList Tryd.prog ops Q (o :: rest) a w := by
  obtain ⟨i0, hi, hz0, hz1, hz2⟩ := info_parts infoByte
  rcases hslc with h | ⟨g, hgB, rfl, h⟩
  · refine wpList_append_own w hg s x 22 hop B 5 i0 (.int .u8 0) 1 1 Tryd.underlying22 hi hz0 hz1 hz2 rfl (by decide) v n xs hs h ad m c news hx (by rw [hn, Nat.mul_one]) hc h1c (by unfold maxLen; omega) (by omega) hB ?_
    intro v' w' hown hgr _
    exact hK v' w' hown ((Below.refl _ _).grown hgr hB (fun k hk => (h.lt k hk).1))
  · refine wpList_append_grows w hg s x 22 hop 5 i0 (.int .u8 0) 1 1 Tryd.underlying22 hi hz0 hz1 hz2 rfl (by decide) (some ⟨g, 0, none⟩) n n xs hs (fun e => by cases e) h.1 ?_ ad m c news hx (by rw [hn, Nat.mul_one]) hc h1c (by omega) (by unfold maxLen; omega) (by omega) ?_
    · intro b hb j u hj
      cases hb
      exact h.cells (g := g) rfl j u hj
    · intro v' w' hown hgr
      exact hK v' w' (ownsRow_mono hown hB) ((Below.refl _ _).grown hgr hB (fun k hk => by cases hk))

theorem setRow_same (w : World) (g : Nat) (cur : Array Value) (hg : w.heap[g]? = some (.cells cur 5 (0, 0))) : w.setRow g cur = w := by
  have h : (w.setRow g cur).heap = w.heap := by
    apply Array.ext_getElem?
    intro k
    by_cases hk : k = g
    · subst hk
      rw [setRow_heap w k cur cur 5 (0, 0) hg, hg]
    · exact setRow_other w g k cur hk
  have e : w.setRow g cur = { w with heap := (w.setRow g cur).heap } := rfl
  rw [e, h]

/-- The arm that grows, of a string's bytes. -/
theorem run_append_grows_str (w : World) (ty : TypeId) (g n cap : Nat) (xs : List Value) (hl : xs.length = n) (hx : ∀ j u, xs[j]? = some u → w.cell? ((⟨g, 0, none⟩ : Addr).add j) = some u) (t : ByteArray) (hg : cap < n + t.size) (hb : n + t.size ≤ 140737488355328) :
    ∃ v' w', (Builtin.append_ #[22, 9] ty #[.slice (some ⟨g, 0, none⟩) n cap, .string t]).run Tryd.prog w = .ok v' w' ∧ w'.ownsRow w.heap.size 5 1 v' (n + t.size) (xs ++ Lib.strCells t) ∧ w.grownBy w' none := by
  obtain ⟨i0, hi, hz0, hz1, hz2⟩ := info_parts infoByte
  have hlen : (xs ++ Lib.strCells t).length = (n + t.size) * 1 := by rw [List.length_append, hl, Lib.strCells_length, Nat.mul_one]
  have hge := grownCap_ge w (n + t.size) cap 5
  have hcm : grownCap w (n + t.size) cap 5 ≤ maxLen := grownCap_le_maxLen w (n + t.size) cap 5 (by unfold maxLen; omega)
  have hr := Lib.run_append_grow_string (P := Tryd.prog) w 22 9 ty 5 i0 (.int .u8 0) Tryd.underlying22 Tryd.underlying9 hi hz0 ⟨g, 0, none⟩ n cap xs (by rw [hz1, Nat.mul_one]; exact hl) hx t hg (by omega) (by rw [hz2]; exact growslice_fits hg (by omega))
  refine ⟨_, _, hr, ⟨hlen, .inr ⟨w.heap.size, _, _, rfl, Nat.le_refl _, heap_alloc_new w.drew _, hge, hcm, ?_, ?_⟩⟩, ⟨rfl, rfl, rfl, by simp, fun k hk _ => Below.heap_alloc w.drew _ k hk⟩⟩
  · have hz1 : (Value.int IntKind.u8 0).cells.size = 1 := rfl
    simp only [Array.size_append, List.size_toArray, size_zeroCells, hz1, hl, Lib.strCells_length]
    omega
  · simp only [Array.toList_append, List.append_assoc]
    rw [← List.append_assoc, ← hlen]
    exact List.take_left

/-- 'append(v, s...)', s a string. -/
theorem wpList_append_slcS {w : World} {ops : Array Oper} {rest : List Oper} {o : Oper} {a : Act} {Q : Exit → Act → World → Prop}
    (hg : o.guard = none) (s x : Operand) (hop : o.op = Op.call { callee := Callee.builtin Builtin.append, args := #[s, x], argTypes := #[22, 9] })
    (B : Nat) (v : Value) (n : Nat) (xs : List Value) (hs : a.eval s = v) (hslc : Slc w B v n xs)
    (t : ByteArray) (hx : a.eval x = .string t)
    (b1 : n + t.size ≤ 140737488355328) (hB : B ≤ w.heap.size)
    (hK : ∀ v' w', Slc w' B v' (n + t.size) (xs ++ Lib.strCells t) → (0 < t.size → w'.ownsRow B 5 1 v' (n + t.size) (xs ++ Lib.strCells t)) → Below B w w' → wpList Tryd.prog ops Q rest (a.put o.dst v') w') :
    wpList Tryd.prog ops Q (o :: rest) a w := by
  obtain ⟨i0, hi, hz0, hz1, hz2⟩ := info_parts infoByte
  rcases hslc with h | ⟨g, hgB, rfl, h⟩
  · refine Lib.wpList_append_own_string w hg s x 22 9 hop B 5 i0 Tryd.underlying22 Tryd.underlying9 hi hz0 hz1 hz2 v n xs hs h t hx (by unfold maxLen; omega) (by omega) hB ?_
    intro v' w' hown hgr _
    exact hK v' w' (.inl hown) (fun _ => hown) ((Below.refl _ _).grown hgr hB (fun k hk => (h.lt k hk).1))
  · refine wpList_plain hg fun K hK' => ?_
    have hxl : xs.length = n := by simpa using h.1
    by_cases h0 : t.size = 0
    · obtain ⟨hl, hh | ⟨g', cap, cur, hv, hb, hg', h1, h2, h3, h4⟩⟩ := h
      · simp at hh
      simp only [Value.slice.injEq, Option.some.injEq, Addr.mk.injEq, true_and, and_true] at hv
      obtain ⟨rfl, rfl⟩ := hv
      have hr := Lib.run_append_room_string (P := Tryd.prog) w 22 9 o.type 5 i0 Tryd.underlying22 Tryd.underlying9 hi hz1 g n n cur hg' t (by omega) (by rw [h3]; omega)
      have hsc : Lib.strCells t = [] := List.eq_nil_of_length_eq_zero (by rw [Lib.strCells_length]; exact h0)
      have hset : w.setRow g (cur.toList.take n ++ Lib.strCells t ++ cur.toList.drop (n + t.size)).toArray = w := by
        rw [hsc, h0]
        simp only [List.append_nil, Nat.add_zero, List.take_append_drop, Array.toArray_toList]
        exact setRow_same w g cur hg'
      rw [hset] at hr
      unfold Oper.wp execOp
      simp only [hop, resolve, invoke, builtin, Sem.run_bind, Sem.run_pure, Result.andThen_ok, List.map_toArray, List.map_cons, List.map_nil, hs, hx, hr]
      refine hK' _ _ (hK _ w ?_ (fun hc => by omega) (Below.refl _ _))
      rw [hsc, h0, List.append_nil, Nat.add_zero]
      exact .inr ⟨g, hgB, rfl, hl, .inr ⟨g, n, cur, rfl, hb, hg', h1, h2, h3, h4⟩⟩
    · obtain ⟨v', w', hr, hown, hgr⟩ := run_append_grows_str w o.type g n n xs hxl (h.cells (g := g) rfl) t (by omega) b1
      unfold Oper.wp execOp
      simp only [hop, resolve, invoke, builtin, Sem.run_bind, Sem.run_pure, Result.andThen_ok, List.map_toArray, List.map_cons, List.map_nil, hs, hx, hr]
      exact hK' _ _ (hK v' w' (.inl (ownsRow_mono hown hB)) (fun _ => ownsRow_mono hown hB) ((Below.refl _ _).grown hgr hB (fun k hk => by cases hk)))
end Go.Proofs.Qxb6605458aDoor
