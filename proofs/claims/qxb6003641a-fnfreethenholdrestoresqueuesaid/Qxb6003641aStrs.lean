import Derived.Test.Qxb6003641aHold
import Derived.Deep.AppendLies
namespace Go.Proofs.Qxb6003641a
open Go.RowKit

theorem infoStr : (Try.prog.info? 9).map (fun i => (i.zero, i.size, i.bytes)) = some (some (.string ⟨#[]⟩), 1, 16) := by kernel_rfl

def strAt (ss : List ByteArray) (j : Nat) : ByteArray := ss.getD j ByteArray.empty

theorem strAt_get (ss : List ByteArray) (k : Nat) (h : k < ss.length) : strAt ss k = ss[k] := by
  unfold strAt
  rw [List.getD_eq_getElem?_getD, List.getElem?_eq_getElem h]
  rfl
theorem strAt_mem (ss : List ByteArray) (k : Nat) (h : k < ss.length) : strAt ss k ∈ ss := by rw [strAt_get ss k h]; simp
theorem strAt_some (ss : List ByteArray) (k : Nat) (h : k < ss.length) : ss[k]? = some (strAt ss k) := by rw [strAt_get ss k h, List.getElem?_eq_getElem h]

/-- A slice of strings that lies somewhere: for the walks that only read it. -/
def RowS (w : World) (ao : Option Addr) (n : Nat) (ss : List ByteArray) : Prop :=
  ss.length = n ∧ ∀ j, j < n → ∃ b off, ao = some ⟨b, off, none⟩ ∧ w.cell? ⟨b, off + j, none⟩ = some (.string (strAt ss j))

/-- The strings l, in a slice that is owned from B on. -/
def OwS (w : World) (B : Nat) (v : Value) (l : List ByteArray) : Prop := w.ownsRow B 9 1 v l.length (l.map Value.string)

theorem OwS.nil (w : World) (B : Nat) : OwS w B (.slice none 0 0) [] := World.ownsRow_nil _ _ _ _
theorem OwS.mono {w : World} {B B' : Nat} {v : Value} {l : List ByteArray} (h : OwS w B v l) (hb : B' ≤ B) : OwS w B' v l := by
  obtain ⟨hl, h0 | ⟨g, cap, cur, hv, hbg, r⟩⟩ := h
  · exact ⟨hl, .inl h0⟩
  · exact ⟨hl, .inr ⟨g, cap, cur, hv, by omega, r⟩⟩
theorem OwS.below {w w' : World} {B : Nat} {v : Value} {l : List ByteArray} (h : OwS w B v l) (hb : Below w.heap.size w w') : OwS w' B v l := by
  obtain ⟨hl, h0 | ⟨g, cap, cur, hv, hbg, hg, r⟩⟩ := h
  · exact ⟨hl, .inl h0⟩
  · exact ⟨hl, .inr ⟨g, cap, cur, hv, hbg, by rw [hb.block g (Array.getElem?_eq_some_iff.1 hg).1]; exact hg, r⟩⟩
theorem OwS.keeps {w w' : World} {B base : Nat} {v : Value} {l : List ByteArray} (h : OwS w B v l) (hb : Keeps base w w') : OwS w' B v l := by
  obtain ⟨hl, h0 | ⟨g, cap, cur, hv, hbg, hg, r⟩⟩ := h
  · exact ⟨hl, .inl h0⟩
  · exact ⟨hl, .inr ⟨g, cap, cur, hv, hbg, hb.strs g _ _ hg, r⟩⟩
theorem OwS.row {w : World} {B : Nat} {v : Value} {l : List ByteArray} (h : OwS w B v l) : ∃ a c, v = .slice a l.length c ∧ RowS w a l.length l := by
  rcases h.2 with ⟨h1, h2⟩ | ⟨g, cap, cur, hv, hb, hg, h1, h2, h3, h4⟩
  · exact ⟨none, 0, by rw [h1, h2], rfl, fun j hj => by omega⟩
  · refine ⟨some ⟨g, 0, none⟩, cap, hv, rfl, fun j hj => ⟨g, 0, rfl, ?_⟩⟩
    have := h.cells (g := g) (by rw [hv]; rfl) j (.string (strAt l j)) (by rw [List.getElem?_map, strAt_some l j hj]; rfl)
    rw [Addr.add_lit] at this
    exact this
theorem OwS.tag {w : World} {B : Nat} {v : Value} {l : List ByteArray} (h : OwS w B v l) {g : Nat} (hg : v.ownBlock = some g) : B ≤ g ∧ Tag w g 9 := by
  rcases h.2 with ⟨h1, h2⟩ | ⟨g', cap, cur, hv, hb, hg', h1, h2, h3, h4⟩
  · rw [h1] at hg; cases hg
  · rw [hv] at hg
    have : g = g' := by simpa [Value.ownBlock] using hg.symm
    subst this
    exact ⟨hb, _, hg'⟩

/-- 'append(v, c)', the string laid in a block of its own. -/
theorem wpList_appS {w : World} {ops : Array Oper} {rest : List Oper} {o : Oper} {a : Act} {Q : Exit → Act → World → Prop}
    (hg : o.guard = none) (s x : Operand) (hop : o.op = Op.call { callee := Callee.builtin Builtin.append, args := #[s, x], argTypes := #[22, 22] })
    (B : Nat) (v : Value) (l : List ByteArray) (hs : a.eval s = v) (c : ByteArray) (hsl : OwS w B v l) (hx : a.eval x = .slice (some ⟨w.heap.size, 0, none⟩) 1 1)
    (b1 : l.length + 1 ≤ 1099511627776) (hB : B ≤ w.heap.size)
    (hK : ∀ v' w' l', Hid (l' = l ++ [c]) → l'.length ≤ l.length + 1 → OwS w' B v' l' → Hid (w.grownBy w' v.ownBlock) → wpList Try.prog ops Q rest (a.put o.dst v') w') :
    wpList Try.prog ops Q (o :: rest) a (w.alloc (.cells #[.string c] 9)) := by
  obtain ⟨i0, hi, hz0, hz1, hz2⟩ := info_parts infoStr
  refine wpList_append_lies _ hg s x 22 hop B 9 i0 (.string ⟨#[]⟩) 1 16 Try.underlying22 hi hz0 hz1 hz2 rfl (by decide) v l.length (l.map Value.string) hs (World.ownsRow.alloc hsl _) ⟨w.heap.size, 0, none⟩ 1 1 [.string c] hx rfl ?_ ?_ (by decide) (by unfold maxLen; omega) (by omega) (by simp; omega) _ rfl ?_
  · intro j u' hj
    match j, hj with
    | 0, hj => simp at hj; subst hj; simp [Addr.add]
  · intro u' hu'; simp at hu'; subst hu'; rfl
  · intro g cap w' hown hgr hat hlt
    refine hK _ w' (l ++ [c]) (Lib.hid rfl) (by simp) ?_ ⟨hgr.os, hgr.tape, hgr.output, Nat.le_trans (by simp) hgr.size, fun q hq hne => (hgr.block q (by simp; omega) hne).trans (Below.heap_alloc w _ q hq)⟩
    unfold OwS
    rw [List.map_append]
    simpa using hown

theorem neS {a b : ByteArray} (h : a ≠ b) : (a.toList == b.toList) = false := by
  rw [ByteArray.toList_eq, ByteArray.toList_eq]
  simp only [beq_eq_false_iff_ne, ne_eq]
  intro e
  apply h
  cases a with | mk a => cases b with | mk b => cases a; cases b; simp at e; rw [e]

/-- What zzIndex answers. -/
def IdxRes (ss : List ByteArray) (s : ByteArray) (r : Int) : Prop := (s ∉ ss ∧ r = -1) ∨ ∃ k : Nat, k < ss.length ∧ strAt ss k = s ∧ r = k

set_option maxHeartbeats 1000000 in
theorem index_any (ao : Option Addr) (n c : Nat) (ss : List ByteArray) (s : ByteArray) (w : World) (hr : RowS w ao n ss) (hn : (n : Int) ≤ 1099511627776) :
    Calls Try.prog 22 #[.slice ao n c, .string s] w fun e w' => ∃ r, Hid (IdxRes ss s r) ∧ e = .returned (.int .i64 r) ∧ w' = w := by
  have HR := Lib.hid hr
  clear hr
  go_enter Try.func22, Try.ntmps22
  go_wp2
  go_loop [5] (fun i => ∃ k : Nat, k ≤ n ∧ i = .int .i64 k ∧ Hid (∀ j, j < k → strAt ss j ≠ s)) (fun i => n - (intOf i).toNat)
  case atStart => exact ⟨0, Nat.zero_le _, rfl, fun j hj => by omega⟩
  case round =>
    obtain ⟨k, hk, rfl, hno⟩ := hrel
    by_cases hlt : (k : Int) < (n : Int)
    · obtain ⟨b, off, hao, hc⟩ := HR.out.2 k (by omega)
      subst hao
      obtain ⟨st, hst⟩ : ∃ st, st = strAt ss k := ⟨_, rfl⟩
      rw [← hst] at hc
      have HST := Lib.hid hst
      clear hst
      by_cases e : st = s
      · subst e
        go_wp2
        go_ret
        exact ⟨_, .inr ⟨k, by have := HR.out.1; omega, HST.out.symm, rfl⟩, rfl, rfl⟩
      · have he := neS e
        go_wp2
        go_round
        case rel => exact ⟨k + 1, by omega, by go_num, fun j hj => by
          by_cases ej : j = k
          · rw [ej, ← HST.out]; exact e
          · exact hno.out j (by omega)⟩
        case measure => simp [intOf]; omega
    · go_wp2
      go_ret
      refine ⟨-1, .inl ⟨fun hm => ?_, rfl⟩, rfl, rfl⟩
      obtain ⟨j, hj, e⟩ := List.getElem_of_mem hm
      exact hno.out j (by have := HR.out.1; omega) (by rw [strAt_get ss j hj]; exact e)

end Go.Proofs.Qxb6003641a
