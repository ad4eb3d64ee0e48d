import Derived.Test.Qxb6003641aInv2
namespace Go.Proofs.Qxb6003641a
open Go.RowKit

theorem eqlSome (bm : Nat) (w : World) : (binOp .eql 29 (.map (some bm)) (.map none)).run Try.prog w = .ok (.bool false) w := by kernel_rfl
theorem eqlNil (w : World) : (binOp .eql 29 (.map none) (.map none)).run Try.prog w = .ok (.bool true) w := by kernel_rfl

/-- A new entry's block. -/
def entO (s : ByteArray) : Obj := .cells #[.string s, .int .u64 0, .int .u64 0, .bool false, .pointer none, .pointer none] 55

set_option maxHeartbeats 1000000 in
theorem hold_held (T e : Nat) (m : Option Nat) (s : ByteArray) (w : World) (t0 : w.cell? ⟨T, 0, none⟩ = some (.map m)) (ef : w.cell? ⟨e, 3, none⟩ = some (.bool false))
    (hlk : (Instr.lookup 29 (.map m) (.string s) true).run Try.prog w = .ok (.tuple #[.pointer (some ⟨e, 0, none⟩), .bool true]) w) :
    Calls Try.prog 34 #[.pointer (some ⟨T, 0, none⟩), .string s] w fun r w' => r = .returned (.pointer (some ⟨e, 0, none⟩)) ∧ w' = w := by
  go_enter Try.func34, Try.ntmps34
  go_wp2
  go_ret
  exact ⟨rfl, rfl⟩

set_option maxHeartbeats 1000000 in
theorem hold_free (T e : Nat) (m : Option Nat) (s : ByteArray) (w : World) (R : World → Prop) (t0 : w.cell? ⟨T, 0, none⟩ = some (.map m)) (ef : w.cell? ⟨e, 3, none⟩ = some (.bool true))
    (hlk : (Instr.lookup 29 (.map m) (.string s) true).run Try.prog w = .ok (.tuple #[.pointer (some ⟨e, 0, none⟩), .bool true]) w)
    (hu : Hid (Calls Try.prog 35 #[.pointer (some ⟨T, 0, none⟩), .pointer (some ⟨e, 0, none⟩)] w fun r w' => r = .returned (.tuple #[]) ∧ R w')) :
    Calls Try.prog 34 #[.pointer (some ⟨T, 0, none⟩), .string s] w fun r w' => r = .returned (.pointer (some ⟨e, 0, none⟩)) ∧ R w' := by
  go_enter Try.func34, Try.ntmps34
  go_wp2_with (go_at_call 35; refine hu.out.mono ?_; rintro r w1 ⟨rfl, hR⟩)
  go_ret
  exact ⟨rfl, hR⟩

set_option maxHeartbeats 1000000 in
theorem hold_new (T b : Nat) (s : ByteArray) (w w2 : World) (t0 : w.cell? ⟨T, 0, none⟩ = some (.map (some b))) (t4 : w.cell? ⟨T, 4, none⟩ = some (.int .u64 0)) (hT : T < w.heap.size)
    (hlk : (Instr.lookup 29 (.map (some b)) (.string s) true).run Try.prog w = .ok (.tuple #[.pointer none, .bool false]) w)
    (hup : (Instr.mapUpdate 29 (.map (some b)) (.string s) (.pointer (some ⟨w.heap.size, 0, none⟩))).run Try.prog (w.alloc (entO s)) = .ok () w2) :
    Calls Try.prog 34 #[.pointer (some ⟨T, 0, none⟩), .string s] w fun r w' => r = .returned (.pointer (some ⟨w.heap.size, 0, none⟩)) ∧ w' = w2 := by
  unfold entO at hup
  have hnil := eqlSome b
  have t0' : (w.alloc (.cells #[.string s, .int .u64 0, .int .u64 0, .bool false, .pointer none, .pointer none] 55)).cell? ⟨T, 0, none⟩ = some (.map (some b)) := by rw [World.cell?_alloc_lt _ _ _ hT]; exact t0
  go_enter Try.func34, Try.ntmps34
  go_wp2
  go_ret
  exact ⟨rfl, rfl⟩

set_option maxHeartbeats 1000000 in
theorem hold_first (T : Nat) (s : ByteArray) (w w2 : World) (t0 : w.cell? ⟨T, 0, none⟩ = some (.map none)) (t4 : w.cell? ⟨T, 4, none⟩ = some (.int .u64 0)) (hT : T < w.heap.size) (fT : w.frozen? ⟨T, 0, none⟩ = false)
    (hlk : (Instr.lookup 29 (.map none) (.string s) true).run Try.prog w = .ok (.tuple #[.pointer none, .bool false]) w)
    (hup : (Instr.mapUpdate 29 (.map (some w.heap.size)) (.string s) (.pointer (some ⟨w.heap.size + 1, 0, none⟩))).run Try.prog (((w.setCell ⟨T, 0, none⟩ (.map (some w.heap.size))).alloc (.map #[] 0)).alloc (entO s)) = .ok () w2) :
    Calls Try.prog 34 #[.pointer (some ⟨T, 0, none⟩), .string s] w fun r w' => r = .returned (.pointer (some ⟨w.heap.size + 1, 0, none⟩)) ∧ w' = w2 := by
  unfold entO at hup
  have hnil := eqlNil
  have hmm := @run_makeMap Try.prog
  have hne : T ≠ w.heap.size := by omega
  go_enter Try.func34, Try.ntmps34
  go_wp2
  go_ret
  exact ⟨rfl, rfl⟩

theorem cell_kept {w w' : World} {b : Nat} (h : w'.heap[b]? = w.heap[b]?) (i : Nat) : w'.cell? ⟨b, i, none⟩ = w.cell? ⟨b, i, none⟩ := by simp only [World.cell?, h]
theorem Tag.kept {w w' : World} {b t : Nat} (ht : Tag w b t) (h : w'.heap[b]? = w.heap[b]?) : Tag w' b t := by
  obtain ⟨cs, ht⟩ := ht
  exact ⟨cs, h.trans ht⟩
theorem EntC.kept {w w' : World} {b : Nat} {s : ByteArray} {f : Bool} {o n : Option Nat} (h : EntC w b s f o n) (e : w'.heap[b]? = w.heap[b]?) : EntC w' b s f o n :=
  ⟨(cell_kept e 0).trans h.c0, (cell_kept e 1).trans h.c1, (cell_kept e 3).trans h.c3, (cell_kept e 4).trans h.c4, (cell_kept e 5).trans h.c5, h.tag.kept e⟩
theorem TokC.kept {w w' : World} {T k : Nat} {m o n : Option Nat} (h : TokC w T m o n k) (e : w'.heap[T]? = w.heap[T]?) : TokC w' T m o n k :=
  ⟨(cell_kept e 0).trans h.c0, (cell_kept e 1).trans h.c1, (cell_kept e 2).trans h.c2, (cell_kept e 3).trans h.c3, (cell_kept e 4).trans h.c4, h.tag.kept e⟩

section
variable {w : World} {base T : Nat} {kn fr : List ByteArray} {B : ByteArray → Nat}

/-- Where the entries lie, s with a new one. -/
def putB (B : ByteArray → Nat) (s : ByteArray) (e : Nat) (u : ByteArray) : Nat := if u = s then e else B u

theorem putB_ne {B : ByteArray → Nat} {s u : ByteArray} {e : Nat} (h : u ≠ s) : putB B s e u = B u := if_neg h
theorem putB_self {B : ByteArray → Nat} {s : ByteArray} {e : Nat} : putB B s e s = e := if_pos rfl
theorem putB_map {B : ByteArray → Nat} {s : ByteArray} {e : Nat} {o : Option ByteArray} (h : ∀ x, o = some x → x ≠ s) : o.map (putB B s e) = o.map B := by
  cases o with
  | none => rfl
  | some x => simp [putB_ne (h x rfl)]

theorem entO_new (w : World) (s : ByteArray) : EntC (w.alloc (entO s)) w.heap.size s false none none := by
  have h : (w.alloc (entO s)).heap[w.heap.size]? = some (entO s) := heap_alloc_new w _
  have hc : ∀ i, (w.alloc (entO s)).cell? ⟨w.heap.size, i, none⟩ = (#[.string s, .int .u64 0, .int .u64 0, .bool false, .pointer none, .pointer none] : Array Value)[i]? := fun i => cell_of_row _ _ _ _ _ _ h
  exact ⟨hc 0, hc 1, hc 3, hc 4, hc 5, ⟨_, h⟩⟩

theorem Inv.add {b : Nat} (h : Inv w base T (some b) kn fr B) {s : ByteArray} (hz : s.size ≤ maxLen) (hs : s ∉ kn) (hbase : base ≤ w.heap.size) :
    ∃ w2, (Instr.mapUpdate 29 (.map (some b)) (.string s) (.pointer (some ⟨w.heap.size, 0, none⟩))).run Try.prog (w.alloc (entO s)) = .ok () w2 ∧
      Inv w2 base T (some b) (kn ++ [s]) fr (putB B s w.heap.size) ∧ Keeps base w w2 := by
  have hold : ∀ k, k < w.heap.size → (w.alloc (entO s)).heap[k]? = w.heap[k]? := fun k hk => Below.heap_alloc w _ k hk
  have hmap : MapIs w b kn B := h.map
  have hlt := hmap.lt
  obtain ⟨es0, clock0, hb0, _⟩ := hmap
  obtain ⟨es, clock, hrun, hm2⟩ := MapIs.store (MapIs.kept h.map (hold b hlt)) hz hs w.heap.size
  have hoth : ∀ k, k ≠ b → (Go.ChangeMaps.setBlock (w.alloc (entO s)) b (.map es clock)).heap[k]? = (w.alloc (entO s)).heap[k]? := fun k hk => Go.ChangeMaps.heap_setBlock_other ((hold b hlt).trans hb0) _ hk
  have hk2 : ∀ k, k < w.heap.size → k ≠ b → (Go.ChangeMaps.setBlock (w.alloc (entO s)) b (.map es clock)).heap[k]? = w.heap[k]? := fun k hk hne => (hoth k hne).trans (hold k hk)
  have hsf : s ∉ fr := fun x => hs (h.sub s x)
  have hf : ∀ u, u ∈ fr → u ≠ s := fun u hu e => hsf (e ▸ hu)
  refine ⟨_, hrun, ⟨?_, hm2, ?_, fun u hu => List.mem_append_left _ (h.sub u hu), h.nod, ?_, h.bT, h.bm, ?_⟩, ⟨⟨rfl, rfl, rfl, ?_, fun k hk => ?_⟩, fun k cs i hk => ?_⟩⟩
  · rw [putB_map (fun x hx => hf x (List.mem_of_mem_head? hx)), putB_map (fun x hx => hf x (List.mem_of_getLast? hx))]
    exact h.tok.kept (hk2 T h.tok.tag.lt (fun e => h.mne rfl h.tok.tag e.symm))
  · intro u hu
    rw [putB_map (fun x hx => hf x (h.prev_kn hx).2.1), putB_map (fun x hx => hf x (h.next_kn hx).2.1)]
    rcases List.mem_append.1 hu with hu | hu
    · have E := h.ent u hu
      rw [putB_ne (fun e : u = s => hs (e ▸ hu))]
      exact E.kept (hk2 _ E.tag.lt (fun e => h.mne rfl E.tag e.symm))
    · rw [List.mem_singleton] at hu
      subst hu
      rw [putB_self, prevOf_not hsf, nextOf_not hsf, inB_no hsf]
      exact (entO_new w u).kept (hoth _ (by omega))
  · intro u hu
    rcases List.mem_append.1 hu with hu | hu
    · exact h.siz u hu
    · rw [List.mem_singleton] at hu
      exact hu ▸ hz
  · intro u hu
    rcases List.mem_append.1 hu with hu | hu
    · rw [putB_ne (fun e : u = s => hs (e ▸ hu))]
      exact h.bB u hu
    · rw [List.mem_singleton] at hu
      subst hu
      rw [putB_self]
      exact hbase
  · simp [Go.ChangeMaps.setBlock]
  · exact hk2 k (by omega) (fun e => by have := h.bm b rfl; omega)
  · have hlk : k < w.heap.size := (Array.getElem?_eq_some_iff.1 hk).1
    rw [hk2 k hlk (fun e => by rw [e, hb0] at hk; cases hk)]
    exact hk

/-- The map is made. -/
theorem Inv.made (h : Inv w base T none kn fr B) (hbase : base ≤ w.heap.size) :
    Inv ((w.setCell ⟨T, 0, none⟩ (.map (some w.heap.size))).alloc (.map #[] 0)) base T (some w.heap.size) kn fr B ∧ Keeps base w ((w.setCell ⟨T, 0, none⟩ (.map (some w.heap.size))).alloc (.map #[] 0)) := by
  have hkn : kn = [] := h.map
  have hfr : fr = [] := List.eq_nil_iff_forall_not_mem.2 fun u hu => by have := h.sub u hu; rw [hkn] at this; cases this
  subst hkn
  subst hfr
  have hsz : (w.setCell ⟨T, 0, none⟩ (.map (some w.heap.size))).heap.size = w.heap.size := by simp [World.setCell]
  have hold : ∀ k, k < w.heap.size → ((w.setCell ⟨T, 0, none⟩ (.map (some w.heap.size))).alloc (.map #[] 0)).heap[k]? = (w.setCell ⟨T, 0, none⟩ (.map (some w.heap.size))).heap[k]? := fun k hk => Below.heap_alloc _ _ k (by rw [hsz]; exact hk)
  have hT := hold T h.tok.tag.lt
  have hnew : ((w.setCell ⟨T, 0, none⟩ (.map (some w.heap.size))).alloc (.map #[] 0)).heap[w.heap.size]? = some (.map #[] 0) := by
    have := heap_alloc_new (w.setCell ⟨T, 0, none⟩ (.map (some w.heap.size))) (.map #[] 0)
    rw [hsz] at this
    exact this
  refine ⟨⟨⟨?_, ?_, ?_, ?_, ?_, (h.tok.tag.set _ _ _).kept hT⟩, ?_, (fun s hs => by cases hs), h.sub, h.nod, h.siz, h.bT, (fun b hb => by cases hb; exact hbase), h.bB⟩, ⟨rfl, rfl, rfl, ?_, fun k hk => ?_⟩, fun k cs i hk => ?_⟩
  · rw [cell_kept hT 0, setS h.tok.c0]; simp
  · rw [cell_kept hT 1, setS h.tok.c1]; simp
  · rw [cell_kept hT 2, setS h.tok.c2]; simp
  · rw [cell_kept hT 3, setS h.tok.c3]; simp
  · rw [cell_kept hT 4, setS h.tok.c4]; simp
  · exact ⟨#[], 0, hnew, (fun x hx => by simp at hx), (fun s hs => by cases hs)⟩
  · simp [World.setCell]
  · rw [hold k (by omega), heap_set _ (fun e => by have := h.bT; omega)]
  · have hlk : k < w.heap.size := (Array.getElem?_eq_some_iff.1 hk).1
    have htag := h.tok.tag
    rw [hold k hlk, heap_set _ (fun e => by
      obtain ⟨cs', ht⟩ := htag
      rw [e, ht] at hk
      cases hk)]
    exact hk

/-- The resources known behind a hold. -/
def held (kn : List ByteArray) (s : ByteArray) : List ByteArray := if inB kn s = true then kn else kn ++ [s]

theorem held_in {kn : List ByteArray} {s : ByteArray} (h : s ∈ kn) : held kn s = kn := if_pos (inB_yes h)
theorem held_out {kn : List ByteArray} {s : ByteArray} (h : s ∉ kn) : held kn s = kn ++ [s] := if_neg (fun x => h (inB_iff.1 x))
theorem mem_held (kn : List ByteArray) (s : ByteArray) : s ∈ held kn s := by
  by_cases h : s ∈ kn
  · rw [held_in h]
    exact h
  · rw [held_out h]
    simp

theorem Inv.hold {m : Option Nat} (h : Inv w base T m kn fr B) {s : ByteArray} (hz : s.size ≤ maxLen) (hle : fr.length ≤ 1048576) (hbase : base ≤ w.heap.size) :
    Calls Try.prog 34 #[.pointer (some ⟨T, 0, none⟩), .string s] w fun r w' => ∃ m' B', r = .returned (.pointer (some ⟨B' s, 0, none⟩)) ∧ Inv w' base T m' (held kn s) (del fr s) B' ∧ Keeps base w w' ∧ (s ∈ kn → B' s = B s) := by
  by_cases hsk : s ∈ kn
  · have hlk := h.map.found true hz hsk
    have E := h.ent s hsk
    have hh : held kn s = kn := held_in hsk
    by_cases hs : s ∈ fr
    · have hc3 : w.cell? ⟨B s, 3, none⟩ = some (.bool true) := by rw [E.c3, inB_yes hs]
      refine (hold_free T (B s) m s w _ h.tok.c0 hc3 hlk (Lib.hid (h.unlink hs hle))).mono fun r w' ⟨hr, hI, hK⟩ => ?_
      exact ⟨m, B, hr, by rw [hh]; exact hI, hK, fun _ => rfl⟩
    · have hc3 : w.cell? ⟨B s, 3, none⟩ = some (.bool false) := by rw [E.c3, inB_no hs]
      refine (hold_held T (B s) m s w h.tok.c0 hc3 hlk).mono fun r w' ⟨hr, hw⟩ => ?_
      rw [hw]
      exact ⟨m, B, hr, by rw [hh, del_not hs]; exact h, Keeps.refl _ _, fun _ => rfl⟩
  · have hlk := h.map.missed true hz hsk
    have hh : held kn s = kn ++ [s] := held_out hsk
    have hd : del fr s = fr := del_not fun x => hsk (h.sub s x)
    cases m with
    | some b =>
      obtain ⟨w2, hrun, hI, hK⟩ := h.add hz hsk hbase
      refine (hold_new T b s w w2 h.tok.c0 h.tok.c4 h.tok.tag.lt hlk hrun).mono fun r w' ⟨hr, hw⟩ => ?_
      rw [hw]
      exact ⟨some b, putB B s w.heap.size, by rw [putB_self]; exact hr, by rw [hh, hd]; exact hI, hK, fun x => absurd x hsk⟩
    | none =>
      obtain ⟨hI0, hK0⟩ := h.made hbase
      have hsz : ((w.setCell ⟨T, 0, none⟩ (.map (some w.heap.size))).alloc (.map #[] 0)).heap.size = w.heap.size + 1 := by simp [World.setCell]
      obtain ⟨w2, hrun, hI, hK⟩ := hI0.add hz hsk (by omega)
      rw [hsz] at hrun hI
      refine (hold_first T s w w2 h.tok.c0 h.tok.c4 h.tok.tag.lt (h.tok.tag.fz 0) hlk hrun).mono fun r w' ⟨hr, hw⟩ => ?_
      rw [hw]
      exact ⟨some w.heap.size, putB B s (w.heap.size + 1), by rw [putB_self]; exact hr, by rw [hh, hd]; exact hI, hK0.trans hK, fun x => absurd x hsk⟩

end
end Go.Proofs.Qxb6003641a
