import Derived.Test.Qxb6003641aInv
namespace Go.Proofs.Qxb6003641a
open Go.RowKit

section
variable {w : World} {base T : Nat} {m : Option Nat} {kn fr : List ByteArray} {B : ByteArray → Nat}

theorem heap_set (w : World) {b x : Nat} (h : b ≠ x) (i : Nat) (v : Value) : (w.setCell ⟨x, i, none⟩ v).heap[b]? = w.heap[b]? :=
  Below.heap_setCell _ _ _ _ (fun e => by first | exact h e | exact h e.symm)

theorem unl_heap {b e : Nat} {o n : Option Nat} {k : Int} (hT : b ≠ T) (he : b ≠ e) (ho : ∀ x, o = some x → b ≠ x) (hn : ∀ x, n = some x → b ≠ x) : (unl w T e o n k).heap[b]? = w.heap[b]? := by
  unfold unl
  rw [heap_set _ hT, heap_set _ he, heap_set _ he, heap_set _ he]
  cases n with
  | none =>
    rw [heap_set _ hT]
    cases o with
    | none => rw [heap_set _ hT]
    | some x => rw [heap_set _ (ho x rfl)]
  | some y =>
    rw [heap_set _ (hn y rfl)]
    cases o with
    | none => rw [heap_set _ hT]
    | some x => rw [heap_set _ (ho x rfl)]

theorem frd_heap {b e : Nat} {n : Option Nat} {k : Int} (hT : b ≠ T) (he : b ≠ e) (hn : ∀ x, n = some x → b ≠ x) : (frd w T e n k).heap[b]? = w.heap[b]? := by
  unfold frd
  rw [heap_set _ hT, heap_set _ hT]
  cases n with
  | none => rw [heap_set _ hT, heap_set _ he, heap_set _ he, heap_set _ he]
  | some y => rw [heap_set _ (hn y rfl), heap_set _ he, heap_set _ he, heap_set _ he]

theorem Inv.prev_kn (h : Inv w base T m kn fr B) {s o : ByteArray} (ho : prevOf fr s = some o) : o ∈ kn ∧ o ∈ fr ∧ o ≠ s := by
  obtain ⟨_, h2, h3⟩ := next_mem h.nod ((prev_next h.nod o s).1 ho)
  exact ⟨h.sub o h2, h2, h3⟩
theorem Inv.next_kn (h : Inv w base T m kn fr B) {s n : ByteArray} (hn : nextOf fr s = some n) : n ∈ kn ∧ n ∈ fr ∧ s ≠ n := by
  obtain ⟨h1, _, h3⟩ := next_mem h.nod hn
  exact ⟨h.sub n h1, h1, h3⟩

theorem map_some_iff (h : Inv w base T m kn fr B) {o : Option ByteArray} (ho : ∀ x, o = some x → x ∈ kn) {u : ByteArray} (hu : u ∈ kn) : o.map B = some (B u) ↔ o = some u := by
  cases o with
  | none => simp
  | some x =>
    simp only [Option.map_some, Option.some.injEq]
    exact ⟨fun e => h.inj (ho x rfl) hu e, fun e => by rw [e]⟩

theorem Inv.unl_inv (h : Inv w base T m kn fr B) {s : ByteArray} (hs : s ∈ fr) : Inv (unl w T (B s) ((prevOf fr s).map B) ((nextOf fr s).map B) (fr.length : Int)) base T m kn (del fr s) B := by
  have hsk := h.sub s hs
  have hT := h.ne hsk
  have hp : ∀ x, prevOf fr s = some x → x ∈ kn := fun x hx => (h.prev_kn hx).1
  have hn : ∀ x, nextOf fr s = some x → x ∈ kn := fun x hx => (h.next_kn hx).1
  have hpb : ∀ x, (prevOf fr s).map B = some x → ∃ u, u ∈ kn ∧ x = B u := fun x hx => by
    obtain ⟨u, h1, h2⟩ := Option.map_eq_some_iff.1 hx
    exact ⟨u, hp u h1, h2.symm⟩
  have hnb : ∀ x, (nextOf fr s).map B = some x → ∃ u, u ∈ kn ∧ x = B u := fun x hx => by
    obtain ⟨u, h1, h2⟩ := Option.map_eq_some_iff.1 hx
    exact ⟨u, hn u h1, h2.symm⟩
  refine ⟨⟨unl0 h.tok.c0, ?_, ?_, ?_, ?_, unl_tag h.tok.tag⟩, ?_, fun u hu => ⟨unl0 (h.ent u hu).c0, unl1 (h.ne hu) (h.ent u hu).c1, ?_, ?_, ?_, unl_tag (h.ent u hu).tag⟩, fun u hu => h.sub u (mem_del.1 hu).1, del_nodup h.nod s, h.siz, h.bT, h.bm, h.bB⟩
  · rw [unlT1 hT.symm h.tok.c1, head_del h.nod]
    by_cases e : prevOf fr s = none
    · rw [if_pos (by rw [e]; rfl), if_pos ((prev_none h.nod hs).1 e)]
    · rw [if_neg (by simpa using e), if_neg (fun x => e ((prev_none h.nod hs).2 x))]
  · rw [unlT2 hT.symm h.tok.c2, last_del h.nod]
    by_cases e : nextOf fr s = none
    · rw [if_pos (by rw [e]; rfl), if_pos ((next_none h.nod hs).1 e)]
    · rw [if_neg (by simpa using e), if_neg (fun x => e ((next_none h.nod hs).2 x))]
  · rw [unlT3 h.tok.c3]
    have := del_length hs h.nod
    rw [show (fr.length : Int) - 1 = ((del fr s).length : Int) by omega]
  · refine unlT4 hT.symm (fun e => ?_) h.tok.c4
    obtain ⟨u, hu, e2⟩ := hnb T e
    exact h.ne hu e2
  · have hmap := h.map
    cases m with
    | none => exact hmap
    | some b =>
      refine MapIs.kept hmap (unl_heap (h.mne rfl h.tok.tag) (h.mne rfl (h.ent s hsk).tag) (fun x hx => ?_) (fun x hx => ?_))
      · obtain ⟨u, hu, rfl⟩ := hpb x hx
        exact h.mne rfl (h.ent u hu).tag
      · obtain ⟨u, hu, rfl⟩ := hnb x hx
        exact h.mne rfl (h.ent u hu).tag
  · rw [unl3 (h.ne hu) (h.ent u hu).c3]
    by_cases e : u = s
    · subst e
      rw [if_pos rfl, inB_no (fun x => (mem_del.1 x).2 rfl)]
    · rw [if_neg (fun x => e (h.inj hsk hu x).symm)]
      rw [inB_same (l := del fr s) (l' := fr) ⟨fun x => (mem_del.1 x).1, fun x => mem_del.2 ⟨x, e⟩⟩]
  · rw [unl4 (h.ne hu) (h.ent u hu).c4, prevOf_del h.nod]
    by_cases e : u = s
    · subst e
      rw [if_pos rfl, if_pos rfl]
      rfl
    · rw [if_neg (fun x => e (h.inj hsk hu x).symm), if_neg e]
      by_cases e2 : nextOf fr s = some u
      · rw [if_pos (by rw [e2]; rfl), if_pos ((prev_next h.nod s u).2 e2)]
      · rw [if_neg (fun x => e2 ((map_some_iff h hn hu).1 x)), if_neg (fun x => e2 ((prev_next h.nod s u).1 x))]
  · rw [unl5 (h.ne hu) (h.ent u hu).c5, nextOf_del h.nod]
    by_cases e : u = s
    · subst e
      rw [if_pos rfl, if_pos rfl]
      rfl
    · rw [if_neg (fun x => e (h.inj hsk hu x).symm), if_neg e]
      by_cases e2 : prevOf fr s = some u
      · rw [if_pos (by rw [e2]; rfl), if_pos ((prev_next h.nod u s).1 e2)]
      · rw [if_neg (fun x => e2 ((map_some_iff h hp hu).1 x)), if_neg (fun x => e2 ((prev_next h.nod u s).2 x))]

theorem Inv.frd_inv (h : Inv w base T m kn fr B) {s : ByteArray} (hsk : s ∈ kn) (hs : s ∉ fr) : Inv (frd w T (B s) (fr.getLast?.map B) (fr.length : Int)) base T m kn (fr ++ [s]) B := by
  have hT := h.ne hsk
  have hl : ∀ x, fr.getLast? = some x → x ∈ kn := fun x hx => h.sub x (List.mem_of_getLast? hx)
  have hlb : ∀ x, fr.getLast?.map B = some x → ∃ u, u ∈ kn ∧ x = B u := fun x hx => by
    obtain ⟨u, h1, h2⟩ := Option.map_eq_some_iff.1 hx
    exact ⟨u, hl u h1, h2.symm⟩
  have hnod : (fr ++ [s]).Nodup := List.nodup_append.2 ⟨h.nod, by simp, fun a ha b hb => by
    rw [List.mem_singleton] at hb
    subst hb
    exact fun e => hs (e ▸ ha)⟩
  refine ⟨⟨frd0 h.tok.c0, ?_, ?_, ?_, frdT4 hT.symm h.tok.c4, frd_tag h.tok.tag⟩, ?_, fun u hu => ⟨frd0 (h.ent u hu).c0, frd1 (h.ne hu) (h.ent u hu).c1, ?_, ?_, ?_, frd_tag (h.ent u hu).tag⟩, ?_, hnod, h.siz, h.bT, h.bm, h.bB⟩
  · rw [frdT1 h.tok.c1]
    cases fr with
    | nil => rfl
    | cons x r => simp
  · rw [frdT2 h.tok.c2]
    simp
  · rw [frdT3 h.tok.c3]
    simp
  · have hmap := h.map
    cases m with
    | none => exact hmap
    | some b =>
      refine MapIs.kept hmap (frd_heap (h.mne rfl h.tok.tag) (h.mne rfl (h.ent s hsk).tag) (fun x hx => ?_))
      obtain ⟨u, hu, rfl⟩ := hlb x hx
      exact h.mne rfl (h.ent u hu).tag
  · rw [frd3 (h.ne hu) (h.ent u hu).c3]
    by_cases e : u = s
    · subst e
      rw [if_pos rfl, inB_yes (by simp)]
    · rw [if_neg (fun x => e (h.inj hsk hu x).symm)]
      rw [inB_same (l := fr ++ [s]) (l' := fr) ⟨fun x => (List.mem_append.1 x).elim id (fun y => absurd (List.mem_singleton.1 y) e), fun x => List.mem_append.2 (.inl x)⟩]
  · rw [frd4 (h.ne hu) (h.ent u hu).c4, prevOf_snoc]
    by_cases e : u = s
    · subst e
      rw [if_pos rfl, if_pos rfl]
    · rw [if_neg (fun x => e (h.inj hsk hu x).symm), if_neg (fun x => e x.symm)]
  · rw [frd5 (h.ne hu) (h.ent u hu).c5, nextOf_snoc hs h.nod]
    by_cases e2 : fr.getLast? = some u
    · rw [if_pos (by rw [e2]; rfl), if_pos e2]
      rfl
    · rw [if_neg (fun x => e2 ((map_some_iff h hl hu).1 x)), if_neg e2]
      by_cases e : u = s
      · subst e
        rw [if_pos rfl, nextOf_not hs]
        rfl
      · rw [if_neg (fun x => e (h.inj hsk hu x).symm)]
  · intro u hu
    rcases List.mem_append.1 hu with hu | hu
    · exact h.sub u hu
    · rw [List.mem_singleton] at hu
      exact hu ▸ hsk

theorem Inv.drewN (h : Inv w base T m kn fr B) (q : Nat) : Inv (w.drewN q) base T m kn fr B :=
  ⟨⟨h.tok.c0, h.tok.c1, h.tok.c2, h.tok.c3, h.tok.c4, h.tok.tag⟩, by have := h.map; cases m with | none => exact this | some b => exact MapIs.kept this rfl,
    fun s hs => ⟨(h.ent s hs).c0, (h.ent s hs).c1, (h.ent s hs).c3, (h.ent s hs).c4, (h.ent s hs).c5, (h.ent s hs).tag⟩, h.sub, h.nod, h.siz, h.bT, h.bm, h.bB⟩

/-- unlink: s leaves the queue. -/
theorem Inv.unlink (h : Inv w base T m kn fr B) {s : ByteArray} (hs : s ∈ fr) (hle : fr.length ≤ 1048576) :
    Calls Try.prog 35 #[.pointer (some ⟨T, 0, none⟩), .pointer (some ⟨B s, 0, none⟩)] w fun r w' => r = .returned (.tuple #[]) ∧ Inv w' base T m kn (del fr s) B ∧ Keeps base w w' := by
  have hsk := h.sub s hs
  have hI := h.unl_inv hs
  have E := h.ent s hsk
  have hT := h.ne hsk
  have hpos : (1 : Int) ≤ (fr.length : Int) := by have := List.length_pos_of_mem hs; omega
  have hc3 : w.cell? ⟨B s, 3, none⟩ = some (.bool true) := by rw [E.c3, inB_yes hs]
  have hK : Keeps base w (unl w T (B s) ((prevOf fr s).map B) ((nextOf fr s).map B) (fr.length : Int)) := by
    refine unl_keeps h.bT h.tok.tag (h.bB s hsk) E.tag (fun x hx => ?_) (fun x hx => ?_)
    · obtain ⟨u, h1, rfl⟩ := Option.map_eq_some_iff.1 hx
      have := (h.prev_kn h1).1
      exact ⟨h.bB u this, (h.ent u this).tag⟩
    · obtain ⟨u, h1, rfl⟩ := Option.map_eq_some_iff.1 hx
      have := (h.next_kn h1).1
      exact ⟨h.bB u this, (h.ent u this).tag⟩
  have c4 := E.c4
  have c5 := E.c5
  have fin : ∀ r w', (r = .returned (.tuple #[]) ∧ ∃ q, w' = (unl w T (B s) ((prevOf fr s).map B) ((nextOf fr s).map B) (fr.length : Int)).drewN q) → r = Ending.returned (.tuple #[]) ∧ Inv w' base T m kn (del fr s) B ∧ Keeps base w w' := by
    rintro r w' ⟨hr, q, rfl⟩
    exact ⟨hr, hI.drewN q, hK.drewN q⟩
  cases ho : prevOf fr s with
  | none =>
    rw [ho] at c4 fin
    cases hn : nextOf fr s with
    | none =>
      rw [hn] at c5 fin
      exact (unlink_nn T (B s) _ _ _ w hT c4 c5 hc3 h.tok.c1 h.tok.c2 h.tok.c3 hpos (by omega) h.tok.tag.fz E.tag.fz).mono fin
    | some n =>
      rw [hn] at c5 fin
      obtain ⟨n1, _, n3⟩ := h.next_kn hn
      exact (unlink_ns T (B s) _ _ (B n) _ w hT c4 c5 hc3 h.tok.c1 h.tok.c3 hpos (by omega) h.tok.tag.fz E.tag.fz (h.ne n1) (fun e => n3 (h.inj hsk n1 e)) (h.ent n n1).c4 (h.ent n n1).tag.fz).mono fin
  | some o =>
    rw [ho] at c4 fin
    obtain ⟨o1, _, o3⟩ := h.prev_kn ho
    cases hn : nextOf fr s with
    | none =>
      rw [hn] at c5 fin
      exact (unlink_sn T (B s) _ _ (B o) _ w hT c4 c5 hc3 h.tok.c2 h.tok.c3 hpos (by omega) h.tok.tag.fz E.tag.fz (h.ne o1) (fun e => o3 (h.inj o1 hsk e.symm)) (h.ent o o1).c5 (h.ent o o1).tag.fz).mono fin
    | some n =>
      rw [hn] at c5 fin
      obtain ⟨n1, _, n3⟩ := h.next_kn hn
      exact (unlink_ss T (B s) _ (B o) _ (B n) _ w hT c4 c5 hc3 h.tok.c3 hpos (by omega) h.tok.tag.fz E.tag.fz (h.ne o1) (fun e => o3 (h.inj o1 hsk e.symm)) (h.ent o o1).c5 (h.ent o o1).tag.fz (h.ne n1) (fun e => n3 (h.inj hsk n1 e)) (h.ent n n1).c4 (h.ent n n1).tag.fz).mono fin

/-- The queue behind a free. -/
def freed (kn fr : List ByteArray) (s : ByteArray) : List ByteArray := if inB kn s = true ∧ inB fr s = false then fr ++ [s] else fr

theorem freed_add {kn fr : List ByteArray} {s : ByteArray} (h : s ∈ kn) (h' : s ∉ fr) : freed kn fr s = fr ++ [s] := if_pos ⟨inB_yes h, inB_no h'⟩
theorem freed_free {kn fr : List ByteArray} {s : ByteArray} (h : s ∈ fr) : freed kn fr s = fr := if_neg (fun x => by rw [inB_yes h] at x; cases x.2)
theorem freed_new {kn fr : List ByteArray} {s : ByteArray} (h : s ∉ kn) : freed kn fr s = fr := if_neg (fun x => by rw [inB_no h] at x; cases x.1)

theorem Inv.free (h : Inv w base T m kn fr B) {s : ByteArray} (hz : s.size ≤ maxLen) (hle : fr.length ≤ 1048576) :
    Calls Try.prog 33 #[.pointer (some ⟨T, 0, none⟩), .string s] w fun r w' => r = .returned (.tuple #[]) ∧ Inv w' base T m kn (freed kn fr s) B ∧ Keeps base w w' := by
  by_cases hsk : s ∈ kn
  · have hlk := h.map.found true hz hsk
    have E := h.ent s hsk
    have hT := h.ne hsk
    by_cases hs : s ∈ fr
    · have hc3 : w.cell? ⟨B s, 3, none⟩ = some (.bool true) := by rw [E.c3, inB_yes hs]
      refine (free_already T (B s) m s w h.tok.c0 hc3 hlk).mono fun r w' ⟨hr, hw⟩ => ?_
      rw [hw]
      exact ⟨hr, by rw [freed_free hs]; exact h, Keeps.refl _ _⟩
    · have hc3 : w.cell? ⟨B s, 3, none⟩ = some (.bool false) := by rw [E.c3, inB_no hs]
      have hI := h.frd_inv hsk hs
      have c2 := h.tok.c2
      have hK : Keeps base w (frd w T (B s) (fr.getLast?.map B) (fr.length : Int)) := by
        refine frd_keeps h.bT h.tok.tag (h.bB s hsk) E.tag (fun x hx => ?_)
        obtain ⟨u, h1, rfl⟩ := Option.map_eq_some_iff.1 hx
        have := h.sub u (List.mem_of_getLast? h1)
        exact ⟨h.bB u this, (h.ent u this).tag⟩
      have fin : ∀ r w', (r = .returned (.tuple #[]) ∧ w' = (frd w T (B s) (fr.getLast?.map B) (fr.length : Int))) → r = Ending.returned (.tuple #[]) ∧ Inv w' base T m kn (freed kn fr s) B ∧ Keeps base w w' := by
        rintro r w' ⟨hr, rfl⟩
        exact ⟨hr, by rw [freed_add hsk hs]; exact hI, hK⟩
      cases hl : fr.getLast? with
      | none =>
        rw [hl] at c2 fin
        exact (free_n T (B s) m s _ _ _ _ w hT h.tok.c0 hc3 hlk E.c4 E.c5 h.tok.c1 c2 h.tok.c3 (by omega) (by omega) h.tok.tag.fz E.tag.fz).mono fin
      | some n =>
        rw [hl] at c2 fin
        have n0 := List.mem_of_getLast? hl
        have n1 := h.sub n n0
        exact (free_s T (B s) (B n) m s _ _ _ _ w hT (h.ne n1) (fun e => hs (h.inj hsk n1 e ▸ n0)) h.tok.c0 hc3 hlk E.c4 E.c5 (h.ent n n1).c5 c2 h.tok.c3 (by omega) (by omega) h.tok.tag.fz E.tag.fz (h.ent n n1).tag.fz).mono fin
  · refine (free_unknown T m s w h.tok.c0 (h.map.missed true hz hsk)).mono fun r w' ⟨hr, hw⟩ => ?_
    rw [hw]
    exact ⟨hr, by rw [freed_new hsk]; exact h, Keeps.refl _ _⟩

end
end Go.Proofs.Qxb6003641a
