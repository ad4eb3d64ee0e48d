import Derived.Test.Qxb6003641aFree
namespace Go.Proofs.Qxb6003641a
open Go.RowKit
open Go.Maps (Keyed)
open Go.ChangeMaps (setBlock)

theorem law : Keyed Try.prog 9 := Maps.string_keyed Try.underlying9

theorem zero30 (w : World) : (zeroValue 30).run Try.prog w = .ok (.pointer none) w := by kernel_rfl

theorem keyS {s : ByteArray} (h : s.size ≤ maxLen) : keyOf Try.prog 9 (.string s) = some (.string s.data.toList) := WideMaps.keyOf_string_mk Try.underlying9 h

/-- Block b is the map of the entries: resource s, of those in kn, leads to block B s. -/
def MapIs (w : World) (b : Nat) (kn : List ByteArray) (B : ByteArray → Nat) : Prop :=
  ∃ es clock, w.heap[b]? = some (.map es clock) ∧ (∀ x ∈ es.toList, ∃ s, s ∈ kn ∧ s.size ≤ maxLen ∧ x.key = .string s ∧ x.val = ptr (some (B s))) ∧ (∀ s ∈ kn, ∃ x ∈ es.toList, x.key = .string s)

/-- A map, nil or not. -/
def MapO (w : World) (m : Option Nat) (kn : List ByteArray) (B : ByteArray → Nat) : Prop :=
  match m with
  | none => kn = []
  | some b => MapIs w b kn B

theorem MapIs.keys {kn : List ByteArray} {B : ByteArray → Nat} {es : Array MapEntry} (h : ∀ x ∈ es.toList, ∃ s, s ∈ kn ∧ s.size ≤ maxLen ∧ x.key = .string s ∧ x.val = ptr (some (B s))) : ∀ x ∈ es.toList, ∃ l, keyOf Try.prog 9 x.key = some l := by
  intro x hx
  obtain ⟨s, _, h1, h2, _⟩ := h x hx
  exact ⟨_, by rw [h2]; exact keyS h1⟩

theorem MapIs.found {w : World} {b : Nat} {kn : List ByteArray} {B : ByteArray → Nat} (h : MapIs w b kn B) (c : Bool) {s : ByteArray} (hs : s.size ≤ maxLen) (hm : s ∈ kn) :
    (Instr.lookup 29 (.map (some b)) (.string s) c).run Try.prog w = .ok (if c then .tuple #[ptr (some (B s)), .bool true] else ptr (some (B s))) w := by
  obtain ⟨es, clock, hb, h1, h2⟩ := h
  rcases law.find w (keyS hs) es.toList (MapIs.keys h1) with ⟨_, f2⟩ | ⟨j, e0, f1, f2, f3⟩
  · obtain ⟨x, hx, hk⟩ := h2 s hm
    exact absurd hk (f2 x hx)
  · obtain ⟨s', _, _, k2, k3⟩ := h1 e0 (List.mem_of_getElem? f2)
    rw [f3] at k2
    cases k2
    simp [Instr.lookup, run_underlying Try.underlying29, MapKept.run_getObj_map hb, law.check w _ (keyS hs), f1, Result.andThen, k3]

theorem MapO.found {w : World} {m : Option Nat} {kn : List ByteArray} {B : ByteArray → Nat} (h : MapO w m kn B) (c : Bool) {s : ByteArray} (hs : s.size ≤ maxLen) (hm : s ∈ kn) :
    (Instr.lookup 29 (.map m) (.string s) c).run Try.prog w = .ok (if c then .tuple #[ptr (some (B s)), .bool true] else ptr (some (B s))) w := by
  cases m with
  | none => rw [show kn = [] from h] at hm; cases hm
  | some b => exact MapIs.found h c hs hm

theorem MapIs.missed {w : World} {b : Nat} {kn : List ByteArray} {B : ByteArray → Nat} (h : MapIs w b kn B) (c : Bool) {s : ByteArray} (hs : s.size ≤ maxLen) (hm : s ∉ kn) :
    (Instr.lookup 29 (.map (some b)) (.string s) c).run Try.prog w = .ok (if c then .tuple #[.pointer none, .bool false] else .pointer none) w := by
  obtain ⟨es, clock, hb, h1, h2⟩ := h
  rcases law.find w (keyS hs) es.toList (MapIs.keys h1) with ⟨f1, _⟩ | ⟨j, e0, f1, f2, f3⟩
  · simp [Instr.lookup, run_underlying Try.underlying29, MapKept.run_getObj_map hb, law.check w _ (keyS hs), f1, Result.andThen]
  · obtain ⟨s', k1, _, k2, _⟩ := h1 e0 (List.mem_of_getElem? f2)
    rw [f3] at k2
    cases k2
    exact absurd k1 hm

theorem MapO.missed {w : World} {m : Option Nat} {kn : List ByteArray} {B : ByteArray → Nat} (h : MapO w m kn B) (c : Bool) {s : ByteArray} (hs : s.size ≤ maxLen) (hm : s ∉ kn) :
    (Instr.lookup 29 (.map m) (.string s) c).run Try.prog w = .ok (if c then .tuple #[.pointer none, .bool false] else .pointer none) w := by
  cases m with
  | none => exact Maps.look_nil c law Try.underlying29 (zero30 w) (keyS hs)
  | some b => exact MapIs.missed h c hs hm

/-- A new resource goes into the map. -/
theorem MapIs.store {w : World} {b : Nat} {kn : List ByteArray} {B : ByteArray → Nat} (h : MapIs w b kn B) {s : ByteArray} (hs : s.size ≤ maxLen) (hm : s ∉ kn) (e : Nat) :
    ∃ es clock, (Instr.mapUpdate 29 (.map (some b)) (.string s) (ptr (some e))).run Try.prog w = .ok () (setBlock w b (.map es clock)) ∧
      MapIs (setBlock w b (.map es clock)) b (kn ++ [s]) (fun u => if u = s then e else B u) := by
  obtain ⟨es, clock, hb, h1, h2⟩ := h
  rcases law.find w (keyS hs) es.toList (MapIs.keys h1) with ⟨f1, _⟩ | ⟨j, e0, f1, f2, f3⟩
  · refine ⟨es.push ⟨.string s, ptr (some e), clock⟩, clock + 1, ?_, es.push ⟨.string s, ptr (some e), clock⟩, clock + 1, Go.ChangeMaps.heap_setBlock_same hb _, ?_, ?_⟩
    · simp [Instr.mapUpdate, run_underlying Try.underlying29, MapKept.run_getObj_map hb, law.check w false (keyS hs), f1, MapKept.run_setObj_map _ hb, Result.andThen, setBlock]
    · intro x hx
      simp only [Array.toList_push, List.mem_append, List.mem_singleton] at hx
      rcases hx with hx | rfl
      · obtain ⟨s', k0, k1, k2, k3⟩ := h1 x hx
        refine ⟨s', by simp [k0], k1, k2, ?_⟩
        show x.val = ptr (some (if s' = s then e else B s'))
        rw [if_neg (fun h : s' = s => hm (h ▸ k0))]
        exact k3
      · exact ⟨s, by simp, hs, rfl, by show ptr (some e) = ptr (some (if s = s then e else B s)); rw [if_pos rfl]⟩
    · intro u hu
      rcases List.mem_append.1 hu with hu | hu
      · obtain ⟨x, hx, hk⟩ := h2 u hu
        exact ⟨x, by simp [hx], hk⟩
      · rw [List.mem_singleton] at hu
        subst hu
        exact ⟨⟨.string u, ptr (some e), clock⟩, by simp, rfl⟩
  · obtain ⟨s', k1, _, k2, _⟩ := h1 e0 (List.mem_of_getElem? f2)
    rw [f3] at k2
    cases k2
    exact absurd k1 hm

theorem MapIs.lt {w : World} {b : Nat} {kn : List ByteArray} {B : ByteArray → Nat} (h : MapIs w b kn B) : b < w.heap.size := by
  obtain ⟨es, clock, hb, _⟩ := h
  exact (Array.getElem?_eq_some_iff.1 hb).1

/-- The map stays what it is while its block does. -/
theorem MapIs.kept {w w' : World} {b : Nat} {kn : List ByteArray} {B : ByteArray → Nat} (h : MapIs w b kn B) (hb : w'.heap[b]? = w.heap[b]?) : MapIs w' b kn B := by
  obtain ⟨es, clock, h0, h1, h2⟩ := h
  exact ⟨es, clock, hb.trans h0, h1, h2⟩

theorem MapIs.ne_tag {w : World} {b b' t : Nat} {kn : List ByteArray} {B : ByteArray → Nat} (h : MapIs w b kn B) (h' : Tag w b' t) : b ≠ b' := by
  rintro rfl
  obtain ⟨es, clock, h0, _⟩ := h
  obtain ⟨cs, h1⟩ := h'
  rw [h0] at h1
  cases h1

end Go.Proofs.Qxb6003641a
