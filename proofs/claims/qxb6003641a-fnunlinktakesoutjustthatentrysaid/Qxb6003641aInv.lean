import Derived.Test.Qxb6003641aMap
namespace Go.Proofs.Qxb6003641a
open Go.RowKit

theorem setS {w : World} {b' i' : Nat} {x : Value} (h : w.cell? ⟨b', i', none⟩ = some x) {b i : Nat} {v : Value} : (w.setCell ⟨b, i, none⟩ v).cell? ⟨b', i', none⟩ = some (if b = b' ∧ i = i' then v else x) := by
  rw [cell_set, h]
  split <;> rfl

section
variable {w : World} {T e b : Nat} {o n : Option Nat} {k : Int} {v : Value}

theorem unl5 (hT : T ≠ b) (h : w.cell? ⟨b, 5, none⟩ = some v) : (unl w T e o n k).cell? ⟨b, 5, none⟩ = some (if e = b then .pointer none else if o = some b then ptr n else v) := by
  unfold unl
  cases o <;> cases n <;> rw [setS (setS (setS (setS (setS (setS h)))))] <;> simp [hT]
theorem unl4 (hT : T ≠ b) (h : w.cell? ⟨b, 4, none⟩ = some v) : (unl w T e o n k).cell? ⟨b, 4, none⟩ = some (if e = b then .pointer none else if n = some b then ptr o else v) := by
  unfold unl
  cases o <;> cases n <;> rw [setS (setS (setS (setS (setS (setS h)))))] <;> simp [hT]
theorem unl3 (hT : T ≠ b) (h : w.cell? ⟨b, 3, none⟩ = some v) : (unl w T e o n k).cell? ⟨b, 3, none⟩ = some (if e = b then .bool false else v) := by
  unfold unl
  cases o <;> cases n <;> rw [setS (setS (setS (setS (setS (setS h)))))] <;> simp [hT]
theorem unl1 (hT : T ≠ b) (h : w.cell? ⟨b, 1, none⟩ = some v) : (unl w T e o n k).cell? ⟨b, 1, none⟩ = some v := by
  unfold unl
  cases o <;> cases n <;> rw [setS (setS (setS (setS (setS (setS h)))))] <;> simp [hT]
theorem unl0 (h : w.cell? ⟨b, 0, none⟩ = some v) : (unl w T e o n k).cell? ⟨b, 0, none⟩ = some v := by
  unfold unl
  cases o <;> cases n <;> rw [setS (setS (setS (setS (setS (setS h)))))] <;> simp
theorem unlT1 (he : e ≠ T) (h : w.cell? ⟨T, 1, none⟩ = some v) : (unl w T e o n k).cell? ⟨T, 1, none⟩ = some (if o = none then ptr n else v) := by
  unfold unl
  cases o <;> cases n <;> rw [setS (setS (setS (setS (setS (setS h)))))] <;> simp [he]
theorem unlT2 (he : e ≠ T) (h : w.cell? ⟨T, 2, none⟩ = some v) : (unl w T e o n k).cell? ⟨T, 2, none⟩ = some (if n = none then ptr o else v) := by
  unfold unl
  cases o <;> cases n <;> rw [setS (setS (setS (setS (setS (setS h)))))] <;> simp [he]
theorem unlT3 (h : w.cell? ⟨T, 3, none⟩ = some v) : (unl w T e o n k).cell? ⟨T, 3, none⟩ = some (.int .i64 (k - 1)) := by
  unfold unl
  cases o <;> cases n <;> rw [setS (setS (setS (setS (setS (setS h)))))] <;> simp
theorem unlT4 (he : e ≠ T) (hn : n ≠ some T) (h : w.cell? ⟨T, 4, none⟩ = some v) : (unl w T e o n k).cell? ⟨T, 4, none⟩ = some v := by
  unfold unl
  cases o <;> cases n <;> rw [setS (setS (setS (setS (setS (setS h)))))] <;> simp at hn <;> simp [he, hn]

theorem unl_tag {t : Nat} (h : Tag w b t) : Tag (unl w T e o n k) b t := by
  unfold unl
  cases o <;> cases n <;> exact (((((h.set _ _ _).set _ _ _).set _ _ _).set _ _ _).set _ _ _).set _ _ _

theorem frd5 (hT : T ≠ b) (h : w.cell? ⟨b, 5, none⟩ = some v) : (frd w T e n k).cell? ⟨b, 5, none⟩ = some (if n = some b then ptr (some e) else if e = b then .pointer none else v) := by
  unfold frd
  cases n <;> rw [setS (setS (setS (setS (setS (setS h)))))] <;> simp [hT, ptr]
theorem frd4 (hT : T ≠ b) (h : w.cell? ⟨b, 4, none⟩ = some v) : (frd w T e n k).cell? ⟨b, 4, none⟩ = some (if e = b then ptr n else v) := by
  unfold frd
  cases n <;> rw [setS (setS (setS (setS (setS (setS h)))))] <;> simp [hT]
theorem frd3 (hT : T ≠ b) (h : w.cell? ⟨b, 3, none⟩ = some v) : (frd w T e n k).cell? ⟨b, 3, none⟩ = some (if e = b then .bool true else v) := by
  unfold frd
  cases n <;> rw [setS (setS (setS (setS (setS (setS h)))))] <;> simp [hT]
theorem frd1 (hT : T ≠ b) (h : w.cell? ⟨b, 1, none⟩ = some v) : (frd w T e n k).cell? ⟨b, 1, none⟩ = some v := by
  unfold frd
  cases n <;> rw [setS (setS (setS (setS (setS (setS h)))))] <;> simp [hT]
theorem frd0 (h : w.cell? ⟨b, 0, none⟩ = some v) : (frd w T e n k).cell? ⟨b, 0, none⟩ = some v := by
  unfold frd
  cases n <;> rw [setS (setS (setS (setS (setS (setS h)))))] <;> simp
theorem frdT1 (h : w.cell? ⟨T, 1, none⟩ = some v) : (frd w T e n k).cell? ⟨T, 1, none⟩ = some (if n = none then ptr (some e) else v) := by
  unfold frd
  cases n <;> rw [setS (setS (setS (setS (setS (setS h)))))] <;> simp [ptr]
theorem frdT2 (h : w.cell? ⟨T, 2, none⟩ = some v) : (frd w T e n k).cell? ⟨T, 2, none⟩ = some (ptr (some e)) := by
  unfold frd
  cases n <;> rw [setS (setS (setS (setS (setS (setS h)))))] <;> simp [ptr]
theorem frdT3 (h : w.cell? ⟨T, 3, none⟩ = some v) : (frd w T e n k).cell? ⟨T, 3, none⟩ = some (.int .i64 (k + 1)) := by
  unfold frd
  cases n <;> rw [setS (setS (setS (setS (setS (setS h)))))] <;> simp
theorem frdT4 (he : e ≠ T) (h : w.cell? ⟨T, 4, none⟩ = some v) : (frd w T e n k).cell? ⟨T, 4, none⟩ = some v := by
  unfold frd
  cases n <;> rw [setS (setS (setS (setS (setS (setS h)))))] <;> simp [he]
theorem frd_tag {t : Nat} (h : Tag w b t) : Tag (frd w T e n k) b t := by
  unfold frd
  cases n <;> exact (((((h.set _ _ _).set _ _ _).set _ _ _).set _ _ _).set _ _ _).set _ _ _
end

/-- What a turn on the Tokens leaves alone: all below base, and every row of strings. -/
structure Keeps (base : Nat) (w w' : World) : Prop where
  below : Below base w w'
  strs : ∀ (k : Nat) (cs : Array Value) (i : Nat × Nat), w.heap[k]? = some (.cells cs 9 i) → w'.heap[k]? = some (.cells cs 9 i)

theorem Keeps.refl (base : Nat) (w : World) : Keeps base w w := ⟨Below.refl _ _, fun _ _ _ h => h⟩
theorem Keeps.trans {base : Nat} {a b c : World} (h : Keeps base a b) (h' : Keeps base b c) : Keeps base a c := ⟨h.below.trans h'.below, fun k cs i hk => h'.strs k cs i (h.strs k cs i hk)⟩
theorem Keeps.drewN {base : Nat} {a b : World} (h : Keeps base a b) (q : Nat) : Keeps base a (b.drewN q) := ⟨h.below.trans ⟨rfl, rfl, rfl, Nat.le_refl _, fun _ _ => rfl⟩, h.strs⟩
theorem Keeps.set {base : Nat} {a b : World} (h : Keeps base a b) {x t : Nat} (hx : base ≤ x) (ht : Tag b x t) (h9 : t ≠ 9) (i : Nat) (v : Value) : Keeps base a (b.setCell ⟨x, i, none⟩ v) := by
  refine h.trans ⟨⟨rfl, rfl, rfl, by simp [World.setCell], fun k hk => Below.heap_setCell _ _ _ _ (fun e => by have e' : x = k := (by first | exact e | exact e.symm); omega)⟩, fun k cs j hk => ?_⟩
  rw [Below.heap_setCell _ _ _ _ (fun e => ?_)]
  · exact hk
  · subst e
    obtain ⟨cs', ht⟩ := ht
    rw [hk] at ht
    cases ht
    exact h9 rfl

/-- Is s in l? -/
def inB (l : List ByteArray) (s : ByteArray) : Bool := l.any fun u => decide (u = s)

theorem inB_iff {l : List ByteArray} {s : ByteArray} : inB l s = true ↔ s ∈ l := by
  unfold inB
  simp
theorem inB_yes {l : List ByteArray} {s : ByteArray} (h : s ∈ l) : inB l s = true := inB_iff.2 h
theorem inB_no {l : List ByteArray} {s : ByteArray} (h : s ∉ l) : inB l s = false := by
  cases e : inB l s with
  | false => rfl
  | true => exact absurd (inB_iff.1 e) h
theorem inB_same {l l' : List ByteArray} {s : ByteArray} (h : s ∈ l ↔ s ∈ l') : inB l s = inB l' s := by
  by_cases e : s ∈ l
  · rw [inB_yes e, inB_yes (h.1 e)]
  · rw [inB_no e, inB_no (fun x => e (h.2 x))]

/-- The Tokens at T: the resources known, those free in their order, and where each entry lies. -/
structure Inv (w : World) (base T : Nat) (m : Option Nat) (kn fr : List ByteArray) (B : ByteArray → Nat) : Prop where
  tok : TokC w T m (fr.head?.map B) (fr.getLast?.map B) fr.length
  map : MapO w m kn B
  ent : ∀ s ∈ kn, EntC w (B s) s (inB fr s) ((prevOf fr s).map B) ((nextOf fr s).map B)
  sub : ∀ s ∈ fr, s ∈ kn
  nod : fr.Nodup
  siz : ∀ s ∈ kn, s.size ≤ maxLen
  bT : base ≤ T
  bm : ∀ b, m = some b → base ≤ b
  bB : ∀ s ∈ kn, base ≤ B s

section
variable {w : World} {base T : Nat} {m : Option Nat} {kn fr : List ByteArray} {B : ByteArray → Nat}

theorem Inv.inj (h : Inv w base T m kn fr B) {s u : ByteArray} (hs : s ∈ kn) (hu : u ∈ kn) (e : B s = B u) : s = u := by
  have h1 := (h.ent s hs).c0
  have h2 := (h.ent u hu).c0
  rw [e, h2] at h1
  cases h1
  rfl
theorem Inv.ne (h : Inv w base T m kn fr B) {s : ByteArray} (hs : s ∈ kn) : T ≠ B s := h.tok.tag.ne (h.ent s hs).tag (by decide)
theorem Inv.mne (h : Inv w base T m kn fr B) {b t x : Nat} (hm : m = some b) (ht : Tag w x t) : b ≠ x := by
  have := h.map
  rw [hm] at this
  exact MapIs.ne_tag this ht

theorem unl_keeps {e : Nat} {o n : Option Nat} {k : Int} (hT : base ≤ T) (tT : Tag w T 33) (he : base ≤ e) (te : Tag w e 55) (ho : ∀ b, o = some b → base ≤ b ∧ Tag w b 55) (hn : ∀ b, n = some b → base ≤ b ∧ Tag w b 55) : Keeps base w (unl w T e o n k) := by
  unfold unl
  have d33 : (33 : Nat) ≠ 9 := by decide
  have d55 : (55 : Nat) ≠ 9 := by decide
  cases o with
  | none =>
    cases n with
    | none => exact (((((((Keeps.refl base w).set hT tT d33 _ _).set hT (tT.set _ _ _) d33 _ _).set he ((te.set _ _ _).set _ _ _) d55 _ _).set he (((te.set _ _ _).set _ _ _).set _ _ _) d55 _ _).set he ((((te.set _ _ _).set _ _ _).set _ _ _).set _ _ _) d55 _ _)).set hT (((((tT.set _ _ _).set _ _ _).set _ _ _).set _ _ _).set _ _ _) d33 _ _
    | some nb =>
      obtain ⟨hnb, tn⟩ := hn nb rfl
      exact (((((((Keeps.refl base w).set hT tT d33 _ _).set hnb (tn.set _ _ _) d55 _ _).set he ((te.set _ _ _).set _ _ _) d55 _ _).set he (((te.set _ _ _).set _ _ _).set _ _ _) d55 _ _).set he ((((te.set _ _ _).set _ _ _).set _ _ _).set _ _ _) d55 _ _)).set hT (((((tT.set _ _ _).set _ _ _).set _ _ _).set _ _ _).set _ _ _) d33 _ _
  | some ob =>
    obtain ⟨hob, to⟩ := ho ob rfl
    cases n with
    | none => exact (((((((Keeps.refl base w).set hob to d55 _ _).set hT (tT.set _ _ _) d33 _ _).set he ((te.set _ _ _).set _ _ _) d55 _ _).set he (((te.set _ _ _).set _ _ _).set _ _ _) d55 _ _).set he ((((te.set _ _ _).set _ _ _).set _ _ _).set _ _ _) d55 _ _)).set hT (((((tT.set _ _ _).set _ _ _).set _ _ _).set _ _ _).set _ _ _) d33 _ _
    | some nb =>
      obtain ⟨hnb, tn⟩ := hn nb rfl
      exact (((((((Keeps.refl base w).set hob to d55 _ _).set hnb (tn.set _ _ _) d55 _ _).set he ((te.set _ _ _).set _ _ _) d55 _ _).set he (((te.set _ _ _).set _ _ _).set _ _ _) d55 _ _).set he ((((te.set _ _ _).set _ _ _).set _ _ _).set _ _ _) d55 _ _)).set hT (((((tT.set _ _ _).set _ _ _).set _ _ _).set _ _ _).set _ _ _) d33 _ _

theorem frd_keeps {e : Nat} {n : Option Nat} {k : Int} (hT : base ≤ T) (tT : Tag w T 33) (he : base ≤ e) (te : Tag w e 55) (hn : ∀ b, n = some b → base ≤ b ∧ Tag w b 55) : Keeps base w (frd w T e n k) := by
  unfold frd
  have d33 : (33 : Nat) ≠ 9 := by decide
  have d55 : (55 : Nat) ≠ 9 := by decide
  have h3 := (((Keeps.refl base w).set he te d55 3 (.bool true)).set he (te.set _ _ _) d55 4 (ptr n)).set he ((te.set _ _ _).set _ _ _) d55 5 (.pointer none)
  cases n with
  | none => exact ((h3.set hT (((tT.set _ _ _).set _ _ _).set _ _ _) d33 _ _).set hT ((((tT.set _ _ _).set _ _ _).set _ _ _).set _ _ _) d33 _ _).set hT (((((tT.set _ _ _).set _ _ _).set _ _ _).set _ _ _).set _ _ _) d33 _ _
  | some nb =>
    obtain ⟨hnb, tn⟩ := hn nb rfl
    exact ((h3.set hnb (((tn.set _ _ _).set _ _ _).set _ _ _) d55 _ _).set hT ((((tT.set _ _ _).set _ _ _).set _ _ _).set _ _ _) d33 _ _).set hT (((((tT.set _ _ _).set _ _ _).set _ _ _).set _ _ _).set _ _ _) d33 _ _

end
end Go.Proofs.Qxb6003641a
