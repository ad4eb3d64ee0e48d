import Derived.Test.Qxb6003641aLaw3
namespace Go.Proofs.Qxb6003641a
open Go.RowKit

/-- How things stand in a law behind its run: the Tokens, the known resources' slice, the script's. -/
structure Sit (w0 w : World) (base T : Nat) (m : Option Nat) (kn fr : List ByteArray) (B : ByteArray → Nat) (kv : Value) (ra : Option Addr) (rn : Nat) (rs : List ByteArray) : Prop where
  inv : Inv w base T m kn fr B
  kno : OwS w base kv kn
  row : RowLow w base ra rn rs
  low : Below w0.heap.size w0 w
  top : base ≤ w.heap.size
  old : w0.heap.size ≤ base

/-- Every row of strings stays. -/
def Rows9 (w w' : World) : Prop := ∀ b v l, OwS w b v l → OwS w' b v l

section
variable {w0 w : World} {base T : Nat} {m : Option Nat} {kn fr : List ByteArray} {B : ByteArray → Nat} {kv : Value} {ra : Option Addr} {rn : Nat} {rs : List ByteArray} {x : ByteArray}

theorem Sit.keeps (h : Sit w0 w base T m kn fr B kv ra rn rs) {w' : World} {m' : Option Nat} {fr' : List ByteArray} {B' : ByteArray → Nat} (hI : Inv w' base T m' kn fr' B') (hK : Keeps base w w') : Sit w0 w' base T m' kn fr' B' kv ra rn rs :=
  ⟨hI, h.kno.keeps hK, h.row.below hK.below, h.low.trans (hK.below.mono h.old), Nat.le_trans h.top hK.below.size, h.old⟩

theorem Sit.below (h : Sit w0 w base T m kn fr B kv ra rn rs) {w' : World} (hb : Below w.heap.size w w') : Sit w0 w' base T m kn fr B kv ra rn rs :=
  ⟨h.inv.below hb, h.kno.below hb, h.row.below (hb.mono h.top), h.low.trans (hb.mono (Nat.le_trans h.old h.top)), Nat.le_trans h.top hb.size, h.old⟩

theorem Sit.app (h : Sit w0 w base T m kn fr B kv ra rn rs) {w' : World} {v : Value} {b : Nat} {l : List ByteArray} (hv : OwS w b v l) (hb : base ≤ b) (hs : Sep v kv) (hg : w.grownBy w' v.ownBlock) : Sit w0 w' base T m kn fr B kv ra rn rs := by
  have hB := below_app (Below.refl _ _) h.top (hv.mono hb) hg
  exact ⟨h.inv.grown hg (fun g e => (hv.tag e).2), h.kno.grown hg hs, h.row.below hB, h.low.trans (hB.mono h.old), Nat.le_trans h.top hB.size, h.old⟩

theorem Sit.state (h : Sit w0 w base T m kn fr B kv ra rn rs) {fv : Value} {b : Nat} (hf : OwS w b fv fr) (hkl : kn.length ≤ 1000000) (hfl : fr.length ≤ 1000000) (hrz : ∀ s ∈ rs, s.size ≤ maxLen) (hrn : rn ≤ 4096) (hz : x.size ≤ maxLen) (rc : Nat) :
    Calls Try.prog 12 #[.pointer (some ⟨T, 0, none⟩), .slice ra rn rc, .string x, kv, fv] w fun e w' => e = .returned (.bool true) ∧ Hid (Sit w0 w' base T m kn fr B kv ra rn rs) ∧ Hid (Rows9 w w') ∧ Hid (w.heap.size = w'.heap.size) := by
  refine (h.inv.stateO h.kno hf hkl hfl h.row.1 hrz (by omega) hz rc).mono fun e w' ⟨he, q, hw⟩ => ?_
  subst hw
  have hb : Below w.heap.size w (w.drewN q) := below_drewN (Below.refl _ _) q
  exact ⟨he, h.below hb, fun b v l hv => hv.below hb, rfl⟩

theorem Sit.look (h : Sit w0 w base T m kn fr B kv ra rn rs) (hx : x ∈ kn) :
    Calls Try.prog 15 #[.pointer (some ⟨T, 0, none⟩), .string x] w fun e w' => ∃ b, e = .returned (.pointer (some ⟨b, 0, none⟩)) ∧ Hid (b = B x) ∧ w' = w :=
  (look_c T m x _ w h.inv.tok.c0 (h.inv.map.found false (h.inv.siz x hx) hx)).mono fun _ _ ⟨he, hw⟩ => ⟨B x, he, rfl, hw⟩

theorem Sit.zfree (h : Sit w0 w base T m kn fr B kv ra rn rs) (hx : x ∈ kn) (hf : x ∉ fr) (hfl : fr.length ≤ 1000000) :
    Calls Try.prog 16 #[.pointer (some ⟨T, 0, none⟩), .string x] w fun e w' => e = .returned (.tuple #[]) ∧ Hid (Sit w0 w' base T m kn (fr ++ [x]) B kv ra rn rs) ∧ Hid (Rows9 w w') := by
  have hfe : freed kn fr x = fr ++ [x] := freed_add hx hf
  refine zzfree_c T x w (fun w' => Hid (Sit w0 w' base T m kn (fr ++ [x]) B kv ra rn rs) ∧ Hid (Rows9 w w')) ?_
  refine Lib.hid ((h.inv.free (h.inv.siz x hx) (by omega)).mono fun r w' ⟨h1, h2, h3⟩ => ⟨h1, ?_, fun b v l hv => hv.keeps h3⟩)
  rw [hfe] at h2
  exact h.keeps h2 h3

theorem Sit.zunlink (h : Sit w0 w base T m kn fr B kv ra rn rs) {b : Nat} (hb : b = B x) (hf : x ∈ fr) (hfl : fr.length ≤ 1000000) :
    Calls Try.prog 23 #[.pointer (some ⟨T, 0, none⟩), .pointer (some ⟨b, 0, none⟩)] w fun e w' => e = .returned (.tuple #[]) ∧ Hid (Sit w0 w' base T m kn (del fr x) B kv ra rn rs) ∧ Hid (Rows9 w w') := by
  subst hb
  refine zzunlink_c T (B x) w (fun w' => Hid (Sit w0 w' base T m kn (del fr x) B kv ra rn rs) ∧ Hid (Rows9 w w')) ?_
  exact Lib.hid ((h.inv.unlink hf (by omega)).mono fun r w' ⟨h1, h2, h3⟩ => ⟨h1, h.keeps h2 h3, fun b v l hv => hv.keeps h3⟩)

theorem Sit.zhold (h : Sit w0 w base T m kn fr B kv ra rn rs) (hx : x ∈ kn) (hfl : fr.length ≤ 1000000) {b : Nat} (hb : b = B x) :
    Calls Try.prog 18 #[.pointer (some ⟨T, 0, none⟩), .string x] w fun e w' => e = .returned (.pointer (some ⟨b, 0, none⟩)) ∧ Hid (∃ m' B', Sit w0 w' base T m' kn (del fr x) B' kv ra rn rs) ∧ Hid (Rows9 w w') := by
  have hh : held kn x = kn := held_in hx
  refine (zzhold_c T x w (fun b' w' => b' = b ∧ (∃ m' B', Sit w0 w' base T m' kn (del fr x) B' kv ra rn rs) ∧ Rows9 w w') (Lib.hid ((h.inv.hold (h.inv.siz x hx) (by omega) h.top).mono fun r w' ⟨m', B', h1, h2, h3, h4⟩ => ⟨B' x, h1, by rw [h4 hx, hb], ⟨m', B', ?_⟩, fun b v l hv => hv.keeps h3⟩))).mono fun e w' ⟨b', he, h1, h2, h3⟩ => ?_
  · rw [hh] at h2
    exact h.keeps h2 h3
  · subst h1
    exact ⟨he, h2, h3⟩

theorem Sit.copy (h : Sit w0 w base T m kn fr B kv ra rn rs) {fv : Value} {b : Nat} {l : List ByteArray} (hf : OwS w b fv l) (hl : l.length ≤ 1000000) :
    Calls Try.prog 17 #[fv, .int .i64 (-1)] w fun e w' => ∃ v', e = .returned v' ∧ Hid (Sit w0 w' base T m kn fr B kv ra rn rs) ∧ Hid (OwS w' base v' l) ∧ Hid (∀ b u l', OwS w b u l' → Sep v' u) ∧ Hid (Rows9 w w') := by
  refine (copy_any hf hl).mono fun e w' ⟨v', he, h1, h2⟩ => ⟨v', he, h.below h2.out, h1.out.mono h.top, fun b u l' hu g hg hg2 => ?_, fun b v l hv => hv.below h2.out⟩
  have e1 := (h1.out.tag hg).1
  have e2 := (hu.tag hg2).2.lt
  omega

theorem Sit.remove (h : Sit w0 w base T m kn fr B kv ra rn rs) {fv : Value} {b k : Nat} {l : List ByteArray} (hf : OwS w b fv l) (hl : l.length ≤ 1000000) (hn : l.Nodup) (hk : k < l.length) (hx : strAt l k = x) :
    Calls Try.prog 17 #[fv, .int .i64 (k : Int)] w fun e w' => ∃ v', e = .returned v' ∧ Hid (Sit w0 w' base T m kn fr B kv ra rn rs) ∧ Hid (OwS w' base v' (del l x)) ∧ Hid (Rows9 w w') := by
  obtain ⟨a, c, hv, hr⟩ := hf.row
  rw [hv]
  refine (removeAt_any a l.length c l k w hr (by omega)).mono fun e w' ⟨v', l', h1, h2, h3, h4⟩ => ?_
  refine ⟨v', h2, h.below h4, ?_, fun b v l hv => hv.below h4⟩
  rw [← remTo_del hn hk hx, ← h1.out]
  exact h3.mono h.top

theorem Good.sit {N : Nat} {kv fv : Value} (h : Good w base T N kv fv) (hr : RowLow w base ra rn rs) (hlow : Below w0.heap.size w0 w) (htop : base ≤ w.heap.size) (hold : w0.heap.size ≤ base) :
    ∃ m kn fr B, Hid (Sit w0 w base T m kn fr B kv ra rn rs) ∧ Hid (OwS w base fv fr) ∧ Hid (Sep kv fv) ∧ Hid (kn.length ≤ N) ∧ Hid (fr.length ≤ N) := by
  obtain ⟨m, kn, fr, B, hI, hk, hf, hs, h1, h2⟩ := h
  exact ⟨m, kn, fr, B, ⟨hI, hk, hr, hlow, htop, hold⟩, hf, hs, h1, h2⟩

theorem Sit.hstep (h : Sit w0 w base T m kn fr B kv ra rn rs) {fv : Value} (hf : OwS w base fv fr) (hs : Sep kv fv) (hz : x.size ≤ maxLen) (hkl : kn.length ≤ 4096) (hfl : fr.length ≤ 4096) :
    Calls Try.prog 14 #[.pointer (some ⟨T, 0, none⟩), kv, fv, .string x] w fun e w' => ∃ kv' fv', e = .returned (.tuple #[kv', fv', .bool true]) ∧ ∃ m' kn' fr' B', Hid (Sit w0 w' base T m' kn' fr' B' kv' ra rn rs) ∧ Hid (OwS w' base fv' fr') ∧ Hid (x ∈ kn') ∧ Hid (x ∉ fr') ∧ Hid (kn'.length ≤ 5000) ∧ Hid (fr'.length ≤ 5000) := by
  refine (h.inv.holdStep hz h.top h.kno hf hs (by omega) (by omega)).mono fun e w' ⟨kv', fv', he, hp⟩ => ?_
  obtain ⟨m', B', g1, g2, g3, g4, g5, _⟩ := hp.out
  refine ⟨kv', fv', he, m', _, _, B', ⟨g1, g2, h.row.below g5, h.low.trans (g5.mono h.old), Nat.le_trans h.top g5.size, h.old⟩, g3, ?_, ?_, ?_, ?_⟩
  · exact mem_held kn x
  · exact fun e => (mem_del.1 e).2 rfl
  · have := held_len kn x
    show _ ≤ _
    omega
  · have := del_len fr x
    show _ ≤ _
    omega

theorem del_snoc {l : List ByteArray} (h : x ∉ l) : del (l ++ [x]) x = l := by
  have h2 := del_not h
  unfold del at h2 ⊢
  rw [List.filter_append, h2]
  simp

end
end Go.Proofs.Qxb6003641a
