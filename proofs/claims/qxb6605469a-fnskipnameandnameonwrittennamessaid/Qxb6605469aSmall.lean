import Derived.Test.Qxb6605469aRows
import Derived.Test.Qxb6605469aPlain
import Derived.WalkKit
import Derived.WalkSpells
import Derived.WalkLawsBesides
import Derived.Deep.QuietTactic
import Derived.BigQuiet
import Derived.OwnWalk
import Derived.Lib.Hide
import Derived.Laws.CopyOwn
import Derived.Lib.SliceRun
import Derived.Lib.BufferWrite
import Derived.Outline
namespace Go.Proofs.Qxb6605469a
open Go.RowKit

theorem ret_int {k : IntKind} {a b : Int} (h : a = b) : Ending.returned (.int k a) = .returned (.int k b) := by rw [h]

theorem infoByte : (Try.prog.info? 5).map (fun i => (i.zero, i.size, i.bytes)) = some (some (.int .u8 0), 1, 1) := by kernel_rfl

/-- A run of bytes that a slice value at 'ao' leads to. -/
def Row8 (w : World) (ao : Option Addr) (l : List UInt8) : Prop :=
  l = [] ∨ ∃ b off, ao = some ⟨b, off, none⟩ ∧ ∀ j, j < l.length → w.cell? ⟨b, off + j, none⟩ = some (.int .u8 (byteAt l j))

theorem byteCells_at {l : List UInt8} {j : Nat} {u : Value} (h : (Lib.byteCells l)[j]? = some u) : j < l.length ∧ u = .int .u8 (byteAt l j) := by
  simp only [Lib.byteCells, List.getElem?_map, Option.map_eq_some_iff] at h
  obtain ⟨b, hb, rfl⟩ := h
  refine ⟨(List.getElem?_eq_some_iff.1 hb).1, ?_⟩
  simp [byteAt, List.getD, hb]

theorem byteCells_get (l : List UInt8) (j : Nat) (h : j < l.length) : (Lib.byteCells l)[j]? = some (.int .u8 (byteAt l j)) := by
  simp [Lib.byteCells, byteAt, List.getD, h]

set_option maxHeartbeats 400000 in
theorem clone_nil (n c : Nat) (w : World) : Calls Try.prog 9 #[.slice none n c] w fun e w' => e = .returned (.slice none 0 0) ∧ w' = w := by
  have hnil := fun wx => Lib.run_eql_slice_nil (P := Try.prog) wx 23 5 none n c 0 0 Try.underlying23
  go_enter Try.func9, Try.ntmps9
  go_wp2
  go_ret
  exact ⟨rfl, rfl⟩

set_option maxHeartbeats 400000 in
theorem clone_some (ad : Addr) (n c : Nat) (l : List UInt8) (w : World) (hl : l.length = n) (hcell : ∀ j, j < n → w.cell? (ad.add j) = some (.int .u8 (byteAt l j))) (hn : n ≤ 1048576) :
    Calls Try.prog 9 #[.slice (some ad) n c] w fun e w' => e = .returned (.slice (some ⟨w.heap.size, 0, none⟩) n n) ∧ w'.heap[w.heap.size]? = some (.cells (Lib.byteCells l).toArray 5 (0, 0)) ∧ Below w.heap.size w w' := by
  obtain ⟨i0, hi, hz0, hz1, hz2⟩ := info_parts infoByte
  have hnil := fun wx => Lib.run_eql_slice_nil (P := Try.prog) wx 23 5 (some ad) n c 0 0 Try.underlying23
  have HL := Lib.hid hl
  have HCl := Lib.hid hcell
  clear hl hcell
  go_enter Try.func9, Try.ntmps9
  go_wp2_with (at_make; refine wpList_make_full _ rfl _ _ 23 rfl w.heap.size 5 i0 (.int .u8 0) 1 Try.underlying23 hi hz0 hz1 .i64 .i64 _ _ n rfl rfl rfl rfl (by rw [hz2]; omega) (by unfold maxLen; omega) (Nat.le_refl _) ?_)
  intro w1 hown hgr
  obtain ⟨curL, hcl, hblk⟩ : ∃ curL : List Value, curL.length = n ∧ w1.heap[w.heap.size]? = some (.cells curL.toArray 5 (0, 0)) := by
    rcases hown.2 with ⟨h, _⟩ | ⟨g, cap, cur, hv, _, hg, _, _, hs, _⟩
    · simp at h
    · simp only [Value.slice.injEq, Option.some.injEq, Addr.mk.injEq, true_and, and_true] at hv
      obtain ⟨rfl, rfl⟩ := hv
      exact ⟨cur.toList, by simpa using hs, by simpa using hg⟩
  have hb1 : Below w.heap.size w w1 := (Below.refl _ _).grown hgr (Nat.le_refl _) (fun k hk => by cases hk)
  obtain ⟨cs, hcs⟩ : ∃ cs, cs = Lib.byteCells l := ⟨_, rfl⟩
  have hlen : cs.length = n := by rw [hcs, Lib.byteCells_length]; exact HL.out
  have h1c : ∀ v ∈ cs, v.oneCell' = true := by rw [hcs]; exact Lib.byteCells_one l
  have hpos : ∀ j v, cs[j]? = some v → w1.cell? (ad.add j) = some v := by
    intro j v hj
    rw [hcs] at hj
    obtain ⟨h1, h2⟩ := byteCells_at hj
    have h3 := HCl.out j (by have := HL.out; omega)
    rw [h2, ← h3]
    have hlt := World.block_lt_of_cell? w (ad.add j) h3
    exact hb1.cell hlt
  have HC := Lib.hid hcs
  have HN := Lib.hid hlen
  have HP := Lib.hid hpos
  have HB := Lib.hid hblk
  have H1 := Lib.hid h1c
  have HK := Lib.hid hcl
  clear hcs hlen hpos hblk h1c hcl hown hgr
  go_wp2_with (refine wpList_copy_splice rfl _ _ 23 23 rfl 5 Try.underlying23 (by rw [hi]; simp [hz1]) _ _ n n n c rfl rfl w.heap.size 0 curL 5 HB.out cs (by rw [HN.out]; simp) (fun _ => ⟨rfl, ad, rfl, HP.out⟩) (by rw [HN.out, HK.out]; omega) H1.out w.heap.size w hb1 (Nat.le_refl _) ?_)
  intro w2 hg2 hb2
  go_wp2
  go_ret
  refine ⟨rfl, ?_, hb2⟩
  rw [hg2.out, ← HC.out]
  have e : splice curL 0 cs = cs := by
    have := HN.out
    have := HK.out
    simp [splice]
    omega
  rw [e]
/-- What is known of a byte slice that came in. -/
def ArgRow (w : World) (ao : Option Addr) (n : Nat) (l : List UInt8) : Prop :=
  l.length = n ∧ (ao = none → n = 0) ∧ ∀ ad, ao = some ad → ∀ j, j < n → w.cell? (ad.add j) = some (.int .u8 (byteAt l j))

/-- A clone of the bytes l: nil, or a block of its own, full. -/
def Cl (w : World) (ao : Option Addr) (n : Nat) (l : List UInt8) : Prop :=
  l.length = n ∧ ((ao = none ∧ n = 0) ∨ ∃ g, ao = some ⟨g, 0, none⟩ ∧ w.heap[g]? = some (.cells (Lib.byteCells l).toArray 5 (0, 0)))

theorem Cl.below {w w' : World} {ao : Option Addr} {n : Nat} {l : List UInt8} (h : Cl w ao n l) (hb : Below w.heap.size w w') : Cl w' ao n l := by
  obtain ⟨h1, h2 | ⟨g, h2, h3⟩⟩ := h
  · exact ⟨h1, .inl h2⟩
  · exact ⟨h1, .inr ⟨g, h2, by rw [hb.block g (Array.getElem?_eq_some_iff.1 h3).1]; exact h3⟩⟩

theorem Cl.own {w : World} {ao : Option Addr} {n : Nat} {l : List UInt8} (h : Cl w ao n l) (hm : n ≤ maxLen) : (ao = none ∧ n = 0) ∨ ∃ g, ao = some ⟨g, 0, none⟩ ∧ g < w.heap.size ∧ w.ownsRow g 5 1 (.slice ao n n) n (Lib.byteCells l) := by
  obtain ⟨h1, h2 | ⟨g, h2, h3⟩⟩ := h
  · exact .inl h2
  · refine .inr ⟨g, h2, (Array.getElem?_eq_some_iff.1 h3).1, ?_⟩
    subst h2
    refine ⟨by rw [Lib.byteCells_length]; omega, .inr ⟨g, n, _, rfl, Nat.le_refl _, h3, Nat.le_refl _, hm, by simp [Lib.byteCells_length]; omega, ?_⟩⟩
    simp only [Nat.mul_one]
    exact List.take_of_length_le (by rw [Lib.byteCells_length]; omega)

theorem Cl.arg {w : World} {ao : Option Addr} {n : Nat} {l : List UInt8} (h : Cl w ao n l) (hm : n ≤ maxLen) : ArgRow w ao n l := by
  refine ⟨h.1, ?_, ?_⟩
  · intro e
    obtain ⟨_, h2 | ⟨g, h2, h3⟩⟩ := h
    · exact h2.2
    · rw [e] at h2; cases h2
  · intro ad had j hj
    rcases h.own hm with ⟨h1, h2⟩ | ⟨g, h1, h2, h3⟩
    · omega
    · rw [h1] at had
      cases had
      exact h3.cells (g := g) (by rw [h1]; rfl) j _ (byteCells_get l j (by rw [h.1]; exact hj))

theorem Cl.row {w : World} {ao : Option Addr} {n : Nat} {l : List UInt8} (h : Cl w ao n l) (hm : n ≤ maxLen) : Row8 w ao l := by
  obtain ⟨h1, h2 | ⟨g, h2, h3⟩⟩ := h
  · exact .inl (List.eq_nil_of_length_eq_zero (by omega))
  · refine .inr ⟨g, 0, h2, fun j hj => ?_⟩
    have h4 := (Cl.arg ⟨h1, .inr ⟨g, h2, h3⟩⟩ hm).2.2 _ h2 j (by omega)
    rw [Addr.add_lit] at h4
    simpa using h4

theorem clone_any (ao : Option Addr) (n c : Nat) (l : List UInt8) (w : World) (harg : ArgRow w ao n l) (hn : n ≤ 1048576) :
    Calls Try.prog 9 #[.slice ao n c] w fun e w' => ∃ ao', e = .returned (.slice ao' n n) ∧ Cl w' ao' n l ∧ Below w.heap.size w w' := by
  obtain ⟨hl, h0, h1⟩ := harg
  cases ao with
  | none =>
    obtain rfl := h0 rfl
    refine (clone_nil 0 c w).mono fun e w' ⟨he, hw⟩ => ?_
    subst hw
    exact ⟨none, he, ⟨hl, .inl ⟨rfl, rfl⟩⟩, Below.refl _ _⟩
  | some ad =>
    refine (clone_some ad n c l w hl (h1 ad rfl) hn).mono fun e w' ⟨he, hw, hb⟩ => ?_
    exact ⟨_, he, ⟨hl, .inr ⟨_, rfl, hw⟩⟩, hb⟩


set_option maxHeartbeats 400000 in
theorem bytes22_any (a : Option Addr) (n c : Nat) (x : Int) (w : World) (hn : n ≤ maxLen) :
    Calls Try.prog 22 #[.slice a n c, .int .i64 x] w fun e w' => e = .returned (.bool (decide (n ≤ 1048576))) ∧ w' = w := by
  unfold maxLen at hn
  by_cases h : n ≤ 1048576
  · go_enter Try.func22, Try.ntmps22
    go_wp2
    go_ret
    exact ⟨by simp [h], rfl⟩
  · go_enter Try.func22, Try.ntmps22
    go_wp2
    go_ret
    exact ⟨by simp [h], rfl⟩

set_option maxHeartbeats 400000 in
theorem lowerByte_any (z : Int) (w : World) (h0 : 0 ≤ z) (h1 : z ≤ 255) :
    Calls Try.prog 26 #[.int .u8 z] w fun e w' => e = .returned (.int .u8 (lowN z)) ∧ w' = w := by
  by_cases h : 65 ≤ z
  · by_cases h2 : z ≤ 90
    · have e := Lib.hid (lowN_of z ⟨h, h2⟩)
      go_enter Try.func26, Try.ntmps26
      go_wp2
      go_ret
      exact ⟨ret_int e.out.symm, rfl⟩
    · have e := Lib.hid (lowN_not z (by omega))
      go_enter Try.func26, Try.ntmps26
      go_wp2
      go_ret
      exact ⟨ret_int e.out.symm, rfl⟩
  · have e := Lib.hid (lowN_not z (by omega))
    have hd : decide (65 ≤ z) = false := by simp; omega
    go_enter Try.func26, Try.ntmps26
    go_wp2
    go_ret
    exact ⟨ret_int e.out.symm, rfl⟩

set_option maxHeartbeats 1000000 in
theorem sameLowerBytes_any (got : ByteArray) (ao : Option Addr) (n c : Nat) (l : List UInt8) (w : World) (hn : n ≤ 9223372036854775807) (hl : l.length = n) (hg : got.size = n) (hrow : Row8 w ao l)
    (hlow : ∀ j, j < n → byteAt got.data.toList j = lowN (byteAt l j)) :
    Calls Try.prog 23 #[.string got, .slice ao n c] w fun e w' => e = .returned (.bool true) ∧ ∃ k, w' = w.drewN k := by
  have HL := Lib.hid hl
  have HLO := Lib.hid hlow
  have HG := Lib.hid hg
  have hne : ((got.size : Int) != (n : Int)) = false := by simp; omega
  clear hl hlow hg
  go_enter Try.func23, Try.ntmps23
  go_wp2
  go_loopw [5] (fun i wr => ∃ k q : Nat, k ≤ n ∧ i = .int .i64 k ∧ wr = w.drewN q) (fun i _ => n - (intOf i).toNat)
  case atStart => exact ⟨0, 0, Nat.zero_le _, rfl, rfl⟩
  case round =>
    obtain ⟨k, q, hk, rfl, hwr⟩ := hrel
    have HW := Lib.hid hwr
    clear hwr
    by_cases hlt : k < n
    · rcases hrow with rfl | ⟨b, off, rfl, hcell⟩
      · have := HL.out; simp at this; omega
      have c1 : wr.cell? ⟨b, off + k, none⟩ = some (.int .u8 (byteAt l k)) := by rw [HW.out]; exact hcell _ (by have := HL.out; omega)
      have hgk : k < got.size := by have := HG.out; omega
      have hi1 : (k : Int) < (n : Int) := by omega
      have hi2 : (k : Int) < (got.size : Int) := by omega
      have hb := byteAt_bd l k
      have hb0 := hb.1
      have hb1 := hb.2
      have he : (((got[k].toNat : Nat) : Int) != lowN (byteAt l k)) = false := by
        rw [← byteAt_str got k hgk, HLO.out k hlt]; simp
      clear hcell
      go_wp2
      go_quiet ((go_at_call 26; exact Calls.quiet_of_same (lowerByte_any _ _ hb0 hb1)))
      go_wp2
      go_roundw
      case rel => exact ⟨k + 1, _, by omega, by go_num, by rw [HW.out, World.drewN_drewN]⟩
      case measure => simp [intOf]; omega
    · go_wp2
      go_ret
      exact ⟨rfl, _, HW.out⟩

end Go.Proofs.Qxb6605469a
