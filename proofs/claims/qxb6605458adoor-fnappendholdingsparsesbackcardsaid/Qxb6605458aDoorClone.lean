import Derived.Test.Qxb6605458aDoorOwn
import Derived.Laws.CopyOwn
import Derived.Lib.SliceRun
import Derived.Lib.BufferWrite
namespace Go.Proofs.Qxb6605458aDoor
open Go.RowKit

theorem byteCells_at {l : List UInt8} {j : Nat} {u : Value} (h : (Lib.byteCells l)[j]? = some u) : j < l.length ∧ u = .int .u8 (byteAt l j) := by
  simp only [Lib.byteCells, List.getElem?_map, Option.map_eq_some_iff] at h
  obtain ⟨b, hb, rfl⟩ := h
  refine ⟨(List.getElem?_eq_some_iff.1 hb).1, ?_⟩
  simp [byteAt, List.getD, hb]

theorem byteCells_get (l : List UInt8) (j : Nat) (h : j < l.length) : (Lib.byteCells l)[j]? = some (.int .u8 (byteAt l j)) := by
  simp [Lib.byteCells, byteAt, List.getD, h]

set_option maxHeartbeats 400000 in
theorem clone_nil (n c : Nat) (w : World) : Calls Tryd.prog 6 #[.slice none n c] w fun e w' => e = .returned (.slice none 0 0) ∧ w' = w := by
  have hnil := fun wx => Lib.run_eql_slice_nil (P := Tryd.prog) wx 22 5 none n c 0 0 Tryd.underlying22
  go_enter Tryd.func6, Tryd.ntmps6
  go_wp2
  go_ret
  exact ⟨rfl, rfl⟩

set_option maxHeartbeats 400000 in
theorem clone_some (ad : Addr) (n c : Nat) (l : List UInt8) (w : World) (hl : l.length = n) (hcell : ∀ j, j < n → w.cell? (ad.add j) = some (.int .u8 (byteAt l j))) (hn : n ≤ 1048576) :
    Calls Tryd.prog 6 #[.slice (some ad) n c] w fun e w' => e = .returned (.slice (some ⟨w.heap.size, 0, none⟩) n n) ∧ w'.heap[w.heap.size]? = some (.cells (Lib.byteCells l).toArray 5 (0, 0)) ∧ Below w.heap.size w w' := by
  obtain ⟨i0, hi, hz0, hz1, hz2⟩ := info_parts infoByte
  have hnil := fun wx => Lib.run_eql_slice_nil (P := Tryd.prog) wx 22 5 (some ad) n c 0 0 Tryd.underlying22
  have HL := Lib.hid hl
  have HCl := Lib.hid hcell
  clear hl hcell
  go_enter Tryd.func6, Tryd.ntmps6
  go_wp2_with (at_make; refine wpList_make_full _ rfl _ _ 22 rfl w.heap.size 5 i0 (.int .u8 0) 1 Tryd.underlying22 hi hz0 hz1 .i64 .i64 _ _ n rfl rfl rfl rfl (by rw [hz2]; omega) (by unfold maxLen; omega) (Nat.le_refl _) ?_)
  intro w1 hown hgr
  obtain ⟨curL, hcl, hblk⟩ : ∃ curL : List Value, curL.length = n ∧ w1.heap[w.heap.size]? = some (.cells curL.toArray 5 (0, 0)) := by
    rcases hown.2 with ⟨h, _⟩ | ⟨g, cap, cur, hv, _, hg, _, _, hs, _⟩
    · simp at h
    · simp only [Value.slice.injEq, Option.some.injEq, Addr.mk.injEq, true_and, and_true] at hv
      obtain ⟨rfl, rfl⟩ := hv
      exact ⟨cur.toList, by simpa using hs, by simpa using hg⟩
  have hb1 : Below w.heap.size w w1 := (Below.refl _ _).grown hgr (Nat.le_refl _) (fun k hk => by cases hk)
  obtain ⟨cs, hcs⟩ : ∃ cs, cs = Lib.byteCells l := ⟨_, rfl⟩
  have hlen : cs.length = n := by rw [hcs, Lib.byteCells_length]; exact HL.out
  have h1c : ∀ v ∈ cs, v.oneCell' = true := by rw [hcs]; exact Lib.byteCells_one l
  have hpos : ∀ j v, cs[j]? = some v → w1.cell? (ad.add j) = some v := by
    intro j v hj
    rw [hcs] at hj
    obtain ⟨h1, h2⟩ := byteCells_at hj
    have h3 := HCl.out j (by have := HL.out; omega)
    rw [h2, ← h3]
    have hlt := World.block_lt_of_cell? w (ad.add j) h3
    exact hb1.cell hlt
  have HC := Lib.hid hcs
  have HN := Lib.hid hlen
  have HP := Lib.hid hpos
  have HB := Lib.hid hblk
  have H1 := Lib.hid h1c
  have HK := Lib.hid hcl
  clear hcs hlen hpos hblk h1c hcl hown hgr
  go_wp2_with (refine wpList_copy_splice rfl _ _ 22 22 rfl 5 Tryd.underlying22 (by rw [hi]; simp [hz1]) _ _ n n n c rfl rfl w.heap.size 0 curL 5 HB.out cs (by rw [HN.out]; simp) (fun _ => ⟨rfl, ad, rfl, HP.out⟩) (by rw [HN.out, HK.out]; omega) H1.out w.heap.size w hb1 (Nat.le_refl _) ?_)
  intro w2 hg2 hb2
  go_wp2
  go_ret
  refine ⟨rfl, ?_, hb2⟩
  rw [hg2.out, ← HC.out]
  have e : splice curL 0 cs = cs := by
    have := HN.out
    have := HK.out
    simp [splice]
    omega
  rw [e]
end Go.Proofs.Qxb6605458aDoor
