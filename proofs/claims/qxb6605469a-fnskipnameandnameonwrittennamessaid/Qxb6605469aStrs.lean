import Derived.Test.Qxb6605469aEnc
import Derived.Test.Qxb6605469aName2
namespace Go.Proofs.Qxb6605469a
open Go.RowKit

/-- What is known of a slice of strings that came in, or that was cloned. -/
def ArgS (w : World) (ao : Option Addr) (n : Nat) (ss : List ByteArray) : Prop :=
  ss.length = n ∧ (ao = none → n = 0) ∧ (∀ j, j < n → (strAt ss j).size ≤ maxLen) ∧ ∀ ad, ao = some ad → ∀ j, j < n → w.cell? (ad.add j) = some (.string (strAt ss j))

def ClS (w : World) (ao : Option Addr) (n : Nat) (ss : List ByteArray) : Prop :=
  ss.length = n ∧ ((ao = none ∧ n = 0) ∨ ∃ g, ao = some ⟨g, 0, none⟩ ∧ w.heap[g]? = some (.cells (ss.map Value.string).toArray 9 (0, 0)))

theorem ArgS.row {w : World} {ao : Option Addr} {n : Nat} {ss : List ByteArray} (h : ArgS w ao n ss) {j : Nat} (hj : j < n) : ∃ b off, ao = some ⟨b, off, none⟩ ∧ ∀ t, t < n → w.cell? ⟨b, off + t, none⟩ = some (.string (strAt ss t)) := by
  obtain ⟨h1, h2, _, h3⟩ := h
  cases ao with
  | none => have := h2 rfl; omega
  | some ad =>
    obtain ⟨b, off, spot⟩ := ad
    have hs := World.cell?_spot (h3 _ rfl 0 (by omega))
    have hspot : spot = none := by simpa [Addr.add] using hs
    subst hspot
    exact ⟨b, off, rfl, fun t ht => by have := h3 _ rfl t ht; rw [Addr.add_lit] at this; exact this⟩

theorem ClS.below {w w' : World} {ao : Option Addr} {n : Nat} {ss : List ByteArray} (h : ClS w ao n ss) (hb : Below w.heap.size w w') : ClS w' ao n ss := by
  obtain ⟨h1, h2 | ⟨g, h2, h3⟩⟩ := h
  · exact ⟨h1, .inl h2⟩
  · exact ⟨h1, .inr ⟨g, h2, by rw [hb.block g (Array.getElem?_eq_some_iff.1 h3).1]; exact h3⟩⟩

theorem ClS.cells {w : World} {ao : Option Addr} {n : Nat} {ss : List ByteArray} (h : ClS w ao n ss) {j : Nat} (hj : j < n) : ∃ g, ao = some ⟨g, 0, none⟩ ∧ g < w.heap.size ∧ ∀ t, t < n → w.cell? ⟨g, t, none⟩ = some (.string (strAt ss t)) := by
  obtain ⟨h1, h2 | ⟨g, h2, h3⟩⟩ := h
  · omega
  · refine ⟨g, h2, (Array.getElem?_eq_some_iff.1 h3).1, fun t ht => ?_⟩
    rw [cell_of_row w g t _ _ _ h3, strAt_get ss t (by omega)]
    simp [h1, ht]

/-- A slice of strings that lies somewhere: for the walks that only read it. -/
def RowS (w : World) (ao : Option Addr) (n : Nat) (ss : List ByteArray) : Prop :=
  ss.length = n ∧ ∀ j, j < n → ∃ b off, ao = some ⟨b, off, none⟩ ∧ w.cell? ⟨b, off + j, none⟩ = some (.string (strAt ss j))

theorem ArgS.rows {w : World} {ao : Option Addr} {n : Nat} {ss : List ByteArray} (h : ArgS w ao n ss) : RowS w ao n ss :=
  ⟨h.1, fun j hj => by obtain ⟨b, off, h1, h2⟩ := h.row hj; exact ⟨b, off, h1, h2 j hj⟩⟩
theorem ClS.rows {w : World} {ao : Option Addr} {n : Nat} {ss : List ByteArray} (h : ClS w ao n ss) : RowS w ao n ss :=
  ⟨h.1, fun j hj => by obtain ⟨g, h1, _, h2⟩ := h.cells hj; exact ⟨g, 0, h1, by rw [Nat.zero_add]; exact h2 j hj⟩⟩

set_option maxHeartbeats 400000 in
theorem cloneS_nil (n c : Nat) (w : World) : Calls Try.prog 10 #[.slice none n c] w fun e w' => e = .returned (.slice none 0 0) ∧ w' = w := by
  have hnil := fun wx => Lib.run_eql_slice_nil (P := Try.prog) wx 24 9 none n c 0 0 Try.underlying24
  go_enter Try.func10, Try.ntmps10
  go_wp2
  go_ret
  exact ⟨rfl, rfl⟩

set_option maxHeartbeats 400000 in
theorem cloneS_some (ad : Addr) (n c : Nat) (ss : List ByteArray) (w : World) (hl : ss.length = n) (hcell : ∀ j, j < n → w.cell? (ad.add j) = some (.string (strAt ss j))) (hn : n ≤ 1048576) :
    Calls Try.prog 10 #[.slice (some ad) n c] w fun e w' => e = .returned (.slice (some ⟨w.heap.size, 0, none⟩) n n) ∧ w'.heap[w.heap.size]? = some (.cells (ss.map Value.string).toArray 9 (0, 0)) ∧ Below w.heap.size w w' := by
  obtain ⟨i0, hi, hz0, hz1, hz2⟩ := info_parts infoStr
  have hnil := fun wx => Lib.run_eql_slice_nil (P := Try.prog) wx 24 9 (some ad) n c 0 0 Try.underlying24
  have HL := Lib.hid hl
  have HCl := Lib.hid hcell
  clear hl hcell
  go_enter Try.func10, Try.ntmps10
  go_wp2_with (at_make; refine wpList_make_full _ rfl _ _ 24 rfl w.heap.size 9 i0 (.string ⟨#[]⟩) 1 Try.underlying24 hi hz0 hz1 .i64 .i64 _ _ n rfl rfl rfl rfl (by rw [hz2]; omega) (by unfold maxLen; omega) (Nat.le_refl _) ?_)
  intro w1 hown hgr
  obtain ⟨curL, hcl, hblk⟩ : ∃ curL : List Value, curL.length = n ∧ w1.heap[w.heap.size]? = some (.cells curL.toArray 9 (0, 0)) := by
    rcases hown.2 with ⟨h, _⟩ | ⟨g, cap, cur, hv, _, hg, _, _, hs, _⟩
    · simp at h
    · simp only [Value.slice.injEq, Option.some.injEq, Addr.mk.injEq, true_and, and_true] at hv
      obtain ⟨rfl, rfl⟩ := hv
      exact ⟨cur.toList, by simpa using hs, by simpa using hg⟩
  have hb1 : Below w.heap.size w w1 := (Below.refl _ _).grown hgr (Nat.le_refl _) (fun k hk => by cases hk)
  obtain ⟨cs, hcs⟩ : ∃ cs, cs = ss.map Value.string := ⟨_, rfl⟩
  have hlen : cs.length = n := by rw [hcs, List.length_map]; exact HL.out
  have h1c : ∀ v ∈ cs, v.oneCell' = true := by
    intro v hv
    rw [hcs] at hv
    obtain ⟨s, _, rfl⟩ := List.mem_map.1 hv
    rfl
  have hpos : ∀ j v, cs[j]? = some v → w1.cell? (ad.add j) = some v := by
    intro j v hj
    rw [hcs, List.getElem?_map] at hj
    obtain ⟨s, h1, rfl⟩ := Option.map_eq_some_iff.1 hj
    have hjl := (List.getElem?_eq_some_iff.1 h1).1
    have h3 := HCl.out j (by have := HL.out; omega)
    have h4 : strAt ss j = s := by rw [strAt_get ss j hjl]; exact (List.getElem?_eq_some_iff.1 h1).2
    rw [h4] at h3
    rw [← h3]
    exact hb1.cell (World.block_lt_of_cell? w (ad.add j) h3)
  have HC := Lib.hid hcs
  have HN := Lib.hid hlen
  have HP := Lib.hid hpos
  have HB := Lib.hid hblk
  have H1 := Lib.hid h1c
  have HK := Lib.hid hcl
  clear hcs hlen hpos hblk h1c hcl hown hgr
  go_wp2_with (refine wpList_copy_splice rfl _ _ 24 24 rfl 9 Try.underlying24 (by rw [hi]; simp [hz1]) _ _ n n n c rfl rfl w.heap.size 0 curL 9 HB.out cs (by rw [HN.out]; simp) (fun _ => ⟨rfl, ad, rfl, HP.out⟩) (by rw [HN.out, HK.out]; omega) H1.out w.heap.size w hb1 (Nat.le_refl _) ?_)
  intro w2 hg2 hb2
  go_wp2
  go_ret
  refine ⟨rfl, ?_, hb2⟩
  rw [hg2.out, ← HC.out]
  have e : splice curL 0 cs = cs := by
    have := HN.out
    have := HK.out
    simp [splice]
    omega
  rw [e]

theorem cloneS_any (ao : Option Addr) (n c : Nat) (ss : List ByteArray) (w : World) (harg : ArgS w ao n ss) (hn : n ≤ 1048576) :
    Calls Try.prog 10 #[.slice ao n c] w fun e w' => ∃ ao', e = .returned (.slice ao' n n) ∧ ClS w' ao' n ss ∧ Below w.heap.size w w' := by
  obtain ⟨hl, h0, _, h1⟩ := harg
  cases ao with
  | none =>
    obtain rfl := h0 rfl
    refine (cloneS_nil 0 c w).mono fun e w' ⟨he, hw⟩ => ?_
    subst hw
    exact ⟨none, he, ⟨hl, .inl ⟨rfl, rfl⟩⟩, Below.refl _ _⟩
  | some ad =>
    refine (cloneS_some ad n c ss w hl (h1 ad rfl) hn).mono fun e w' ⟨he, hw, hb⟩ => ?_
    exact ⟨_, he, ⟨hl, .inr ⟨_, rfl, hw⟩⟩, hb⟩

set_option maxHeartbeats 1000000 in
theorem sameLower_any (got want : ByteArray) (w : World) (hs : (want.size : Int) ≤ 1048576) (h : got = lowS want) :
    Calls Try.prog 16 #[.string got, .string want] w fun e w' => e = .returned (.bool true) ∧ ∃ k, w' = w.drewN k := by
  have hg : got.size = want.size := by rw [h, lowS_size]
  have hlow : ∀ j, j < want.size → byteAt got.data.toList j = lowN (byteAt want.data.toList j) := fun j hj => by rw [h, lowS_list, byteAt_low _ _ hj]
  have HLO := Lib.hid hlow
  have HG := Lib.hid hg
  have hne : ((got.size : Int) != (want.size : Int)) = false := by simp; omega
  clear hlow hg h
  go_enter Try.func16, Try.ntmps16
  go_wp2
  go_loopw [5] (fun i wr => ∃ k q : Nat, k ≤ want.size ∧ i = .int .i64 k ∧ Hid (wr = w.drewN q)) (fun i _ => want.size - (intOf i).toNat)
  case atStart => exact ⟨0, 0, Nat.zero_le _, rfl, rfl⟩
  case round =>
    obtain ⟨k, q, hk, rfl, HW⟩ := hrel
    by_cases hlt : k < want.size
    · have hgk : k < got.size := by have := HG.out; omega
      have hi1 : (k : Int) < (want.size : Int) := by omega
      have hi2 : (k : Int) < (got.size : Int) := by omega
      have hb := byteAt_bd want.data.toList k
      rw [byteAt_str want k hlt] at hb
      have hb0 := hb.1
      have hb1 := hb.2
      have he : (((got[k].toNat : Nat) : Int) != lowN ((want[k].toNat : Nat) : Int)) = false := by
        rw [← byteAt_str got k hgk, ← byteAt_str want k hlt, HLO.out k hlt]; simp
      clear hb
      go_wp2
      go_quiet ((go_at_call 26; exact Calls.quiet_of_same (lowerByte_any _ _ hb0 hb1)))
      go_wp2
      go_roundw
      case rel => exact ⟨k + 1, q + nq, by omega, by go_num, by show _ = _; rw [HW.out, World.drewN_drewN]⟩
      case measure => simp [intOf]; omega
    · go_wp2
      go_ret
      exact ⟨rfl, _, HW.out⟩

end Go.Proofs.Qxb6605469a
