import Derived.Test.Qxb6003641aBytes
namespace Go.Proofs.Qxb6003641a
open Go.RowKit

theorem infoBool : (Try.prog.info? 4).map (fun i => (i.zero, i.size, i.bytes)) = some (some (.bool false), 1, 1) := by kernel_rfl

/-- What is known of a slice of strings that came in. -/
def ArgS (w : World) (ao : Option Addr) (n : Nat) (ss : List ByteArray) : Prop :=
  ss.length = n ∧ (ao = none → n = 0) ∧ (∀ j, j < n → (strAt ss j).size ≤ maxLen) ∧ ∀ ad, ao = some ad → ∀ j, j < n → w.cell? (ad.add j) = some (.string (strAt ss j))
def ArgB (w : World) (ao : Option Addr) (n : Nat) (hs : List Bool) : Prop :=
  hs.length = n ∧ (ao = none → n = 0) ∧ ∀ ad, ao = some ad → ∀ j, j < n → w.cell? (ad.add j) = some (.bool (hs.getD j false))

theorem ArgS.rows {w : World} {ao : Option Addr} {n : Nat} {ss : List ByteArray} (h : ArgS w ao n ss) : RowS w ao n ss := by
  obtain ⟨h1, h2, _, h3⟩ := h
  refine ⟨h1, fun j hj => ?_⟩
  cases ao with
  | none => have := h2 rfl; omega
  | some ad =>
    obtain ⟨b, off, spot⟩ := ad
    have hs := World.cell?_spot (h3 _ rfl 0 (by omega))
    have hspot : spot = none := by simpa [Addr.add] using hs
    subst hspot
    exact ⟨b, off, rfl, by have := h3 _ rfl j hj; rw [Addr.add_lit] at this; exact this⟩
theorem ArgB.rows {w : World} {ao : Option Addr} {n : Nat} {ss : List Bool} (h : ArgB w ao n ss) : RowB w ao n ss := by
  obtain ⟨h1, h2, h3⟩ := h
  refine ⟨h1, fun j hj => ?_⟩
  cases ao with
  | none => have := h2 rfl; omega
  | some ad =>
    obtain ⟨b, off, spot⟩ := ad
    have hs := World.cell?_spot (h3 _ rfl 0 (by omega))
    have hspot : spot = none := by simpa [Addr.add] using hs
    subst hspot
    exact ⟨b, off, rfl, by have := h3 _ rfl j hj; rw [Addr.add_lit] at this; exact this⟩
theorem ArgS.sizes {w : World} {ao : Option Addr} {n : Nat} {ss : List ByteArray} (h : ArgS w ao n ss) : ∀ s ∈ ss, s.size ≤ maxLen := fun s hs => by
  obtain ⟨j, hj, e⟩ := List.getElem_of_mem hs
  have := h.2.2.1 j (by have := h.1; omega)
  rw [strAt_get ss j hj, e] at this
  exact this

theorem ArgB.below {w w' : World} {ao : Option Addr} {n : Nat} {hs : List Bool} (h : ArgB w ao n hs) (hb : Below w.heap.size w w') : ArgB w' ao n hs :=
  ⟨h.1, h.2.1, fun ad had j hj => (hb.cell (World.block_lt_of_cell? w _ (h.2.2 ad had j hj))).trans (h.2.2 ad had j hj)⟩

/-- The first k elements of a row of the call's own are what V says. -/
def Filled (w : World) (B n e : Nat) (V : Nat → Value) (k : Nat) : Prop := ∃ cur, w.ownsRow B e 1 (.slice (some ⟨B, 0, none⟩) n n) n cur ∧ ∀ j, j < k → cur[j]? = some (V j)

theorem Filled.cell {w : World} {B n e : Nat} {V : Nat → Value} {k : Nat} (h : Filled w B n e V k) {j : Nat} (hj : j < n) : ∃ u, w.cell? ⟨B, j, none⟩ = some u ∧ w.frozen? ⟨B, j, none⟩ = false := by
  obtain ⟨cur, h1, h2⟩ := h
  have hl := h1.1
  have hc := h1.cellAt j (by omega)
  rw [List.getElem?_eq_getElem (by omega)] at hc
  exact ⟨_, hc, h1.frozenAt j⟩
theorem Filled.read {w : World} {B n e : Nat} {V : Nat → Value} {k : Nat} (h : Filled w B n e V k) {j : Nat} (hj : j < k) (hk : k ≤ n) : w.cell? ⟨B, j, none⟩ = some (V j) := by
  obtain ⟨cur, h1, h2⟩ := h
  rw [h1.cellAt j (by omega), h2 j hj]
theorem Filled.store {w : World} {B n e : Nat} {V : Nat → Value} {k : Nat} (h : Filled w B n e V k) (hk : k < n) {v : Value} (hv : v = V k) : Filled (w.setCell ⟨B, k, none⟩ v) B n e V (k + 1) := by
  obtain ⟨cur, h1, h2⟩ := h
  refine ⟨cur.set k v, (h1.stored k v).1, fun j hj => ?_⟩
  have hl := h1.1
  rw [List.getElem?_set]
  by_cases e : k = j
  · subst e
    rw [if_pos rfl, if_pos (by omega), hv]
  · rw [if_neg e]
    exact h2 j (by omega)
theorem Filled.lt {w : World} {B n e : Nat} {V : Nat → Value} {k : Nat} (h : Filled w B n e V k) : B < w.heap.size := by
  obtain ⟨cur, h1, h2⟩ := h
  exact (World.ownsRow.lt h1 B rfl).2

set_option maxHeartbeats 1000000 in
theorem cloneS_nil (n c : Nat) (w : World) : Calls Try.prog 9 #[.slice none n c] w fun e w' => e = .returned (.slice none 0 0) ∧ w' = w := by
  have hnil := fun wx => Lib.run_eql_slice_nil (P := Try.prog) wx 22 9 none n c 0 0 Try.underlying22
  go_enter Try.func9, Try.ntmps9
  go_wp2
  go_ret
  exact ⟨rfl, rfl⟩

set_option maxHeartbeats 1000000 in
theorem cloneB_nil (n c : Nat) (w : World) : Calls Try.prog 10 #[.slice none n c] w fun e w' => e = .returned (.slice none 0 0) ∧ w' = w := by
  have hnil := fun wx => Lib.run_eql_slice_nil (P := Try.prog) wx 23 4 none n c 0 0 Try.underlying23
  go_enter Try.func10, Try.ntmps10
  go_wp2
  go_ret
  exact ⟨rfl, rfl⟩

set_option maxHeartbeats 4000000 in
theorem cloneS_some (ad : Addr) (n c : Nat) (ss : List ByteArray) (w : World) (hr : RowS w (some ad) n ss) (hn : (n : Int) ≤ 4096) :
    Calls Try.prog 9 #[.slice (some ad) n c] w fun e w' => e = .returned (.slice (some ⟨w.heap.size, 0, none⟩) n n) ∧ Filled w' w.heap.size n 9 (fun j => .string (strAt ss j)) n ∧ Below w.heap.size w w' := by
  obtain ⟨i0, hi, hz0, hz1, hz2⟩ := info_parts infoStr
  have hnil := fun wx => Lib.run_eql_slice_nil (P := Try.prog) wx 22 9 (some ad) n c 0 0 Try.underlying22
  have HR := Lib.hid hr
  clear hr
  go_enter Try.func9, Try.ntmps9
  go_wp2_with (at_make; refine wpList_make_full _ rfl _ _ 22 rfl w.heap.size 9 i0 (.string ⟨#[]⟩) 1 Try.underlying22 hi hz0 hz1 .i64 .i64 _ _ n rfl rfl rfl rfl (by rw [hz2]; omega) (by unfold maxLen; omega) (Nat.le_refl _) ?_)
  intro w1 hown hgr
  have hb1 : Hid (Below w.heap.size w w1) := (Below.refl _ _).grown hgr (Nat.le_refl _) (fun k hk => by cases hk)
  have HF : Hid (Filled w1 w.heap.size n 9 (fun j => .string (strAt ss j)) 0) := ⟨_, hown, fun j hj => by omega⟩
  clear hown hgr hi hz0 hz1 hz2 hnil
  go_wp2
  go_loopw [4] (fun i wr => ∃ k : Nat, k ≤ n ∧ i = .int .i64 k ∧ Hid (Filled wr w.heap.size n 9 (fun j => .string (strAt ss j)) k) ∧ Hid (Below w.heap.size w wr)) (fun i _ => n - (intOf i).toNat)
  case atStart => exact ⟨0, Nat.zero_le _, rfl, HF, hb1⟩
  case round =>
    obtain ⟨k, hk, rfl, hF, hb⟩ := hrel
    by_cases hlt : (k : Int) < (n : Int)
    · obtain ⟨b, off, hao, hc⟩ := HR.out.2 k (by omega)
      cases hao
      have hc' := (hb.out.cell (World.block_lt_of_cell? w _ hc)).trans hc
      obtain ⟨u, hu1, hu2⟩ := hF.out.cell (j := k) (by omega)
      obtain ⟨st, hst⟩ : ∃ st, st = strAt ss k := ⟨_, rfl⟩
      rw [← hst] at hc'
      have HST := Lib.hid hst
      clear hst hc
      go_wp2
      go_roundw
      case rel => exact ⟨k + 1, by omega, by go_num, hF.out.store (by omega) (by rw [HST.out]), hb.out.setCell (Nat.le_refl _) _⟩
      case measure => simp [intOf]; omega
    · go_wp2
      go_ret
      have hkn : k = n := by omega
      subst hkn
      exact ⟨rfl, hF.out, hb.out⟩

set_option maxHeartbeats 4000000 in
theorem cloneB_some (ad : Addr) (n c : Nat) (ss : List Bool) (w : World) (hr : RowB w (some ad) n ss) (hn : (n : Int) ≤ 4096) :
    Calls Try.prog 10 #[.slice (some ad) n c] w fun e w' => e = .returned (.slice (some ⟨w.heap.size, 0, none⟩) n n) ∧ Filled w' w.heap.size n 4 (fun j => .bool (ss.getD j false)) n ∧ Below w.heap.size w w' := by
  obtain ⟨i0, hi, hz0, hz1, hz2⟩ := info_parts infoBool
  have hnil := fun wx => Lib.run_eql_slice_nil (P := Try.prog) wx 23 4 (some ad) n c 0 0 Try.underlying23
  have HR := Lib.hid hr
  clear hr
  go_enter Try.func10, Try.ntmps10
  go_wp2_with (at_make; refine wpList_make_full _ rfl _ _ 23 rfl w.heap.size 4 i0 (.bool false) 1 Try.underlying23 hi hz0 hz1 .i64 .i64 _ _ n rfl rfl rfl rfl (by rw [hz2]; omega) (by unfold maxLen; omega) (Nat.le_refl _) ?_)
  intro w1 hown hgr
  have hb1 : Hid (Below w.heap.size w w1) := (Below.refl _ _).grown hgr (Nat.le_refl _) (fun k hk => by cases hk)
  have HF : Hid (Filled w1 w.heap.size n 4 (fun j => .bool (ss.getD j false)) 0) := ⟨_, hown, fun j hj => by omega⟩
  clear hown hgr hi hz0 hz1 hz2 hnil
  go_wp2
  go_loopw [4] (fun i wr => ∃ k : Nat, k ≤ n ∧ i = .int .i64 k ∧ Hid (Filled wr w.heap.size n 4 (fun j => .bool (ss.getD j false)) k) ∧ Hid (Below w.heap.size w wr)) (fun i _ => n - (intOf i).toNat)
  case atStart => exact ⟨0, Nat.zero_le _, rfl, HF, hb1⟩
  case round =>
    obtain ⟨k, hk, rfl, hF, hb⟩ := hrel
    by_cases hlt : (k : Int) < (n : Int)
    · obtain ⟨b, off, hao, hc⟩ := HR.out.2 k (by omega)
      cases hao
      have hc' := (hb.out.cell (World.block_lt_of_cell? w _ hc)).trans hc
      obtain ⟨u, hu1, hu2⟩ := hF.out.cell (j := k) (by omega)
      obtain ⟨st, hst⟩ : ∃ st, st = ss.getD k false := ⟨_, rfl⟩
      rw [← hst] at hc'
      have HST := Lib.hid hst
      clear hst hc
      go_wp2
      go_roundw
      case rel => exact ⟨k + 1, by omega, by go_num, hF.out.store (by omega) (by rw [HST.out]), hb.out.setCell (Nat.le_refl _) _⟩
      case measure => simp [intOf]; omega
    · go_wp2
      go_ret
      have hkn : k = n := by omega
      subst hkn
      exact ⟨rfl, hF.out, hb.out⟩

theorem cloneS_any (ao : Option Addr) (n c : Nat) (ss : List ByteArray) (w : World) (harg : ArgS w ao n ss) (hn : (n : Int) ≤ 4096) :
    Calls Try.prog 9 #[.slice ao n c] w fun e w' => ∃ ao', e = .returned (.slice ao' n n) ∧ Hid (RowLow w' w'.heap.size ao' n ss) ∧ Hid (Below w.heap.size w w') := by
  cases ao with
  | none =>
    obtain rfl := harg.2.1 rfl
    refine (cloneS_nil 0 c w).mono fun e w' ⟨he, hw⟩ => ?_
    subst hw
    exact ⟨none, he, ⟨⟨harg.1, fun j hj => by omega⟩, fun b off h => by cases h⟩, Below.refl _ _⟩
  | some ad =>
    refine (cloneS_some ad n c ss w harg.rows hn).mono fun e w' ⟨he, hF, hb⟩ => ?_
    exact ⟨_, he, ⟨⟨harg.1, fun j hj => ⟨_, _, rfl, by rw [Nat.zero_add]; exact hF.read hj (Nat.le_refl _)⟩⟩, fun b off h => by cases h; exact hF.lt⟩, hb⟩

theorem cloneB_any (ao : Option Addr) (n c : Nat) (ss : List Bool) (w : World) (harg : ArgB w ao n ss) (hn : (n : Int) ≤ 4096) :
    Calls Try.prog 10 #[.slice ao n c] w fun e w' => ∃ ao', e = .returned (.slice ao' n n) ∧ Hid (RowBLow w' w'.heap.size ao' n ss) ∧ Hid (Below w.heap.size w w') := by
  cases ao with
  | none =>
    obtain rfl := harg.2.1 rfl
    refine (cloneB_nil 0 c w).mono fun e w' ⟨he, hw⟩ => ?_
    subst hw
    exact ⟨none, he, ⟨⟨harg.1, fun j hj => by omega⟩, fun b off h => by cases h⟩, Below.refl _ _⟩
  | some ad =>
    refine (cloneB_some ad n c ss w harg.rows hn).mono fun e w' ⟨he, hF, hb⟩ => ?_
    exact ⟨_, he, ⟨⟨harg.1, fun j hj => ⟨_, _, rfl, by rw [Nat.zero_add]; exact hF.read hj (Nat.le_refl _)⟩⟩, fun b off h => by cases h; exact hF.lt⟩, hb⟩

end Go.Proofs.Qxb6003641a
