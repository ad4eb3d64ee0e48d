import Derived.Test.Qxb6003641aFreeStep
namespace Go.Proofs.Qxb6003641a
open Go.RowKit

/-- A slice of bools that lies below base. -/
def RowB (w : World) (ao : Option Addr) (n : Nat) (hs : List Bool) : Prop :=
  hs.length = n ∧ ∀ j, j < n → ∃ b off, ao = some ⟨b, off, none⟩ ∧ w.cell? ⟨b, off + j, none⟩ = some (.bool (hs.getD j false))

/-- The Tokens and its model, at some moment. -/
def Good (w : World) (base T N : Nat) (kv fv : Value) : Prop :=
  ∃ m kn fr B, Inv w base T m kn fr B ∧ OwS w base kv kn ∧ OwS w base fv fr ∧ Sep kv fv ∧ kn.length ≤ N ∧ fr.length ≤ N

theorem held_len (kn : List ByteArray) (s : ByteArray) : (held kn s).length ≤ kn.length + 1 := by
  unfold held
  split
  · omega
  · simp
theorem del_len (fr : List ByteArray) (s : ByteArray) : (del fr s).length ≤ fr.length := List.length_filter_le _ _
theorem freed_len (kn fr : List ByteArray) (s : ByteArray) : (freed kn fr s).length ≤ fr.length + 1 := by
  unfold freed
  split
  · simp
  · omega

/-- Rows that lie below base stay. -/
def RowLow (w : World) (base : Nat) (ao : Option Addr) (n : Nat) (ss : List ByteArray) : Prop := RowS w ao n ss ∧ ∀ b off, ao = some ⟨b, off, none⟩ → b < base
def RowBLow (w : World) (base : Nat) (ao : Option Addr) (n : Nat) (hs : List Bool) : Prop := RowB w ao n hs ∧ ∀ b off, ao = some ⟨b, off, none⟩ → b < base

theorem RowLow.below {w w' : World} {base : Nat} {ao : Option Addr} {n : Nat} {ss : List ByteArray} (h : RowLow w base ao n ss) (hb : Below base w w') : RowLow w' base ao n ss :=
  ⟨⟨h.1.1, fun j hj => by
    obtain ⟨b, off, h1, h2⟩ := h.1.2 j hj
    exact ⟨b, off, h1, (hb.cell (h.2 b off h1)).trans h2⟩⟩, h.2⟩
theorem RowBLow.below {w w' : World} {base : Nat} {ao : Option Addr} {n : Nat} {hs : List Bool} (h : RowBLow w base ao n hs) (hb : Below base w w') : RowBLow w' base ao n hs :=
  ⟨⟨h.1.1, fun j hj => by
    obtain ⟨b, off, h1, h2⟩ := h.1.2 j hj
    exact ⟨b, off, h1, (hb.cell (h.2 b off h1)).trans h2⟩⟩, h.2⟩

theorem good_hold {w : World} {base T k : Nat} {kv fv : Value} {s : ByteArray} (h : Good w base T k kv fv) (hz : s.size ≤ maxLen) (hbase : base ≤ w.heap.size) (hk : k ≤ 1000000) :
    Calls Try.prog 14 #[.pointer (some ⟨T, 0, none⟩), kv, fv, .string s] w fun e w' => ∃ kv' fv', e = .returned (.tuple #[kv', fv', .bool true]) ∧ Hid (Good w' base T (k + 1) kv' fv') ∧ Hid (Below base w w') := by
  obtain ⟨m, kn, fr, B, hI, h1, h2, h3, h4, h5⟩ := h
  refine (hI.holdStep hz hbase h1 h2 h3 (by omega) (by omega)).mono fun e w' ⟨kv', fv', he, hp⟩ => ?_
  obtain ⟨m', B', g1, g2, g3, g4, g5, _⟩ := hp.out
  refine ⟨kv', fv', he, ⟨m', _, _, B', g1, g2, g3, g4, ?_, ?_⟩, g5⟩
  · have := held_len kn s; omega
  · have := del_len fr s; omega

theorem good_free {w : World} {base T k : Nat} {kv fv : Value} {s : ByteArray} (h : Good w base T k kv fv) (hz : s.size ≤ maxLen) (hbase : base ≤ w.heap.size) (hk : k ≤ 1000000) :
    Calls Try.prog 20 #[.pointer (some ⟨T, 0, none⟩), kv, fv, .string s] w fun e w' => ∃ fv', e = .returned fv' ∧ Hid (Good w' base T (k + 1) kv fv') ∧ Hid (Below base w w') := by
  obtain ⟨m, kn, fr, B, hI, h1, h2, h3, h4, h5⟩ := h
  refine (hI.freeStep hz hbase h1 h2 h3 (by omega) (by omega)).mono fun e w' ⟨fv', he, hp⟩ => ?_
  obtain ⟨g1, g2, g3, g4, g5⟩ := hp.out
  refine ⟨fv', he, ⟨m, _, _, B, g1, g2, g3, g4, by omega, ?_⟩, g5⟩
  have := freed_len kn fr s
  omega

theorem Good.mono {w : World} {base T k k' : Nat} {kv fv : Value} (h : Good w base T k kv fv) (hk : k ≤ k') : Good w base T k' kv fv := by
  obtain ⟨m, kn, fr, B, hI, h1, h2, h3, h4, h5⟩ := h
  exact ⟨m, kn, fr, B, hI, h1, h2, h3, by omega, by omega⟩

set_option maxHeartbeats 4000000 in
theorem run_any (base T : Nat) (ra ha : Option Addr) (rn rc hn hc : Nat) (rs : List ByteArray) (hs : List Bool) (w : World) (hg : Good w base T 0 (.slice none 0 0) (.slice none 0 0)) (hbase : base ≤ w.heap.size) (hr : RowLow w base ra rn rs) (hrz : ∀ s ∈ rs, s.size ≤ maxLen) (hh : RowBLow w base ha hn hs) (hrn : (rn : Int) ≤ 4096) :
    Calls Try.prog 11 #[.pointer (some ⟨T, 0, none⟩), .slice ra rn rc, .slice ha hn hc] w fun e w' => ∃ kv fv, e = .returned (.tuple #[kv, fv, .bool true]) ∧ Hid (Good w' base T 4096 kv fv ∧ Below base w w') := by
  have HG := Lib.hid hg
  have HR := Lib.hid hr
  have HZ := Lib.hid hrz
  have HH := Lib.hid hh
  clear hg hr hrz hh
  go_enter Try.func11, Try.ntmps11
  go_wp2_with fail
  go_loopw [9, 10, 11] (fun kv fv i wr => ∃ k : Nat, k ≤ rn ∧ i = .int .i64 k ∧ Hid (Good wr base T k kv fv) ∧ Below base w wr) (fun _ _ i _ => rn - (intOf i).toNat)
  case atStart => exact ⟨0, Nat.zero_le _, rfl, HG, Below.refl _ _⟩
  case round =>
    obtain ⟨k, hk, rfl, hgd, hb⟩ := hrel
    by_cases hlt : (k : Int) < (rn : Int)
    · obtain ⟨b, off, hao, hc0⟩ := (HR.out.below hb).1.2 k (by omega)
      subst hao
      obtain ⟨s, hs0⟩ : ∃ s, s = strAt rs k := ⟨_, rfl⟩
      rw [← hs0] at hc0
      have hz : s.size ≤ maxLen := HZ.out s (by rw [hs0]; exact strAt_mem rs k (by have := HR.out.1.1; omega))
      have hbw : base ≤ wr.heap.size := by have := hb.size; omega
      have HHold := Lib.hid (good_hold hgd.out hz hbw (by omega))
      have HFree := Lib.hid (good_free hgd.out hz hbw (by omega))
      have hb' := Lib.hid hb
      clear hs0 hz hb
      by_cases hkh : (k : Int) < (hn : Int)
      · obtain ⟨b2, off2, hao2, hc2⟩ := (HH.out.below hb'.out).1.2 k (by omega)
        subst hao2
        obtain ⟨f, hf⟩ : ∃ f, f = hs.getD k false := ⟨_, rfl⟩
        rw [← hf] at hc2
        clear hf
        cases f with
        | true =>
          go_wp2_with fail
          refine HHold.out.mono ?_
          rintro e w2 ⟨kv', fv', rfl, hg2, hb2⟩
          go_wp2_with fail
          go_roundw
          case rel => exact ⟨k + 1, by omega, by go_num, hg2, hb'.out.trans hb2.out⟩
          case measure => simp [intOf]; omega
        | false =>
          go_wp2_with fail
          refine HFree.out.mono ?_
          rintro e w2 ⟨fv', rfl, hg2, hb2⟩
          go_wp2_with fail
          go_roundw
          case rel => exact ⟨k + 1, by omega, by go_num, hg2, hb'.out.trans hb2.out⟩
          case measure => simp [intOf]; omega
      · have hd : decide ((k : Int) < (hn : Int)) = false := by simp; omega
        go_wp2_with fail
        refine HFree.out.mono ?_
        rintro e w2 ⟨fv', rfl, hg2, hb2⟩
        go_wp2_with fail
        go_roundw
        case rel => exact ⟨k + 1, by omega, by go_num, hg2, hb'.out.trans hb2.out⟩
        case measure => simp [intOf]; omega
    · go_wp2_with fail
      go_ret3
      exact ⟨_, _, rfl, hgd.out.mono (by omega), hb⟩

end Go.Proofs.Qxb6003641a
