import Derived.Test.Qxb6605469aBytes
namespace Go.Proofs.Qxb6605469a
open Go.RowKit

/-- The bytes l, in a slice that is owned from B on. -/
def OwB (w : World) (B : Nat) (v : Value) (l : List UInt8) : Prop := w.ownsRow B 5 1 v l.length (Lib.byteCells l)

theorem OwB.nil (w : World) (B : Nat) : OwB w B (.slice none 0 0) [] := World.ownsRow_nil _ _ _ _
theorem OwB.shape {w : World} {B : Nat} {v : Value} {l : List UInt8} (h : OwB w B v l) : ∃ a c, v = .slice a l.length c := by
  rcases h.2 with ⟨h1, h2⟩ | ⟨g, cap, cur, hv, _⟩
  · exact ⟨none, 0, by rw [h1, h2]⟩
  · exact ⟨_, _, hv⟩
theorem OwB.mono {w : World} {B B' : Nat} {v : Value} {l : List UInt8} (h : OwB w B v l) (hb : B' ≤ B) : OwB w B' v l := by
  obtain ⟨hl, h0 | ⟨g, cap, cur, hv, hbg, r⟩⟩ := h
  · exact ⟨hl, .inl h0⟩
  · exact ⟨hl, .inr ⟨g, cap, cur, hv, by omega, r⟩⟩
theorem OwB.below {w w' : World} {B : Nat} {v : Value} {l : List UInt8} (h : OwB w B v l) (hb : Below w.heap.size w w') : OwB w' B v l := by
  obtain ⟨hl, h0 | ⟨g, cap, cur, hv, hbg, hg, r⟩⟩ := h
  · exact ⟨hl, .inl h0⟩
  · exact ⟨hl, .inr ⟨g, cap, cur, hv, hbg, by rw [hb.block g (Array.getElem?_eq_some_iff.1 hg).1]; exact hg, r⟩⟩
theorem OwB.row {w : World} {B : Nat} {v : Value} {l : List UInt8} (h : OwB w B v l) (hn : 0 < l.length) : ∃ g cap, v = .slice (some ⟨g, 0, none⟩) l.length cap ∧ l.length ≤ cap ∧ cap ≤ maxLen ∧ B ≤ g ∧ g < w.heap.size ∧ ∀ j, j < l.length → w.cell? ⟨g, j, none⟩ = some (.int .u8 (byteAt l j)) := by
  rcases h.2 with ⟨_, h0⟩ | ⟨g, cap, cur, hv, hb, hg, h1, h2, h3, h4⟩
  · omega
  · refine ⟨g, cap, hv, h1, h2, hb, (Array.getElem?_eq_some_iff.1 hg).1, fun j hj => ?_⟩
    have := h.cells (g := g) (by rw [hv]; rfl) j _ (byteCells_get l j hj)
    rw [Addr.add_lit] at this
    simpa using this

/-- 'append(v, c)', the byte laid in a block of its own: with where the new row lies. -/
theorem wpList_appB {w : World} {ops : Array Oper} {rest : List Oper} {o : Oper} {a : Act} {Q : Exit → Act → World → Prop}
    (hg : o.guard = none) (s x : Operand) (hop : o.op = Op.call { callee := Callee.builtin Builtin.append, args := #[s, x], argTypes := #[23, 23] })
    (B : Nat) (v : Value) (l : List UInt8) (hs : a.eval s = v) (c : UInt8) (k : Int) (hk : k = (c.toNat : Int)) (hsl : OwB w B v l) (hx : a.eval x = .slice (some ⟨w.heap.size, 0, none⟩) 1 1)
    (b1 : l.length + 1 ≤ 140737488355328) (hB : B ≤ w.heap.size)
    (hK : ∀ v' w' l', Hid (l' = l ++ [c]) → l'.length ≤ l.length + 1 → OwB w' B v' l' → Hid (w.grownBy w' v.ownBlock) → Hid (∀ g, v'.ownBlock = some g → v.ownBlock = some g ∨ w.heap.size ≤ g) → wpList Try.prog ops Q rest (a.put o.dst v') w') :
    wpList Try.prog ops Q (o :: rest) a (w.alloc (.cells #[.int .u8 k] 5)) := by
  obtain ⟨i0, hi, hz0, hz1, hz2⟩ := info_parts infoByte
  refine wpList_append_lies _ hg s x 23 hop B 5 i0 (.int .u8 0) 1 1 Try.underlying23 hi hz0 hz1 hz2 rfl (by decide) v l.length (Lib.byteCells l) hs (World.ownsRow.alloc hsl _) ⟨w.heap.size, 0, none⟩ 1 1 [.int .u8 k] hx rfl ?_ ?_ (by decide) (by unfold maxLen; omega) (by omega) (by simp; omega) _ rfl ?_
  · intro j u' hj
    match j, hj with
    | 0, hj => simp at hj; subst hj; simp [Addr.add]
  · intro u' hu'; simp at hu'; subst hu'; rfl
  · intro g cap w' hown hgr hat hlt
    refine hK _ w' (l ++ [c]) (Lib.hid rfl) (by simp) ?_ ⟨hgr.os, hgr.tape, hgr.output, Nat.le_trans (by simp) hgr.size, fun q hq hne => (hgr.block q (by simp; omega) hne).trans (Below.heap_alloc w _ q hq)⟩ ?_
    · unfold OwB
      rw [Lib.byteCells_append]
      have e : Lib.byteCells [c] = [.int .u8 k] := by rw [hk]; rfl
      rw [e]
      simpa using hown
    · intro g' hg'
      have : g' = g := by simpa [Value.ownBlock] using hg'.symm
      subst this
      rcases hat with h | h
      · exact .inl h
      · right; rw [h]; simp

theorem sep_trans {w wr w1 : World} {v u : Value} (h : w.grownBy wr v.ownBlock) (hu : ∀ g, u.ownBlock = some g → v.ownBlock = some g ∨ w.heap.size ≤ g) (h1 : wr.grownBy w1 u.ownBlock) : w.grownBy w1 v.ownBlock :=
  ⟨h1.os.trans h.os, h1.tape.trans h.tape, h1.output.trans h.output, Nat.le_trans h.size h1.size, fun q hq hne => (h1.block q (by have := h.size; omega) (fun e => by
    rcases hu q e.symm with h2 | h2
    · exact hne h2.symm
    · omega)).trans (h.block q hq hne)⟩

theorem take_snoc8 (s : List UInt8) (k : Nat) (h : k < s.length) : s.take (k + 1) = s.take k ++ [s.getD k 0] := by
  rw [List.take_succ_eq_append_getElem h, List.getD_eq_getElem?_getD, List.getElem?_eq_getElem h]
  rfl

set_option maxHeartbeats 1000000 in
theorem appendBytes_any (B : Nat) (v : Value) (l : List UInt8) (ao : Option Addr) (n c : Nat) (s : List UInt8) (w : World) (hown : OwB w B v l) (hB : B ≤ w.heap.size) (hsl : s.length = n) (hsrc : Row8 w ao s) (hsep : ∀ b off, ao = some ⟨b, off, none⟩ → v.ownBlock ≠ some b) (hb : (l.length : Int) ≤ 1099511627776) (hn : (n : Int) ≤ 1048576) :
    Calls Try.prog 18 #[v, .slice ao n c] w fun e w' => ∃ v', e = .returned v' ∧ OwB w' B v' (l ++ s) ∧ w.grownBy w' v.ownBlock ∧ (∀ g, v'.ownBlock = some g → v.ownBlock = some g ∨ w.heap.size ≤ g) := by
  obtain ⟨va, vc, hv⟩ := hown.shape
  have HS := Lib.hid hsl
  have HR := Lib.hid hsrc
  have HP := Lib.hid hsep
  have HV := Lib.hid hv
  rw [hv]
  clear hsl hsrc hsep hv
  go_enter Try.func18, Try.ntmps18
  go_wp2_with fail
  go_loopw [0, 5] (fun u i wr => ∃ (k : Nat) (X : List UInt8), k ≤ n ∧ i = .int .i64 k ∧ Hid (X = l ++ s.take k) ∧ (X.length : Int) ≤ 1099511627776 + k ∧ OwB wr B u X ∧ Hid (w.grownBy wr v.ownBlock) ∧ Hid (∀ g, u.ownBlock = some g → v.ownBlock = some g ∨ w.heap.size ≤ g)) (fun _ i _ => n - (intOf i).toNat)
  case atStart => exact ⟨0, l, Nat.zero_le _, rfl, by show _ = _; simp, by omega, by rw [← HV.out]; exact hown, ⟨rfl, rfl, rfl, Nat.le_refl _, fun _ _ _ => rfl⟩, fun g hg => .inl (by rw [HV.out]; exact hg)⟩
  case round =>
    obtain ⟨k, X, hk, rfl, hX, hXl, hu, hgr, hat⟩ := hrel
    by_cases hlt : k < n
    · rcases HR.out with h0 | ⟨b, off, hao, hcell⟩
      · have := HS.out; rw [h0] at this; simp at this; omega
      subst hao
      have hcb : wr.cell? ⟨b, off + k, none⟩ = some (.int .u8 (byteAt s k)) := hgr.out.cell (hcell k (by have := HS.out; omega)) (fun e => HP.out b off rfl e.symm)
      have hBr : B ≤ wr.heap.size := by have := hgr.out.size; omega
      have hki : (k : Int) < (n : Int) := by omega
      clear hcell hown
      go_wp2_with (at_builtin; refine wpList_appB rfl _ _ rfl B u0 X rfl (s.getD k 0) (byteAt s k) rfl hu rfl (by omega) hBr ?_)
      intro v' w1 X1 hX1 hL1 hs1 hg1 ha1
      have HX1 : Hid (X1 = l ++ s.take (k + 1)) := by
        have h1 := hX1.out
        have h2 := hX.out
        have h3 := take_snoc8 s k (by have := HS.out; omega)
        show X1 = l ++ s.take (k + 1)
        rw [h1, h2, h3, List.append_assoc, List.getD_eq_getElem?_getD]
      have HG1 := Lib.hid (sep_trans hgr.out hat.out hg1.out)
      have HA1 : Hid (∀ g, v'.ownBlock = some g → v.ownBlock = some g ∨ w.heap.size ≤ g) := fun g hg => by
        rcases ha1.out g hg with h | h
        · exact hat.out g h
        · right; have := hgr.out.size; omega
      clear hX1 hg1 ha1 hu
      go_wp2_with fail
      go_roundw
      case rel => exact ⟨k + 1, X1, by omega, by go_num, HX1, by omega, hs1, HG1, HA1⟩
      case measure => simp [intOf]; omega
    · go_wp2_with fail
      go_ret
      have hg' := hgr.out
      have ha' := hat.out
      rw [HV.out] at hg' ha'
      refine ⟨_, rfl, ?_, hg', ha'⟩
      have e : X = l ++ s := by rw [hX.out, List.take_of_length_le (by have := HS.out; omega)]
      rw [← e]
      exact hu

set_option maxHeartbeats 1000000 in
theorem wire_any (ao : Option Addr) (n c : Nat) (ss : List ByteArray) (w : World) (hr : RowS w ao n ss) (hl : Legal ss) (hn : (n : Int) ≤ 4096) :
    Calls Try.prog 19 #[.slice ao n c] w fun e w' => ∃ K0, Until ss K0 ∧ e = .returned (.int .i64 ((wire ss K0 : Nat) : Int)) ∧ w' = w := by
  have HR := Lib.hid hr
  have HL := Lib.hid hl
  clear hr hl
  go_enter Try.func19, Try.ntmps19
  go_wp2_with fail
  go_loop [3, 4] (fun z i => ∃ k x : Nat, k ≤ n ∧ i = .int .i64 k ∧ z = .int .i64 x ∧ Hid (x = wire ss k) ∧ (x : Int) ≤ 64 * k ∧ Hid (∀ j, j < k → wire ss j ≤ 254)) (fun _ i => n - (intOf i).toNat)
  case atStart => exact ⟨0, 0, Nat.zero_le _, rfl, rfl, rfl, by omega, fun j hj => by omega⟩
  case round =>
    obtain ⟨k, x, hk, rfl, rfl, hx, hx64, hbel⟩ := hrel
    by_cases hlt : (k : Int) < (n : Int)
    · by_cases hx2 : (x : Int) ≤ 254
      · obtain ⟨b, off, hao, hc⟩ := HR.out.2 k (by omega)
        subst hao
        have hs := HL.out k (by have := HR.out.1; omega)
        obtain ⟨st, hst⟩ : ∃ st, st = strAt ss k := ⟨_, rfl⟩
        rw [← hst] at hc hs
        have s1 : (1 : Int) ≤ (st.size : Int) := by omega
        have s2 : (st.size : Int) ≤ 63 := by omega
        have HST := Lib.hid hst
        clear hst hs
        go_wp2_with fail
        go_round
        case rel =>
          refine ⟨k + 1, x + (1 + st.size), by omega, by go_num, by go_num, ?_, by omega, fun j hj => ?_⟩
          · show x + (1 + st.size) = wire ss (k + 1)
            simp only [wire]
            rw [← hx.out, ← HST.out]
          · by_cases e : j = k
            · rw [e, ← hx.out]; omega
            · exact hbel.out j (by omega)
        case measure => simp [intOf]; omega
      · have hd : decide ((x : Int) ≤ 254) = false := by simp; omega
        go_wp2_with fail
        go_ret
        exact ⟨k, ⟨by have := HR.out.1; omega, hbel.out, .inr (by have := hx.out; omega)⟩, by rw [← hx.out]; rfl, rfl⟩
    · have hd : decide ((k : Int) < (n : Int)) = false := by simp; omega
      go_wp2_with fail
      go_ret
      exact ⟨k, ⟨by have := HR.out.1; omega, hbel.out, .inl (by have := HR.out.1; omega)⟩, by rw [← hx.out]; rfl, rfl⟩

end Go.Proofs.Qxb6605469a
