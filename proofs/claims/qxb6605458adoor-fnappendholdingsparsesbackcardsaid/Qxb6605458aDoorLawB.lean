import Derived.Test.Qxb6605458aDoorHoldings
import Derived.Test.Qxb6605458aDoorLawA
namespace Go.Proofs.Qxb6605458aDoor
open Go.RowKit

theorem slb_row {w : World} {B : Nat} {v : Value} {l : List UInt8} (h : SlB w B v l) (hn : 0 < l.length) : ∃ g cap, v = .slice (some ⟨g, 0, none⟩) l.length cap ∧ l.length ≤ cap ∧ cap ≤ maxLen ∧ ∀ j, j < l.length → w.cell? ⟨g, j, none⟩ = some (.int .u8 (byteAt l j)) := by
  rcases h with h | ⟨g, _, _, h⟩
  · obtain ⟨g, cap, h1, h2, h3, _, _, h4⟩ := own_row h hn
    exact ⟨g, cap, h1, h2, h3, h4⟩
  · obtain ⟨g, cap, h1, h2, h3, _, _, h4⟩ := own_row h hn
    exact ⟨g, cap, h1, h2, h3, h4⟩

theorem byteAt_str (s : ByteArray) (t : Nat) (h : t < s.size) : byteAt s.data.toList t = (s[t].toNat : Int) := by
  unfold byteAt
  rw [List.getD_eq_getElem?_getD, List.getElem?_eq_getElem (by simpa using h)]
  rfl

set_option maxHeartbeats 400000 in
theorem zzholdings_any (B : Nat) (i s : Nat) (I S : Int) (hI : I = (i : Int)) (hS : S = (s : Int)) (hi : i ≤ 99999) (hs : s ≤ 1073741824) (code : ByteArray) (hc : code.size ≤ 4096) (sv : Value) (l : List UInt8) (w : World)
    (hslc : SlB w B sv l) (hB : B ≤ w.heap.size) (hn : l.length ≤ 1048576) (htab : Tab B w) :
    Calls Tryd.prog 13 #[sv, .string code, .int .i64 I, .int .i64 S] w fun e w' => ∃ v', e = .returned v' ∧ SlB w' B v' (l ++ lines code.data.toList i s 200) ∧ Below B w w' := by
  have HP := Lib.hid (holdings_any B i s I S hI hS hi hs code hc sv l w hslc hB hn htab)
  obtain ⟨a, c, hv⟩ := hslc.shape
  subst hv
  clear hslc hI hS
  go_enter Tryd.func13, Tryd.ntmps13
  go_wp2_with (go_at_call 17; refine HP.out.mono ?_; rintro e w1 ⟨v', rfl, hown, hb1⟩)
  go_ret
  exact ⟨_, rfl, hown, hb1⟩

set_option maxRecDepth 100000 in
set_option maxHeartbeats 1000000 in
theorem law4_early (ao : Option Addr) (n c : Nat) (code : ByteArray) (i s : Int) (w : World) (hn : n ≤ maxLen) (hc : code.size ≤ maxLen)
    (h : 1048576 < n + code.size ∨ (n + code.size ≤ 1048576 ∧ (4096 < code.size ∨ (code.size ≤ 4096 ∧ (i < 0 ∨ 99999 < i ∨ (0 ≤ i ∧ i ≤ 99999 ∧ (s < 0 ∨ 1073741824 < s))))))) :
    Calls Tryd.prog 4 #[.slice ao n c, .string code, .int .i64 i, .int .i64 s] w fun e w' => e = .returned (.bool true) ∧ w' = w := by
  rcases h with h | ⟨h, h2⟩
  · have hd : decide (n + code.size ≤ 1048576) = false := by simp; omega
    go_enter Tryd.func4, Tryd.ntmps4
    go_wp2_with (go_at_call 12; refine (bytes12_any _ _ _ _ _ _ _ hn hc).mono ?_; rintro e w' ⟨rfl, rfl⟩)
    go_ret
    exact ⟨rfl, rfl⟩
  · have hd : decide (n + code.size ≤ 1048576) = true := by simp; omega
    rcases h2 with h2 | ⟨h2, h3⟩
    · go_enter Tryd.func4, Tryd.ntmps4
      go_wp2_with (go_at_call 12; refine (bytes12_any _ _ _ _ _ _ _ hn hc).mono ?_; rintro e w' ⟨rfl, rfl⟩)
      go_ret
      exact ⟨rfl, rfl⟩
    · rcases h3 with h3 | h3 | ⟨h3, h4, h5⟩
      · go_enter Tryd.func4, Tryd.ntmps4
        go_wp2_with (go_at_call 12; refine (bytes12_any _ _ _ _ _ _ _ hn hc).mono ?_; rintro e w' ⟨rfl, rfl⟩)
        go_ret
        exact ⟨rfl, rfl⟩
      · go_enter Tryd.func4, Tryd.ntmps4
        go_wp2_with (go_at_call 12; refine (bytes12_any _ _ _ _ _ _ _ hn hc).mono ?_; rintro e w' ⟨rfl, rfl⟩)
        go_ret
        exact ⟨rfl, rfl⟩
      · rcases h5 with h5 | h5
        · go_enter Tryd.func4, Tryd.ntmps4
          go_wp2_with (go_at_call 12; refine (bytes12_any _ _ _ _ _ _ _ hn hc).mono ?_; rintro e w' ⟨rfl, rfl⟩)
          go_ret
          exact ⟨rfl, rfl⟩
        · go_enter Tryd.func4, Tryd.ntmps4
          go_wp2_with (go_at_call 12; refine (bytes12_any _ _ _ _ _ _ _ hn hc).mono ?_; rintro e w' ⟨rfl, rfl⟩)
          go_ret
          exact ⟨rfl, rfl⟩

theorem fixed_at (ao : Option Addr) (n c : Nat) (l : List UInt8) (pos m : Nat) (p M V : Int) (w : World) (hp : p = pos) (hM : M = m) (hn : n ≤ 9223372036854775807) (hl : l.length = n) (hrow : Row8 w ao l) (hm : m ≤ 19) (hpm : pos + m ≤ n)
    (hdig : ∀ j, j < m → 48 ≤ byteAt l (pos + j) ∧ byteAt l (pos + j) ≤ 57) (hV : valAt l pos m = V) :
    Calls Tryd.prog 11 #[.slice ao n c, .int .i64 p, .int .i64 M] w fun e w' => e = .returned (.tuple #[.int .u64 V, .bool true]) ∧ w' = w := by
  subst hp; subst hM; subst hV
  exact fixed_any ao n c l pos m w hn hl hrow hm hpm hdig

theorem run_at (ao : Option Addr) (n c : Nat) (l : List UInt8) (pos k : Nat) (p V : Int) (w : World) (hp : p = pos) (hn : n ≤ 9223372036854775807) (hl : l.length = n) (hrow : Row8 w ao l) (hk1 : 1 ≤ k) (hk : k ≤ 17) (hpk : pos + k < n)
    (hdig : ∀ j, j < k → 48 ≤ byteAt l (pos + j) ∧ byteAt l (pos + j) ≤ 57) (hend : byteAt l (pos + k) < 48) (h0 : 49 ≤ byteAt l pos) (hV : valAt l pos k = V) :
    Calls Tryd.prog 15 #[.slice ao n c, .int .i64 p] w fun e w' => e = .returned (.tuple #[.int .u64 V, .int .i64 (k : Int), .bool true]) ∧ w' = w := by
  subst hV
  exact run_any ao n c l pos k p w hp hn hl hrow hk1 hk hpk hdig hend h0

theorem lines_pos (code : List UInt8) (i s : Nat) : 0 < (lines code i s 200).length := by
  have h := lineAt (R := line code i s 200) (P := 0) (code := code) (i := i) (s := s) (j := 200) (by decide) (by decide) (fun t _ => by rw [Nat.zero_add])
  have h2 : (lines code i s 200).length = (lines code i s 199).length + (line code i s 200).length := by rw [lines_succ, List.length_append]
  rw [h2, h.len]
  omega

theorem row8_drew {w : World} {ao : Option Addr} {l : List UInt8} (h : Row8 w ao l) (q : Nat) : Row8 (w.drewN q) ao l := by
  rcases h with h | ⟨b, off, h1, h2⟩
  · exact .inl h
  · exact .inr ⟨b, off, h1, fun j hj => h2 j hj⟩

end Go.Proofs.Qxb6605458aDoor
