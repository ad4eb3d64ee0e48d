import Derived.Test.Qxb6605458aDoorRows
import Derived.Test.Qxb6605458aDoorPlain
import Derived.WalkKit
import Derived.WalkSpells
import Derived.WalkLawsBesides
import Derived.Deep.QuietTactic
import Derived.BigQuiet
namespace Go.Proofs.Qxb6605458aDoor
open Go.RowKit

theorem ret_int {k : IntKind} {a b : Int} (h : a = b) : Ending.returned (.int k a) = .returned (.int k b) := by rw [h]

/-- A run of bytes that a slice value at 'ao' leads to. -/
def Row8 (w : World) (ao : Option Addr) (l : List UInt8) : Prop :=
  l = [] ∨ ∃ b off, ao = some ⟨b, off, none⟩ ∧ ∀ j, j < l.length → w.cell? ⟨b, off + j, none⟩ = some (.int .u8 (byteAt l j))

set_option maxHeartbeats 400000 in
theorem bytes5_any (a : Option Addr) (n c : Nat) (x y : Int) (w : World) (hn : n ≤ maxLen) :
    Calls Tryd.prog 5 #[.slice a n c, .int .i64 x, .int .i64 y] w fun e w' => e = .returned (.bool (decide (n ≤ 1048576))) ∧ w' = w := by
  unfold maxLen at hn
  by_cases h : n ≤ 1048576
  · go_enter Tryd.func5, Tryd.ntmps5
    go_wp2
    go_ret
    exact ⟨by simp [h], rfl⟩
  · go_enter Tryd.func5, Tryd.ntmps5
    go_wp2
    go_ret
    exact ⟨by simp [h], rfl⟩

theorem neg_wrap (n : Int) (h0 : -9223372036854775808 ≤ n) (h : n < 0) : IntKind.u64.wrap (-IntKind.u64.wrap n) = (n.natAbs : Int) := by
  rw [IntKind.wrap_u64, IntKind.wrap_u64]
  omega

set_option maxHeartbeats 400000 in
theorem magnitude_any (n : Int) (w : World) (h0 : -9223372036854775808 ≤ n) (h1 : n ≤ 9223372036854775807) :
    Calls Tryd.prog 9 #[.int .i64 n] w fun e w' => e = .returned (.int .u64 (n.natAbs : Int)) ∧ w' = w := by
  by_cases h : n < 0
  · have e := neg_wrap n h0 h
    have E : Hid (IntKind.u64.wrap (-IntKind.u64.wrap n) = (n.natAbs : Int)) := e
    clear e
    go_enter Tryd.func9, Tryd.ntmps9
    go_wp2
    go_ret
    exact ⟨ret_int E.out, rfl⟩
  · go_enter Tryd.func9, Tryd.ntmps9
    go_wp2
    go_ret
    exact ⟨ret_int (by omega), rfl⟩

set_option maxHeartbeats 400000 in
theorem count_any (u : Nat) (w : World) (h1 : u ≤ 18446744073709551615) :
    Calls Tryd.prog 10 #[.int .u64 (u : Int)] w fun e w' => e = .returned (.int .i64 (Lib.nDigits u : Int)) ∧ w' = w := by
  have hnd : Lib.nDigits u ≤ 20 := nDigits_le 20 u (by decide) (by omega)
  go_enter Tryd.func10, Tryd.ntmps10
  go_wp2
  go_loop [0, 3] (fun t c => ∃ x k : Nat, x ≤ u ∧ t = .int .u64 x ∧ c = .int .i64 (k + 1 : Nat) ∧ Lib.nDigits x + k = Lib.nDigits u) (fun t _ => (intOf t).toNat)
  case atStart => exact ⟨u, 0, Nat.le_refl _, rfl, rfl, rfl⟩
  case round =>
    obtain ⟨x, k, hx, rfl, rfl, hk⟩ := hrel
    have hp := Lib.nDigits_pos x
    by_cases h10 : x < 10
    · have hs := Lib.nDigits_small h10
      have HK : Hid (Lib.nDigits x + k = Lib.nDigits u) := hk
      have HS : Hid (Lib.nDigits x = 1) := hs
      clear hk hs hp
      go_wp2
      go_ret
      have := HK.out
      have := HS.out
      exact ⟨ret_int (by omega), rfl⟩
    · have hs := Lib.nDigits_big h10
      have HK : Hid (Lib.nDigits x + k = Lib.nDigits u) := hk
      have hkb : k ≤ 20 := by omega
      have HS : Hid (Lib.nDigits x = Lib.nDigits (x / 10) + 1) := hs
      clear hk hs hp
      go_wp2
      go_round
      case rel =>
        have := HK.out
        have := HS.out
        exact ⟨x / 10, k + 1, by omega, by go_num, by go_num, by omega⟩
      case measure => simp [intOf]; omega

set_option maxHeartbeats 400000 in
theorem fixed_any (ao : Option Addr) (n c : Nat) (l : List UInt8) (pos m : Nat) (w : World) (hn : n ≤ 9223372036854775807) (hl : l.length = n) (hrow : Row8 w ao l) (hm : m ≤ 19) (hpm : pos + m ≤ n)
    (hdig : ∀ j, j < m → 48 ≤ byteAt l (pos + j) ∧ byteAt l (pos + j) ≤ 57) :
    Calls Tryd.prog 11 #[.slice ao n c, .int .i64 (pos : Int), .int .i64 (m : Int)] w fun e w' => e = .returned (.tuple #[.int .u64 (valAt l pos m), .bool true]) ∧ w' = w := by
  have HL : Hid (l.length = n) := hl
  clear hl
  go_enter Tryd.func11, Tryd.ntmps11
  go_wp2
  go_loop [8, 9] (fun v i => ∃ k : Nat, k ≤ m ∧ i = .int .i64 k ∧ v = .int .u64 (valAt l pos k)) (fun _ i => m - (intOf i).toNat)
  case atStart => exact ⟨0, Nat.zero_le _, rfl, rfl⟩
  case round =>
    obtain ⟨k, hk, rfl, rfl⟩ := hrel
    by_cases hlt : k < m
    · obtain ⟨hv0, hv1⟩ := valAt_small l pos k (by omega) (fun j hj => hdig j (by omega))
      have hd := hdig k hlt
      rcases hrow with rfl | ⟨b, off, rfl, hcell⟩
      · have := HL.out; simp at this; omega
      · have hc : w.cell? ⟨b, off + (pos + k), none⟩ = some (.int .u8 (byteAt l (pos + k))) := hcell _ (by have := HL.out; omega)
        have hbl : pos + k < n := by omega
        clear hcell hdig
        go_wp2
        go_round
        case rel => exact ⟨_, _, .int .u64 (valAt l pos (k + 1)), .int .i64 ((k + 1 : Nat) : Int), ⟨k + 1, by omega, rfl, rfl⟩, rfl, rfl, rfl, by go_num⟩
        case measure => simp [intOf]; omega
    · obtain rfl : k = m := by omega
      clear hdig
      go_wp2
      go_ret2
      exact ⟨rfl, rfl⟩

set_option maxHeartbeats 400000 in
theorem prefix_any (ar ap : Option Addr) (n c m d : Nat) (lr lp : List UInt8) (w : World) (hn : n ≤ 9223372036854775807) (hln : lr.length = n) (hlm : lp.length = m) (hr : Row8 w ar lr) (hp : Row8 w ap lp) (hmn : m ≤ n)
    (hpre : ∀ j, j < m → byteAt lr j = byteAt lp j) :
    Calls Tryd.prog 8 #[.slice ar n c, .slice ap m d] w fun e w' => e = .returned (.bool true) ∧ ∃ k, w' = w.drewN k := by
  have HN : Hid (lr.length = n) := hln
  have HM : Hid (lp.length = m) := hlm
  have HP : Hid (∀ j, j < m → byteAt lr j = byteAt lp j) := hpre
  clear hln hlm hpre
  go_enter Tryd.func8, Tryd.ntmps8
  go_wp2
  go_loopw [5] (fun i wr => ∃ k q : Nat, k ≤ m ∧ i = .int .i64 k ∧ wr = w.drewN q) (fun i _ => m - (intOf i).toNat)
  case atStart => exact ⟨0, 0, Nat.zero_le _, rfl, rfl⟩
  case round =>
    obtain ⟨k, q, hk, rfl, rfl⟩ := hrel
    by_cases hlt : k < m
    · rcases hr with rfl | ⟨b, off, rfl, hcr⟩
      · have := HN.out; simp at this; omega
      rcases hp with rfl | ⟨b', off', rfl, hcp⟩
      · have := HM.out; simp at this; omega
      have c1 : w.cell? ⟨b, off + k, none⟩ = some (.int .u8 (byteAt lr k)) := hcr _ (by have := HN.out; omega)
      have c2 : w.cell? ⟨b', off' + k, none⟩ = some (.int .u8 (byteAt lr k)) := by rw [HP.out k hlt]; exact hcp _ (by have := HM.out; omega)
      have hkn : (k : Int) < (n : Int) := by omega
      have hkm : (k : Int) < (m : Int) := by omega
      clear hcr hcp
      go_wp2
      go_quiet (fail)
      go_wp2
      go_roundw
      case rel => exact ⟨k + 1, _, by omega, by go_num, rfl⟩
      case measure => simp [intOf]; omega
    · go_wp2
      go_ret
      exact ⟨rfl, _, rfl⟩
end Go.Proofs.Qxb6605458aDoor
