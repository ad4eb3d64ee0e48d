import Derived.Test.Qxb6605469aStrs
namespace Go.Proofs.Qxb6605469a
open Go.RowKit

/-- It returned a bool. -/
def ABool (e : Ending) : Prop := ∃ b, e = .returned (.bool b)
theorem abool (b : Bool) : ABool (.returned (.bool b)) := ⟨b, rfl⟩

set_option maxHeartbeats 2000000 in
theorem bytes17_any (a0 a1 a2 : Option Addr) (n0 c0 n1 c1 n2 c2 : Nat) (ss : List ByteArray) (w : World) (h0 : (n0 : Int) ≤ 9223372036854775807) (h1 : (n1 : Int) ≤ 9223372036854775807) (h2 : (n2 : Int) ≤ 9223372036854775807) (hr : RowS w a1 n1 ss) (hs : ∀ j, j < n1 → (strAt ss j).size ≤ maxLen) :
    Calls Try.prog 17 #[.slice a0 n0 c0, .slice a1 n1 c1, .slice a2 n2 c2] w fun e w' => ABool e ∧ w' = w := by
  have HR := Lib.hid hr
  have HS := Lib.hid hs
  clear hr hs
  by_cases g0 : (1048576 : Int) < (n0 : Int)
  · go_enter Try.func17, Try.ntmps17
    go_wp2
    go_ret
    exact ⟨abool _, rfl⟩
  by_cases g1 : (1048576 : Int) < (n1 : Int)
  · go_enter Try.func17, Try.ntmps17
    go_wp2
    go_ret
    exact ⟨abool _, rfl⟩
  by_cases g2 : (1048576 : Int) < (n0 : Int) + (n1 : Int)
  · go_enter Try.func17, Try.ntmps17
    go_wp2
    go_ret
    exact ⟨abool _, rfl⟩
  go_enter Try.func17, Try.ntmps17
  go_wp2
  go_loop [7, 8] (fun z i => ∃ (k : Nat) (s : Int), k ≤ n1 ∧ i = .int .i64 k ∧ 0 ≤ s ∧ s ≤ 1048576 ∧ z = .int .i64 s) (fun _ i => n1 - (intOf i).toNat)
  case atStart => exact ⟨0, _, Nat.zero_le _, rfl, by omega, by omega, rfl⟩
  case round =>
    obtain ⟨k, s, hk, rfl, hs0, hs1, rfl⟩ := hrel
    by_cases hlt : k < n1
    · obtain ⟨b, off, hao, hc⟩ := HR.out.2 k hlt
      subst hao
      have hsz := HS.out k hlt
      unfold maxLen at hsz
      obtain ⟨st, hst⟩ : ∃ st, st = strAt ss k := ⟨_, rfl⟩
      rw [← hst] at hc hsz
      have hsz' : (st.size : Int) ≤ 9223372036854775807 := by omega
      have HST := Lib.hid hst
      clear hst hsz
      by_cases q1 : (1048576 : Int) < (st.size : Int)
      · go_wp2
        go_ret
        exact ⟨abool _, rfl⟩
      by_cases q2 : (1048576 : Int) < s + (st.size : Int)
      · go_wp2
        go_ret
        exact ⟨abool _, rfl⟩
      go_wp2
      go_round
      case rel => exact ⟨k + 1, s + st.size, by omega, by go_num, by omega, by omega, rfl⟩
      case measure => simp [intOf]; omega
    · by_cases q1 : (1048576 : Int) < (n2 : Int)
      · go_wp2
        go_ret
        exact ⟨abool _, rfl⟩
      by_cases q2 : (1048576 : Int) < s + (n2 : Int)
      · go_wp2
        go_ret
        exact ⟨abool _, rfl⟩
      go_wp2
      go_ret
      exact ⟨abool _, rfl⟩

set_option maxHeartbeats 2000000 in
theorem bytes20_any (a0 a1 a2 : Option Addr) (n0 c0 n1 c1 n2 c2 : Nat) (bb : Bool) (x y : Int) (ss : List ByteArray) (w : World) (h0 : (n0 : Int) ≤ 9223372036854775807) (h1 : (n1 : Int) ≤ 9223372036854775807) (h2 : (n2 : Int) ≤ 9223372036854775807) (hr : RowS w a1 n1 ss) (hs : ∀ j, j < n1 → (strAt ss j).size ≤ maxLen) :
    Calls Try.prog 20 #[.slice a0 n0 c0, .slice a1 n1 c1, .bool bb, .int .u8 x, .int .u8 y, .slice a2 n2 c2] w fun e w' => ABool e ∧ w' = w := by
  have HR := Lib.hid hr
  have HS := Lib.hid hs
  clear hr hs
  by_cases g0 : (1048576 : Int) < (n0 : Int)
  · go_enter Try.func20, Try.ntmps20
    go_wp2
    go_ret
    exact ⟨abool _, rfl⟩
  by_cases g1 : (1048576 : Int) < (n1 : Int)
  · go_enter Try.func20, Try.ntmps20
    go_wp2
    go_ret
    exact ⟨abool _, rfl⟩
  by_cases g2 : (1048576 : Int) < (n0 : Int) + (n1 : Int)
  · go_enter Try.func20, Try.ntmps20
    go_wp2
    go_ret
    exact ⟨abool _, rfl⟩
  go_enter Try.func20, Try.ntmps20
  go_wp2
  go_loop [13, 14] (fun z i => ∃ (k : Nat) (s : Int), k ≤ n1 ∧ i = .int .i64 k ∧ 0 ≤ s ∧ s ≤ 1048576 ∧ z = .int .i64 s) (fun _ i => n1 - (intOf i).toNat)
  case atStart => exact ⟨0, _, Nat.zero_le _, rfl, by omega, by omega, rfl⟩
  case round =>
    obtain ⟨k, s, hk, rfl, hs0, hs1, rfl⟩ := hrel
    by_cases hlt : k < n1
    · obtain ⟨b, off, hao, hc⟩ := HR.out.2 k hlt
      subst hao
      have hsz := HS.out k hlt
      unfold maxLen at hsz
      obtain ⟨st, hst⟩ : ∃ st, st = strAt ss k := ⟨_, rfl⟩
      rw [← hst] at hc hsz
      have hsz' : (st.size : Int) ≤ 9223372036854775807 := by omega
      have HST := Lib.hid hst
      clear hst hsz
      by_cases q1 : (1048576 : Int) < (st.size : Int)
      · go_wp2
        go_ret
        exact ⟨abool _, rfl⟩
      by_cases q2 : (1048576 : Int) < s + (st.size : Int)
      · go_wp2
        go_ret
        exact ⟨abool _, rfl⟩
      go_wp2
      go_round
      case rel => exact ⟨k + 1, s + st.size, by omega, by go_num, by omega, by omega, rfl⟩
      case measure => simp [intOf]; omega
    · by_cases q1 : (1048576 : Int) < (n2 : Int)
      · go_wp2
        go_ret
        exact ⟨abool _, rfl⟩
      by_cases q2 : (1048576 : Int) < s + (n2 : Int)
      · go_wp2
        go_ret
        exact ⟨abool _, rfl⟩
      go_wp2
      go_ret
      exact ⟨abool _, rfl⟩

end Go.Proofs.Qxb6605469a
