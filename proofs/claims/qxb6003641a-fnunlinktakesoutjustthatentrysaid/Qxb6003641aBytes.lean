import Derived.Test.Qxb6003641aRun
namespace Go.Proofs.Qxb6003641a
open Go.RowKit

/-- It returned a bool, and where that is true, P. -/
def YesIf (e : Ending) (P : Prop) : Prop := ∃ b, e = .returned (.bool b) ∧ (b = true → P)
theorem yes_no (P : Prop) : YesIf (.returned (.bool false)) P := ⟨false, rfl, fun h => by cases h⟩

set_option maxHeartbeats 2000000 in
theorem bytes7_any (a0 a1 : Option Addr) (rn c0 hn c1 : Nat) (rs : List ByteArray) (w : World) (h0 : (rn : Int) ≤ 9223372036854775807) (h1 : (hn : Int) ≤ 9223372036854775807) (hr : RowS w a0 rn rs) (hs : ∀ s ∈ rs, s.size ≤ maxLen) :
    Calls Try.prog 7 #[.slice a0 rn c0, .slice a1 hn c1] w fun e w' => YesIf e (∀ s ∈ rs, s.size ≤ 1048576) ∧ w' = w := by
  have HR := Lib.hid hr
  have HS := Lib.hid hs
  clear hr hs
  by_cases g0 : (1048576 : Int) < (rn : Int)
  · go_enter Try.func7, Try.ntmps7
    go_wp2
    go_ret
    exact ⟨yes_no _, rfl⟩
  go_enter Try.func7, Try.ntmps7
  go_wp2
  go_loop [5, 6] (fun z i => ∃ (k : Nat) (s : Int), k ≤ rn ∧ i = .int .i64 k ∧ 0 ≤ s ∧ s ≤ 1048576 ∧ z = .int .i64 s ∧ Hid (∀ j, j < k → (strAt rs j).size ≤ 1048576)) (fun _ i => rn - (intOf i).toNat)
  case atStart => exact ⟨0, _, Nat.zero_le _, rfl, by omega, by omega, rfl, fun j hj => by omega⟩
  case round =>
    obtain ⟨k, s, hk, rfl, hs0, hs1, rfl, hsm⟩ := hrel
    by_cases hlt : k < rn
    · obtain ⟨b, off, hao, hc⟩ := HR.out.2 k hlt
      subst hao
      have hsz := HS.out (strAt rs k) (strAt_mem rs k (by have := HR.out.1; omega))
      unfold maxLen at hsz
      obtain ⟨st, hst⟩ : ∃ st, st = strAt rs k := ⟨_, rfl⟩
      rw [← hst] at hc hsz
      have hsz' : (st.size : Int) ≤ 9223372036854775807 := by omega
      have HST := Lib.hid hst
      clear hst hsz
      by_cases q1 : (1048576 : Int) < (st.size : Int)
      · go_wp2
        go_ret
        exact ⟨yes_no _, rfl⟩
      by_cases q2 : (1048576 : Int) < s + (st.size : Int)
      · go_wp2
        go_ret
        exact ⟨yes_no _, rfl⟩
      go_wp2
      go_round
      case rel => exact ⟨k + 1, s + st.size, by omega, by go_num, by omega, by omega, rfl, fun j hj => by
        by_cases e : j = k
        · rw [e, ← HST.out]; omega
        · exact hsm.out j (by omega)⟩
      case measure => simp [intOf]; omega
    · by_cases q1 : (1048576 : Int) < (hn : Int)
      · go_wp2
        go_ret
        exact ⟨yes_no _, rfl⟩
      by_cases q2 : (1048576 : Int) < s + (hn : Int)
      · go_wp2
        go_ret
        exact ⟨yes_no _, rfl⟩
      go_wp2
      go_ret
      refine ⟨⟨_, rfl, fun _ s hs => ?_⟩, rfl⟩
      obtain ⟨j, hj, e⟩ := List.getElem_of_mem hs
      have := hsm.out j (by have := HR.out.1; omega)
      rw [strAt_get rs j hj, e] at this
      exact this

set_option maxHeartbeats 2000000 in
theorem bytes13_any (a0 a1 : Option Addr) (rn c0 hn c1 : Nat) (x : ByteArray) (rs : List ByteArray) (w : World) (h0 : (rn : Int) ≤ 9223372036854775807) (h1 : (hn : Int) ≤ 9223372036854775807) (hx : (x.size : Int) ≤ 9223372036854775807) (hr : RowS w a0 rn rs) (hs : ∀ s ∈ rs, s.size ≤ maxLen) :
    Calls Try.prog 13 #[.slice a0 rn c0, .slice a1 hn c1, .string x] w fun e w' => YesIf e (∀ s ∈ rs, s.size ≤ 1048576) ∧ w' = w := by
  have HR := Lib.hid hr
  have HS := Lib.hid hs
  clear hr hs
  by_cases g0 : (1048576 : Int) < (rn : Int)
  · go_enter Try.func13, Try.ntmps13
    go_wp2
    go_ret
    exact ⟨yes_no _, rfl⟩
  go_enter Try.func13, Try.ntmps13
  go_wp2
  go_loop [7, 8] (fun z i => ∃ (k : Nat) (s : Int), k ≤ rn ∧ i = .int .i64 k ∧ 0 ≤ s ∧ s ≤ 1048576 ∧ z = .int .i64 s ∧ Hid (∀ j, j < k → (strAt rs j).size ≤ 1048576)) (fun _ i => rn - (intOf i).toNat)
  case atStart => exact ⟨0, _, Nat.zero_le _, rfl, by omega, by omega, rfl, fun j hj => by omega⟩
  case round =>
    obtain ⟨k, s, hk, rfl, hs0, hs1, rfl, hsm⟩ := hrel
    by_cases hlt : k < rn
    · obtain ⟨b, off, hao, hc⟩ := HR.out.2 k hlt
      subst hao
      have hsz := HS.out (strAt rs k) (strAt_mem rs k (by have := HR.out.1; omega))
      unfold maxLen at hsz
      obtain ⟨st, hst⟩ : ∃ st, st = strAt rs k := ⟨_, rfl⟩
      rw [← hst] at hc hsz
      have hsz' : (st.size : Int) ≤ 9223372036854775807 := by omega
      have HST := Lib.hid hst
      clear hst hsz
      by_cases q1 : (1048576 : Int) < (st.size : Int)
      · go_wp2
        go_ret
        exact ⟨yes_no _, rfl⟩
      by_cases q2 : (1048576 : Int) < s + (st.size : Int)
      · go_wp2
        go_ret
        exact ⟨yes_no _, rfl⟩
      go_wp2
      go_round
      case rel => exact ⟨k + 1, s + st.size, by omega, by go_num, by omega, by omega, rfl, fun j hj => by
        by_cases e : j = k
        · rw [e, ← HST.out]; omega
        · exact hsm.out j (by omega)⟩
      case measure => simp [intOf]; omega
    · by_cases q1 : (1048576 : Int) < (hn : Int)
      · go_wp2
        go_ret
        exact ⟨yes_no _, rfl⟩
      by_cases q2 : (1048576 : Int) < s + (hn : Int)
      · go_wp2
        go_ret
        exact ⟨yes_no _, rfl⟩
      by_cases q3 : (1048576 : Int) < (x.size : Int)
      · go_wp2
        go_ret
        exact ⟨yes_no _, rfl⟩
      by_cases q4 : (1048576 : Int) < s + (hn : Int) + (x.size : Int)
      · go_wp2
        go_ret
        exact ⟨yes_no _, rfl⟩
      go_wp2
      go_ret
      refine ⟨⟨_, rfl, fun _ s hs => ?_⟩, rfl⟩
      obtain ⟨j, hj, e⟩ := List.getElem_of_mem hs
      have := hsm.out j (by have := HR.out.1; omega)
      rw [strAt_get rs j hj, e] at this
      exact this

set_option maxHeartbeats 2000000 in
theorem bytes21_any (a0 a1 : Option Addr) (rn c0 hn c1 : Nat) (x : ByteArray) (rs : List ByteArray) (w : World) (h0 : (rn : Int) ≤ 9223372036854775807) (h1 : (hn : Int) ≤ 9223372036854775807) (hx : (x.size : Int) ≤ 9223372036854775807) (hr : RowS w a0 rn rs) (hs : ∀ s ∈ rs, s.size ≤ maxLen) :
    Calls Try.prog 21 #[.slice a0 rn c0, .slice a1 hn c1, .string x] w fun e w' => YesIf e (∀ s ∈ rs, s.size ≤ 1048576) ∧ w' = w := by
  have HR := Lib.hid hr
  have HS := Lib.hid hs
  clear hr hs
  by_cases g0 : (1048576 : Int) < (rn : Int)
  · go_enter Try.func21, Try.ntmps21
    go_wp2
    go_ret
    exact ⟨yes_no _, rfl⟩
  go_enter Try.func21, Try.ntmps21
  go_wp2
  go_loop [7, 8] (fun z i => ∃ (k : Nat) (s : Int), k ≤ rn ∧ i = .int .i64 k ∧ 0 ≤ s ∧ s ≤ 1048576 ∧ z = .int .i64 s ∧ Hid (∀ j, j < k → (strAt rs j).size ≤ 1048576)) (fun _ i => rn - (intOf i).toNat)
  case atStart => exact ⟨0, _, Nat.zero_le _, rfl, by omega, by omega, rfl, fun j hj => by omega⟩
  case round =>
    obtain ⟨k, s, hk, rfl, hs0, hs1, rfl, hsm⟩ := hrel
    by_cases hlt : k < rn
    · obtain ⟨b, off, hao, hc⟩ := HR.out.2 k hlt
      subst hao
      have hsz := HS.out (strAt rs k) (strAt_mem rs k (by have := HR.out.1; omega))
      unfold maxLen at hsz
      obtain ⟨st, hst⟩ : ∃ st, st = strAt rs k := ⟨_, rfl⟩
      rw [← hst] at hc hsz
      have hsz' : (st.size : Int) ≤ 9223372036854775807 := by omega
      have HST := Lib.hid hst
      clear hst hsz
      by_cases q1 : (1048576 : Int) < (st.size : Int)
      · go_wp2
        go_ret
        exact ⟨yes_no _, rfl⟩
      by_cases q2 : (1048576 : Int) < s + (st.size : Int)
      · go_wp2
        go_ret
        exact ⟨yes_no _, rfl⟩
      go_wp2
      go_round
      case rel => exact ⟨k + 1, s + st.size, by omega, by go_num, by omega, by omega, rfl, fun j hj => by
        by_cases e : j = k
        · rw [e, ← HST.out]; omega
        · exact hsm.out j (by omega)⟩
      case measure => simp [intOf]; omega
    · by_cases q1 : (1048576 : Int) < (hn : Int)
      · go_wp2
        go_ret
        exact ⟨yes_no _, rfl⟩
      by_cases q2 : (1048576 : Int) < s + (hn : Int)
      · go_wp2
        go_ret
        exact ⟨yes_no _, rfl⟩
      by_cases q3 : (1048576 : Int) < (x.size : Int)
      · go_wp2
        go_ret
        exact ⟨yes_no _, rfl⟩
      by_cases q4 : (1048576 : Int) < s + (hn : Int) + (x.size : Int)
      · go_wp2
        go_ret
        exact ⟨yes_no _, rfl⟩
      go_wp2
      go_ret
      refine ⟨⟨_, rfl, fun _ s hs => ?_⟩, rfl⟩
      obtain ⟨j, hj, e⟩ := List.getElem_of_mem hs
      have := hsm.out j (by have := HR.out.1; omega)
      rw [strAt_get rs j hj, e] at this
      exact this

set_option maxHeartbeats 2000000 in
theorem fits_any (a0 a1 : Option Addr) (rn c0 hn c1 : Nat) (x : ByteArray) (rs : List ByteArray) (w : World) (h0 : (rn : Int) ≤ 9223372036854775807) (h1 : (hn : Int) ≤ 9223372036854775807) (hx : (x.size : Int) ≤ 9223372036854775807) (hr : RowS w a0 rn rs) (hs : ∀ s ∈ rs, s.size ≤ 1048576) :
    Calls Try.prog 8 #[.slice a0 rn c0, .slice a1 hn c1, .string x] w fun e w' => YesIf e (rn ≤ 4096 ∧ hn ≤ 4096) ∧ w' = w := by
  have HR := Lib.hid hr
  have HS := Lib.hid hs
  clear hr hs
  by_cases g0 : (4096 : Int) < (rn : Int)
  · go_enter Try.func8, Try.ntmps8
    go_wp2
    go_ret
    exact ⟨yes_no _, rfl⟩
  have d0 : decide ((4096 : Int) < (rn : Int)) = false := by simp; omega
  by_cases g1 : (4096 : Int) < (hn : Int)
  · go_enter Try.func8, Try.ntmps8
    go_wp2
    go_ret
    exact ⟨yes_no _, rfl⟩
  have d1 : decide ((4096 : Int) < (hn : Int)) = false := by simp; omega
  by_cases g2 : (1048576 : Int) < (x.size : Int)
  · go_enter Try.func8, Try.ntmps8
    go_wp2
    go_ret
    exact ⟨yes_no _, rfl⟩
  have d2 : decide ((1048576 : Int) < (x.size : Int)) = false := by simp; omega
  by_cases g3 : (1048576 : Int) < (hn : Int) + (x.size : Int)
  · go_enter Try.func8, Try.ntmps8
    go_wp2
    go_ret
    exact ⟨yes_no _, rfl⟩
  have d3 : decide ((1048576 : Int) < (hn : Int) + (x.size : Int)) = false := by simp; omega
  go_enter Try.func8, Try.ntmps8
  go_wp2
  go_loop [7, 8] (fun z i => ∃ (k : Nat) (s : Int), k ≤ rn ∧ i = .int .i64 k ∧ 0 ≤ s ∧ s ≤ 1048576 ∧ z = .int .i64 s) (fun _ i => rn - (intOf i).toNat)
  case atStart => exact ⟨0, _, Nat.zero_le _, rfl, by omega, by omega, rfl⟩
  case round =>
    obtain ⟨k, s, hk, rfl, hs0, hs1, rfl⟩ := hrel
    by_cases hlt : k < rn
    · obtain ⟨b, off, hao, hc⟩ := HR.out.2 k hlt
      subst hao
      have hsz := HS.out (strAt rs k) (strAt_mem rs k (by have := HR.out.1; omega))
      obtain ⟨st, hst⟩ : ∃ st, st = strAt rs k := ⟨_, rfl⟩
      rw [← hst] at hc hsz
      have hsz' : (st.size : Int) ≤ 1048576 := by omega
      clear hst hsz
      by_cases q2 : (1048576 : Int) < s + (16 + (st.size : Int))
      · go_wp2
        go_ret
        exact ⟨yes_no _, rfl⟩
      go_wp2
      go_round
      case rel => exact ⟨k + 1, s + (16 + st.size), by omega, by go_num, by omega, by omega, rfl⟩
      case measure => simp [intOf]; omega
    · go_wp2
      go_ret
      exact ⟨⟨_, rfl, fun _ => ⟨by omega, by omega⟩⟩, rfl⟩

end Go.Proofs.Qxb6003641a
