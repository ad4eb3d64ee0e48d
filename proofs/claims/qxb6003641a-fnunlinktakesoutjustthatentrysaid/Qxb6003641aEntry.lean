import Derived.Test.Qxb6003641aGet
namespace Go.Proofs.Qxb6003641a
open Go.RowKit

set_option maxHeartbeats 1000000 in
theorem entry_no (T : Nat) (m : Option Nat) (s : ByteArray) (k f : Value) (w : World) (t0 : w.cell? ⟨T, 0, none⟩ = some (.map m))
    (hlk : (Instr.lookup 29 (.map m) (.string s) false).run Try.prog w = .ok (.pointer none) w)
    (hk : Hid (Calls Try.prog 22 #[k, .string s] w fun e w' => e = .returned (.int .i64 (-1)) ∧ w' = w)) :
    Calls Try.prog 31 #[.pointer (some ⟨T, 0, none⟩), .string s, k, f] w fun e w' => e = .returned (.bool true) ∧ w' = w := by
  go_enter Try.func31, Try.ntmps31
  go_wp2_with (first | (go_at_call 15; refine (look_c T m s _ _ t0 hlk).mono ?_; rintro e w1 ⟨rfl, rfl⟩) | (go_at_call 22; refine hk.out.mono ?_; rintro e w1 ⟨rfl, rfl⟩))
  go_ret
  exact ⟨rfl, rfl⟩

set_option maxHeartbeats 1000000 in
theorem entry_held (T b : Nat) (m : Option Nat) (s : ByteArray) (k f : Value) (w : World) (t0 : w.cell? ⟨T, 0, none⟩ = some (.map m))
    (hlk : (Instr.lookup 29 (.map m) (.string s) false).run Try.prog w = .ok (.pointer (some ⟨b, 0, none⟩)) w)
    (c0 : w.cell? ⟨b, 0, none⟩ = some (.string s)) (c1 : w.cell? ⟨b, 1, none⟩ = some (.int .u64 0)) (c3 : w.cell? ⟨b, 3, none⟩ = some (.bool false)) (c4 : w.cell? ⟨b, 4, none⟩ = some (.pointer none)) (c5 : w.cell? ⟨b, 5, none⟩ = some (.pointer none))
    (hk : Hid (Calls Try.prog 22 #[k, .string s] w fun e w' => ∃ r : Nat, e = .returned (.int .i64 (r : Int)) ∧ w' = w))
    (hf : Hid (Calls Try.prog 22 #[f, .string s] w fun e w' => e = .returned (.int .i64 (-1)) ∧ w' = w)) :
    Calls Try.prog 31 #[.pointer (some ⟨T, 0, none⟩), .string s, k, f] w fun e w' => e = .returned (.bool true) ∧ w' = w := by
  have hs := eqS s
  go_enter Try.func31, Try.ntmps31
  go_wp2_with (first | (go_at_call 15; refine (look_c T m s _ _ t0 hlk).mono ?_; rintro e w1 ⟨rfl, rfl⟩))
  refine hk.out.mono ?_
  rintro e w1 ⟨r, rfl, rfl⟩
  have hr1 : decide ((r : Int) < 0) = false := by simp
  go_wp2_with (first | (go_at_call 28; refine (resource_c b _ _ c0).mono ?_; rintro e w2 ⟨rfl, rfl⟩) | (go_at_call 32; refine (last_c b _ _ c1).mono ?_; rintro e w2 ⟨rfl, rfl⟩) | (go_at_call 24; refine (isFree_c b _ _ c3).mono ?_; rintro e w2 ⟨rfl, rfl⟩) | (go_at_call 25; refine (older_c b _ _ c4).mono ?_; rintro e w2 ⟨rfl, rfl⟩) | (go_at_call 26; refine (newer_c b _ _ c5).mono ?_; rintro e w2 ⟨rfl, rfl⟩) | (go_at_call 22; refine hf.out.mono ?_; rintro e w2 ⟨rfl, rfl⟩))
  go_ret
  exact ⟨rfl, rfl⟩

set_option maxHeartbeats 1000000 in
theorem entry_free (T b : Nat) (m : Option Nat) (s : ByteArray) (k f : Value) (w : World) (t0 : w.cell? ⟨T, 0, none⟩ = some (.map m))
    (hlk : (Instr.lookup 29 (.map m) (.string s) false).run Try.prog w = .ok (.pointer (some ⟨b, 0, none⟩)) w)
    (c0 : w.cell? ⟨b, 0, none⟩ = some (.string s)) (c1 : w.cell? ⟨b, 1, none⟩ = some (.int .u64 0)) (c3 : w.cell? ⟨b, 3, none⟩ = some (.bool true))
    (hk : Hid (Calls Try.prog 22 #[k, .string s] w fun e w' => ∃ r : Nat, e = .returned (.int .i64 (r : Int)) ∧ w' = w))
    (hf : Hid (Calls Try.prog 22 #[f, .string s] w fun e w' => ∃ r : Nat, e = .returned (.int .i64 (r : Int)) ∧ w' = w)) :
    Calls Try.prog 31 #[.pointer (some ⟨T, 0, none⟩), .string s, k, f] w fun e w' => e = .returned (.bool true) ∧ w' = w := by
  have hs := eqS s
  go_enter Try.func31, Try.ntmps31
  go_wp2_with (first | (go_at_call 15; refine (look_c T m s _ _ t0 hlk).mono ?_; rintro e w1 ⟨rfl, rfl⟩))
  refine hk.out.mono ?_
  rintro e w1 ⟨r, rfl, rfl⟩
  have hr1 : decide ((r : Int) < 0) = false := by simp
  go_wp2_with (first | (go_at_call 28; refine (resource_c b _ _ c0).mono ?_; rintro e w2 ⟨rfl, rfl⟩) | (go_at_call 32; refine (last_c b _ _ c1).mono ?_; rintro e w2 ⟨rfl, rfl⟩))
  refine hf.out.mono ?_
  rintro e w2 ⟨r2, rfl, rfl⟩
  have hr2 : decide ((0 : Int) ≤ (r2 : Int)) = true := by simp
  go_wp2_with (go_at_call 24; refine (isFree_c b _ _ c3).mono ?_; rintro e w2 ⟨rfl, rfl⟩)
  go_ret
  exact ⟨rfl, rfl⟩

section
variable {w : World} {base T : Nat} {m : Option Nat} {kn fr : List ByteArray} {B : ByteArray → Nat}

theorem index_in {ao : Option Addr} {n c : Nat} {ss : List ByteArray} {s : ByteArray} (hr : RowS w ao n ss) (hn : n ≤ 1048576) (hs : s ∈ ss) :
    Calls Try.prog 22 #[.slice ao n c, .string s] w fun e w' => ∃ r : Nat, e = .returned (.int .i64 (r : Int)) ∧ w' = w := by
  refine (index_any ao n c ss s w hr (by omega)).mono fun e w' ⟨r, h, he, hw⟩ => ?_
  rcases h.out with ⟨h1, _⟩ | ⟨k, _, _, h3⟩
  · exact absurd hs h1
  · exact ⟨k, by rw [he, h3], hw⟩

theorem index_out {ao : Option Addr} {n c : Nat} {ss : List ByteArray} {s : ByteArray} (hr : RowS w ao n ss) (hn : n ≤ 1048576) (hs : s ∉ ss) :
    Calls Try.prog 22 #[.slice ao n c, .string s] w fun e w' => e = .returned (.int .i64 (-1)) ∧ w' = w := by
  refine (index_any ao n c ss s w hr (by omega)).mono fun e w' ⟨r, h, he, hw⟩ => ?_
  rcases h.out with ⟨_, h2⟩ | ⟨k, h1, h2, _⟩
  · exact ⟨by rw [he, h2], hw⟩
  · exact absurd (h2 ▸ strAt_mem ss k h1) hs

/-- zzEntryMatches says yes. -/
theorem Inv.entry (h : Inv w base T m kn fr B) {ka fa : Option Addr} {kc fc kl fl : Nat} {s : ByteArray} (hz : s.size ≤ maxLen) (hk : RowS w ka kl kn) (hf : RowS w fa fl fr) (hkl : kl ≤ 1048576) (hfl : fl ≤ 1048576) :
    Calls Try.prog 31 #[.pointer (some ⟨T, 0, none⟩), .string s, .slice ka kl kc, .slice fa fl fc] w fun e w' => e = .returned (.bool true) ∧ w' = w := by
  by_cases hsk : s ∈ kn
  · have hlk := h.map.found false hz hsk
    have E := h.ent s hsk
    by_cases hs : s ∈ fr
    · have hc3 : w.cell? ⟨B s, 3, none⟩ = some (.bool true) := by rw [E.c3, inB_yes hs]
      exact entry_free T (B s) m s _ _ w h.tok.c0 hlk E.c0 E.c1 hc3 (Lib.hid (index_in hk hkl hsk)) (Lib.hid (index_in hf hfl hs))
    · have hc3 : w.cell? ⟨B s, 3, none⟩ = some (.bool false) := by rw [E.c3, inB_no hs]
      have c4 := E.c4
      have c5 := E.c5
      rw [prevOf_not hs] at c4
      rw [nextOf_not hs] at c5
      exact entry_held T (B s) m s _ _ w h.tok.c0 hlk E.c0 E.c1 hc3 c4 c5 (Lib.hid (index_in hk hkl hsk)) (Lib.hid (index_out hf hfl hs))
  · exact entry_no T m s _ _ w h.tok.c0 (h.map.missed false hz hsk) (Lib.hid (index_out hk hkl hsk))

end
end Go.Proofs.Qxb6003641a
