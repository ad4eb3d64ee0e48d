import Derived.Test.Qxb6003641aRemove
namespace Go.Proofs.Qxb6003641a
open Go.RowKit

theorem eqS (a : ByteArray) : (a.toList == a.toList) = true := by simp

theorem look_c (T : Nat) (m : Option Nat) (s : ByteArray) (v : Value) (w : World) (t0 : w.cell? ⟨T, 0, none⟩ = some (.map m)) (hlk : (Instr.lookup 29 (.map m) (.string s) false).run Try.prog w = .ok v w) :
    Calls Try.prog 15 #[.pointer (some ⟨T, 0, none⟩), .string s] w fun e w' => e = .returned v ∧ w' = w := by
  go_enter Try.func15, Try.ntmps15
  go_wp2
  go_ret
  exact ⟨rfl, rfl⟩

theorem resource_c (b : Nat) (v : Value) (w : World) (c : w.cell? ⟨b, 0, none⟩ = some v) : Calls Try.prog 28 #[.pointer (some ⟨b, 0, none⟩)] w fun e w' => e = .returned v ∧ w' = w := by
  go_enter Try.func28, Try.ntmps28
  go_wp2
  go_ret
  exact ⟨rfl, rfl⟩

theorem last_c (b : Nat) (v : Value) (w : World) (c : w.cell? ⟨b, 1, none⟩ = some v) : Calls Try.prog 32 #[.pointer (some ⟨b, 0, none⟩)] w fun e w' => e = .returned v ∧ w' = w := by
  go_enter Try.func32, Try.ntmps32
  go_wp2
  go_ret
  exact ⟨rfl, rfl⟩

theorem isFree_c (b : Nat) (v : Value) (w : World) (c : w.cell? ⟨b, 3, none⟩ = some v) : Calls Try.prog 24 #[.pointer (some ⟨b, 0, none⟩)] w fun e w' => e = .returned v ∧ w' = w := by
  go_enter Try.func24, Try.ntmps24
  go_wp2
  go_ret
  exact ⟨rfl, rfl⟩

theorem older_c (b : Nat) (v : Value) (w : World) (c : w.cell? ⟨b, 4, none⟩ = some v) : Calls Try.prog 25 #[.pointer (some ⟨b, 0, none⟩)] w fun e w' => e = .returned v ∧ w' = w := by
  go_enter Try.func25, Try.ntmps25
  go_wp2
  go_ret
  exact ⟨rfl, rfl⟩

theorem newer_c (b : Nat) (v : Value) (w : World) (c : w.cell? ⟨b, 5, none⟩ = some v) : Calls Try.prog 26 #[.pointer (some ⟨b, 0, none⟩)] w fun e w' => e = .returned v ∧ w' = w := by
  go_enter Try.func26, Try.ntmps26
  go_wp2
  go_ret
  exact ⟨rfl, rfl⟩

theorem oldest_c (b : Nat) (v : Value) (w : World) (c : w.cell? ⟨b, 1, none⟩ = some v) : Calls Try.prog 27 #[.pointer (some ⟨b, 0, none⟩)] w fun e w' => e = .returned v ∧ w' = w := by
  go_enter Try.func27, Try.ntmps27
  go_wp2
  go_ret
  exact ⟨rfl, rfl⟩

theorem newest_c (b : Nat) (v : Value) (w : World) (c : w.cell? ⟨b, 2, none⟩ = some v) : Calls Try.prog 29 #[.pointer (some ⟨b, 0, none⟩)] w fun e w' => e = .returned v ∧ w' = w := by
  go_enter Try.func29, Try.ntmps29
  go_wp2
  go_ret
  exact ⟨rfl, rfl⟩

theorem frees_c (b : Nat) (v : Value) (w : World) (c : w.cell? ⟨b, 3, none⟩ = some v) : Calls Try.prog 30 #[.pointer (some ⟨b, 0, none⟩)] w fun e w' => e = .returned v ∧ w' = w := by
  go_enter Try.func30, Try.ntmps30
  go_wp2
  go_ret
  exact ⟨rfl, rfl⟩

theorem zzhold_c (T : Nat) (s : ByteArray) (w : World) (R : Nat → World → Prop) (h : Hid (Calls Try.prog 34 #[.pointer (some ⟨T, 0, none⟩), .string s] w fun e w' => ∃ b, e = .returned (.pointer (some ⟨b, 0, none⟩)) ∧ R b w')) :
    Calls Try.prog 18 #[.pointer (some ⟨T, 0, none⟩), .string s] w fun e w' => ∃ b, e = .returned (.pointer (some ⟨b, 0, none⟩)) ∧ R b w' := by
  go_enter Try.func18, Try.ntmps18
  go_wp2_with (go_at_call 34; refine h.out.mono ?_; rintro e w1 ⟨b, rfl, hR⟩)
  go_ret
  exact ⟨b, rfl, hR⟩

theorem zzfree_c (T : Nat) (s : ByteArray) (w : World) (R : World → Prop) (h : Hid (Calls Try.prog 33 #[.pointer (some ⟨T, 0, none⟩), .string s] w fun e w' => e = .returned (.tuple #[]) ∧ R w')) :
    Calls Try.prog 16 #[.pointer (some ⟨T, 0, none⟩), .string s] w fun e w' => e = .returned (.tuple #[]) ∧ R w' := by
  go_enter Try.func16, Try.ntmps16
  go_wp2_with (go_at_call 33; refine h.out.mono ?_; rintro e w1 ⟨rfl, hR⟩)
  go_end0
  exact ⟨rfl, hR⟩

theorem zzunlink_c (T b : Nat) (w : World) (R : World → Prop) (h : Hid (Calls Try.prog 35 #[.pointer (some ⟨T, 0, none⟩), .pointer (some ⟨b, 0, none⟩)] w fun e w' => e = .returned (.tuple #[]) ∧ R w')) :
    Calls Try.prog 23 #[.pointer (some ⟨T, 0, none⟩), .pointer (some ⟨b, 0, none⟩)] w fun e w' => e = .returned (.tuple #[]) ∧ R w' := by
  go_enter Try.func23, Try.ntmps23
  go_wp2_with (go_at_call 35; refine h.out.mono ?_; rintro e w1 ⟨rfl, hR⟩)
  go_end0
  exact ⟨rfl, hR⟩

end Go.Proofs.Qxb6003641a
