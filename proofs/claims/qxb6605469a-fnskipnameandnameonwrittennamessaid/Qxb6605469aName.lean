import Derived.Test.Qxb6605469aLower
import Derived.Deep.RegionHeld3
import Derived.Deep.AppendLies
namespace Go.Proofs.Qxb6605469a
open Go.RowKit

theorem infoStr : (Try.prog.info? 9).map (fun i => (i.zero, i.size, i.bytes)) = some (some (.string ⟨#[]⟩), 1, 16) := by kernel_rfl

/-- A reader in block Rb. -/
def Rd (w : World) (Rb : Nat) (ao : Option Addr) (n c : Nat) (at_ : Int) : Prop := w.heap[Rb]? = some (.cells #[.slice ao n c, .int .i64 at_] 57 (0, 0))

theorem Rd.c0 {w : World} {Rb : Nat} {ao : Option Addr} {n c : Nat} {p : Int} (h : Rd w Rb ao n c p) : w.cell? ⟨Rb, 0, none⟩ = some (.slice ao n c) := by
  rw [cell_of_row w Rb 0 _ _ _ h]; rfl
theorem Rd.c1 {w : World} {Rb : Nat} {ao : Option Addr} {n c : Nat} {p : Int} (h : Rd w Rb ao n c p) : w.cell? ⟨Rb, 1, none⟩ = some (.int .i64 p) := by
  rw [cell_of_row w Rb 1 _ _ _ h]; rfl
theorem Rd.fz {w : World} {Rb : Nat} {ao : Option Addr} {n c : Nat} {p : Int} (h : Rd w Rb ao n c p) (o : Nat) : w.frozen? ⟨Rb, o, none⟩ = false := by
  unfold Rd at h
  simp [World.frozen?, h]
theorem Rd.lt {w : World} {Rb : Nat} {ao : Option Addr} {n c : Nat} {p : Int} (h : Rd w Rb ao n c p) : Rb < w.heap.size := (Array.getElem?_eq_some_iff.1 h).1

theorem Rd.set {w : World} {Rb : Nat} {ao : Option Addr} {n c : Nat} {p : Int} (h : Rd w Rb ao n c p) (q : Int) : Rd (w.setCell ⟨Rb, 1, none⟩ (.int .i64 q)) Rb ao n c q := by
  unfold Rd at h ⊢
  simp only [World.setCell, Array.getElem?_modify, if_true, h, Option.map_some]
  rfl

/-- Only the reader's block, and new ones, may have turned. -/
abbrev Only (Rb : Nat) (w w' : World) : Prop := w.grownBy w' (some Rb)

theorem Only.refl (Rb : Nat) (w : World) : Only Rb w w := ⟨rfl, rfl, rfl, Nat.le_refl _, fun _ _ _ => rfl⟩
theorem Only.trans {Rb : Nat} {a b c : World} (h : Only Rb a b) (k : Only Rb b c) : Only Rb a c :=
  ⟨k.os.trans h.os, k.tape.trans h.tape, k.output.trans h.output, Nat.le_trans h.size k.size, fun i hi hne => (k.block i (by have := h.size; omega) hne).trans (h.block i hi hne)⟩
theorem Only.drewN {Rb : Nat} {a b : World} (h : Only Rb a b) (q : Nat) : Only Rb a (b.drewN q) := ⟨h.os, h.tape, h.output, h.size, h.block⟩
theorem Only.setCell {Rb : Nat} {a b : World} (h : Only Rb a b) (o : Nat) (v : Value) : Only Rb a (b.setCell ⟨Rb, o, none⟩ v) :=
  h.trans ⟨rfl, rfl, rfl, by simp [World.setCell], fun i _ hne => Below.heap_setCell _ _ _ _ (fun e => hne (by rw [e]))⟩
theorem Only.of_below {Rb : Nat} {a b : World} (h : Below a.heap.size a b) : Only Rb a b := ⟨h.os, h.tape, h.output, h.size, fun i hi _ => h.block i hi⟩
theorem Rd.below {w w' : World} {Rb : Nat} {ao : Option Addr} {n c : Nat} {p : Int} (h : Rd w Rb ao n c p) (hb : Below w.heap.size w w') : Rd w' Rb ao n c p := by
  have hlt := h.lt
  unfold Rd at *
  rw [hb.block Rb hlt]
  exact h
theorem Only.row {Rb : Nat} {w w' : World} {ao : Option Addr} {l : List UInt8} (h : Only Rb w w') (hr : Row8 w ao l) (hne : ∀ b off, ao = some ⟨b, off, none⟩ → b ≠ Rb) : Row8 w' ao l := by
  rcases hr with h0 | ⟨b, off, h1, h2⟩
  · exact .inl h0
  · exact .inr ⟨b, off, h1, fun j hj => h.cell (h2 j hj) (by intro e; exact hne b off h1 (Option.some.inj e))⟩

set_option maxHeartbeats 400000 in
theorem skip_no (Rb : Nat) (ao : Option Addr) (n c : Nat) (p k : Int) (w : World) (hn : (n : Int) ≤ 1048576) (hp0 : 0 ≤ p) (hp1 : p ≤ n) (h : Rd w Rb ao n c p) (hk : (n : Int) - p < k) :
    Calls Try.prog 30 #[.pointer (some ⟨Rb, 0, none⟩), .int .i64 k] w fun e w' => e = .returned (.bool false) ∧ ∃ q, w' = w.drewN q := by
  have c0 := h.c0
  have c1 := h.c1
  clear h
  go_enter Try.func30, Try.ntmps30
  go_wp2
  go_quiet (fail)
  go_wp2
  go_ret
  exact ⟨rfl, _, rfl⟩

set_option maxHeartbeats 400000 in
theorem skip_yes (Rb : Nat) (ao : Option Addr) (n c : Nat) (p k : Int) (w : World) (hn : (n : Int) ≤ 1048576) (hp0 : 0 ≤ p) (hk0 : 0 ≤ k) (h : Rd w Rb ao n c p) (hk : k ≤ (n : Int) - p) :
    Calls Try.prog 30 #[.pointer (some ⟨Rb, 0, none⟩), .int .i64 k] w fun e w' => e = .returned (.bool true) ∧ Rd w' Rb ao n c (p + k) ∧ Only Rb w w' := by
  have c0 := h.c0
  have c1 := h.c1
  have f1 := h.fz 1
  have HR := Lib.hid h
  clear h
  go_enter Try.func30, Try.ntmps30
  go_wp2
  go_quiet (fail)
  go_wp2
  go_ret
  exact ⟨rfl, Rd.set (w := w.drewN nq) HR.out (p + k), ((Only.refl Rb w).drewN nq).setCell 1 _⟩

end Go.Proofs.Qxb6605469a
