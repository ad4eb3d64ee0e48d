import Derived.Test.Qxb6605469aName2
namespace Go.Proofs.Qxb6605469a
open Go.RowKit

theorem only_new {w w' : World} {o : Obj} (h : Only w.heap.size (w.alloc o) w') : Below w.heap.size w w' :=
  ⟨h.os, h.tape, h.output, Nat.le_trans (by simp) h.size, fun k hk => (h.block k (by simp; omega) (by intro e; have := Option.some.inj e; omega)).trans (Below.heap_alloc w o k hk)⟩

theorem Row8.alloc {w : World} {ao : Option Addr} {l : List UInt8} (h : Row8 w ao l) (o : Obj) : Row8 (w.alloc o) ao l := by
  rcases h with h | ⟨b, off, h1, h2⟩
  · exact .inl h
  · refine .inr ⟨b, off, h1, fun j hj => ?_⟩
    rw [World.cell?_alloc_lt _ _ _ (World.block_lt_of_cell? w _ (h2 j hj))]
    exact h2 j hj

theorem ownsRow_base {w w1 : World} {o : Obj} {v : Value} {n q : Nat} {xs : List Value} (h : w1.ownsRow (w.alloc o).heap.size 9 1 v n xs) : (w1.drewN q).ownsRow w.heap.size 9 1 v n xs := by
  obtain ⟨hl, h0 | ⟨g, cap, cur, hv, hbg, r⟩⟩ := h
  · exact ⟨hl, .inl h0⟩
  · exact ⟨hl, .inr ⟨g, cap, cur, hv, by simp at hbg; omega, r⟩⟩

set_option maxHeartbeats 1000000 in
theorem zzname_any (ao : Option Addr) (n c : Nat) (m : List UInt8) (p : Nat) (w : World) (hm : m.length = n) (hn : (n : Int) ≤ 1048576) (hnc : n ≤ c) (hrow : Row8 w ao m) (hlt : ∀ b off, ao = some ⟨b, off, none⟩ → b < w.heap.size) :
    Calls Try.prog 15 #[.slice ao n c, .int .i64 (p : Int)] w fun e w' => Below w.heap.size w w' ∧ ∃ K,
      (NameOk m p K ∧ ∃ v, e = .returned (.tuple #[v, .bool true, .int .i64 ((posAt m p K + 1 : Nat) : Int)]) ∧ w'.ownsRow w.heap.size 9 1 v K ((labelsTo m p K).map strV)) ∨
      (NameNo m p K ∧ e = .returned (.tuple #[.slice none 0 0, .bool false, .int .i64 ((posAt m p K : Nat) : Int)])) := by
  have HR := Lib.hid (hrow.alloc (.cells #[.slice ao n c, .int .i64 (p : Int)] 57))
  have hrd : Rd (w.alloc (.cells #[.slice ao n c, .int .i64 (p : Int)] 57)) w.heap.size ao n c p := heap_alloc_new w _
  have HN := Lib.hid (name_any w.heap.size ao n c m p (w.alloc (.cells #[.slice ao n c, .int .i64 (p : Int)] 57)) hm hn hnc hrd HR.out (fun b off h => by have := hlt b off h; omega))
  clear hrd hrow hm hlt
  go_enter Try.func15, Try.ntmps15
  go_wp2_with (go_at_call 25; refine HN.out.mono ?_; rintro e w1 ⟨hon, K, ⟨hok, v, rfl, hrd1, hown⟩ | ⟨hno, rfl, hrd1⟩⟩)
  · have c1 := hrd1.c1
    have HO := Lib.hid hown
    have HK := Lib.hid hok
    clear hown hok hrd1
    go_quiet (fail)
    go_wp2_with fail
    go_ret3
    refine ⟨(only_new hon).trans ⟨rfl, rfl, rfl, Nat.le_refl _, fun _ _ => rfl⟩, K, .inl ⟨HK.out, v, rfl, ?_⟩⟩
    exact ownsRow_base HO.out
  · have c1 := hrd1.c1
    have HK := Lib.hid hno
    clear hno hrd1
    go_quiet (fail)
    go_wp2_with fail
    go_ret3
    exact ⟨(only_new hon).trans ⟨rfl, rfl, rfl, Nat.le_refl _, fun _ _ => rfl⟩, K, .inr ⟨HK.out, rfl⟩⟩

end Go.Proofs.Qxb6605469a
