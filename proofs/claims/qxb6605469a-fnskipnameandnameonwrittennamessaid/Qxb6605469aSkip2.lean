import Derived.Test.Qxb6605469aSkip
import Derived.Test.Qxb6605469aStop
import Derived.Test.Qxb6605469aLawW
namespace Go.Proofs.Qxb6605469a
open Go.RowKit

theorem Row8.below {w w' : World} {ao : Option Addr} {l : List UInt8} (h : Row8 w ao l) (hb : Below w.heap.size w w') : Row8 w' ao l := by
  rcases h with h | ⟨b, off, h1, h2⟩
  · exact .inl h
  · exact .inr ⟨b, off, h1, fun j hj => (hb.cell (World.block_lt_of_cell? w _ (h2 j hj))).trans (h2 j hj)⟩

/-- What ZZReaderSkipName answers. -/
def SkipRes (m : List UInt8) (p : Nat) (b : Bool) (E : Nat) : Prop :=
  ∃ K, (NameOk m p K ∧ b = true ∧ E = posAt m p K + 1) ∨ (NameNo m p K ∧ SkipPt m p K ∧ b = true ∧ E = posAt m p K + 2) ∨ (NameNo m p K ∧ ¬ SkipPt m p K ∧ b = false ∧ E = posAt m p K)

/-- What ZZReaderName answers. -/
def NameRes (w : World) (m : List UInt8) (p : Nat) (a : Option Addr) (L : Nat) (b : Bool) (E : Nat) : Prop :=
  ∃ K, (NameOk m p K ∧ b = true ∧ E = posAt m p K + 1 ∧ L = K ∧ ∀ k, k < K → ∃ g, a = some ⟨g, 0, none⟩ ∧ w.cell? ⟨g, k, none⟩ = some (strV (labelAt m p k))) ∨ (NameNo m p K ∧ b = false ∧ E = posAt m p K ∧ L = 0)

set_option maxHeartbeats 1000000 in
theorem zzskip_any (ao : Option Addr) (n c : Nat) (m : List UInt8) (p : Nat) (w : World) (hm : m.length = n) (hn : (n : Int) ≤ 1048576) (hrow : Row8 w ao m) (hlt : ∀ b off, ao = some ⟨b, off, none⟩ → b < w.heap.size) :
    Calls Try.prog 21 #[.slice ao n c, .int .i64 (p : Int)] w fun e w' => Below w.heap.size w w' ∧ ∃ b E, Hid (SkipRes m p b E) ∧ e = .returned (.tuple #[.bool b, .int .i64 (E : Int)]) := by
  have HR := Lib.hid (hrow.alloc (.cells #[.slice ao n c, .int .i64 (p : Int)] 57))
  have hrd : Rd (w.alloc (.cells #[.slice ao n c, .int .i64 (p : Int)] 57)) w.heap.size ao n c p := heap_alloc_new w _
  have HN := Lib.hid (skipName_any w.heap.size ao n c m p (w.alloc (.cells #[.slice ao n c, .int .i64 (p : Int)] 57)) hm hn hrd HR.out (fun b off h => by have := hlt b off h; omega))
  clear hrd hrow hm hlt
  go_enter Try.func21, Try.ntmps21
  go_wp2_with (go_at_call 27; refine HN.out.mono ?_; rintro e w1 ⟨hon, K, ⟨hok, rfl, hrd1⟩ | ⟨hno, hpt, rfl, hrd1⟩ | ⟨hno, hpt, rfl, hrd1⟩⟩)
  · have c1 := hrd1.c1
    have HK := Lib.hid hok
    clear hok hrd1
    go_quiet (fail)
    go_wp2_with fail
    go_ret2
    exact ⟨(only_new hon).trans ⟨rfl, rfl, rfl, Nat.le_refl _, fun _ _ => rfl⟩, true, posAt m p K + 1, ⟨K, .inl ⟨HK.out, rfl, rfl⟩⟩, rfl⟩
  · have c1 := hrd1.c1
    have HK := Lib.hid hno
    have HP := Lib.hid hpt
    clear hno hpt hrd1
    go_quiet (fail)
    go_wp2_with fail
    go_ret2
    exact ⟨(only_new hon).trans ⟨rfl, rfl, rfl, Nat.le_refl _, fun _ _ => rfl⟩, true, posAt m p K + 2, ⟨K, .inr (.inl ⟨HK.out, HP.out, rfl, rfl⟩)⟩, rfl⟩
  · have c1 := hrd1.c1
    have HK := Lib.hid hno
    have HP := Lib.hid hpt
    clear hno hpt hrd1
    go_quiet (fail)
    go_wp2_with fail
    go_ret2
    exact ⟨(only_new hon).trans ⟨rfl, rfl, rfl, Nat.le_refl _, fun _ _ => rfl⟩, false, posAt m p K, ⟨K, .inr (.inr ⟨HK.out, HP.out, rfl, rfl⟩)⟩, rfl⟩

theorem zzname3 (ao : Option Addr) (n c : Nat) (m : List UInt8) (p : Nat) (w : World) (hm : m.length = n) (hn : (n : Int) ≤ 1048576) (hnc : n ≤ c) (hrow : Row8 w ao m) (hlt : ∀ b off, ao = some ⟨b, off, none⟩ → b < w.heap.size) :
    Calls Try.prog 15 #[.slice ao n c, .int .i64 (p : Int)] w fun e w' => Below w.heap.size w w' ∧ ∃ (a : Option Addr) (L cp : Nat) (b : Bool) (E : Nat), Hid (NameRes w' m p a L b E) ∧ e = .returned (.tuple #[.slice a L cp, .bool b, .int .i64 (E : Int)]) := by
  refine (zzname2 ao n c m p w hm hn hnc hrow hlt).mono ?_
  rintro e w' ⟨hb, K, S, hS, ⟨hok, a, cp, he, hcell⟩ | ⟨hno, he⟩⟩
  · exact ⟨hb, a, K, cp, true, S + 1, ⟨K, .inl ⟨hok.out, rfl, by rw [hS.out], rfl, hcell.out⟩⟩, by rw [he]; rfl⟩
  · exact ⟨hb, none, 0, 0, false, S, ⟨K, .inr ⟨hno.out, rfl, hS.out, rfl⟩⟩, he⟩

section
variable {pre : List UInt8} {ss : List ByteArray} {t : List UInt8} {K0 : Nat} {b : Bool} {E : Nat}

theorem skip_long (hl : Legal ss) (hu : Until ss K0) (hw : 254 < wire ss K0) (hend : K0 = ss.length → ∃ x r, t = x :: r ∧ (x = 0 ∨ 64 ≤ x.toNat)) (h : SkipRes (msgOf pre ss t) pre.length b E) : b = false ∧ E = pre.length + wire ss K0 := by
  obtain ⟨K, ⟨h1, _, _⟩ | ⟨h1, h2, _, _⟩ | ⟨h1, _, h3, h4⟩⟩ := h
  · exact absurd h1 (name_long hl hu hw (.inl h1) hend).2
  · have e := (name_long hl hu hw (.inr h1) hend).1
    have := h2.2.2
    rw [e, msg_pos _ _ _ hl _ hu.le] at this
    omega
  · have e := (name_long hl hu hw (.inr h1) hend).1
    exact ⟨h3, by rw [h4, e, msg_pos _ _ _ hl _ hu.le]⟩

theorem skip_zero {r : List UInt8} (hl : Legal ss) (hu : Until ss K0) (hw : wire ss K0 ≤ 254) (h : SkipRes (msgOf pre ss (0 :: r)) pre.length b E) : b = true ∧ E = pre.length + wire ss ss.length + 1 := by
  obtain ⟨K, ⟨h1, h2, h3⟩ | ⟨h1, _, _, _⟩ | ⟨h1, _, _, _⟩⟩ := h
  · have e := (name_short hl hu hw (.inl rfl) (.inl h1)).2.1
    exact ⟨h2, by rw [h3, e, msg_pos _ _ _ hl _ (Nat.le_refl _)]⟩
  · exact (name_excl ((name_short hl hu hw (.inl rfl) (.inr h1)).2.2.1 rfl) h1).elim
  · exact (name_excl ((name_short hl hu hw (.inl rfl) (.inr h1)).2.2.1 rfl) h1).elim

theorem skip_ptr {x y : UInt8} {r : List UInt8} (hx : 192 ≤ x.toNat) (hl : Legal ss) (hu : Until ss K0) (hw : wire ss K0 ≤ 254) (h : SkipRes (msgOf pre ss (x :: y :: r)) pre.length b E) : b = true ∧ E = pre.length + wire ss ss.length + 2 := by
  have hx0 : x ≠ 0 := fun e => by rw [e] at hx; simp at hx
  obtain ⟨K, ⟨h1, h2, h3⟩ | ⟨h1, h2, h3, h4⟩ | ⟨h1, h2, _, _⟩⟩ := h
  · exact absurd h1 ((name_short hl hu hw (.inr (by omega)) (.inl h1)).2.2.2 hx0)
  · have e := (name_short hl hu hw (.inr (by omega)) (.inr h1)).2.1
    exact ⟨h3, by rw [h4, e, msg_pos _ _ _ hl _ (Nat.le_refl _)]⟩
  · obtain ⟨e0, e, _, _⟩ := name_short hl hu hw (.inr (by omega)) (.inr h1)
    refine absurd ?_ h2
    have hp := msg_pos pre ss (x :: y :: r) hl ss.length (Nat.le_refl _)
    have hlen := msg_len pre ss (x :: y :: r)
    simp only [List.length_cons] at hlen
    rw [e0] at hw
    refine ⟨?_, ?_, ?_⟩
    · rw [e, hp, msg_tail]; omega
    · rw [e, hp, hlen]; omega
    · rw [e, hp]; omega

variable {w : World} {a : Option Addr} {L : Nat}

theorem nameR_long (hl : Legal ss) (hu : Until ss K0) (hw : 254 < wire ss K0) (hend : K0 = ss.length → ∃ x r, t = x :: r ∧ (x = 0 ∨ 64 ≤ x.toNat)) (h : NameRes w (msgOf pre ss t) pre.length a L b E) : b = false ∧ E = pre.length + wire ss K0 ∧ L = 0 := by
  obtain ⟨K, ⟨h1, _⟩ | ⟨h1, h2, h3, h4⟩⟩ := h
  · exact absurd h1 (name_long hl hu hw (.inl h1) hend).2
  · have e := (name_long hl hu hw (.inr h1) hend).1
    exact ⟨h2, by rw [h3, e, msg_pos _ _ _ hl _ hu.le], h4⟩

theorem nameR_ptr {x : UInt8} {r : List UInt8} (hx : 192 ≤ x.toNat) (hl : Legal ss) (hu : Until ss K0) (hw : wire ss K0 ≤ 254) (h : NameRes w (msgOf pre ss (x :: r)) pre.length a L b E) : b = false ∧ E = pre.length + wire ss ss.length ∧ L = 0 := by
  have hx0 : x ≠ 0 := fun e => by rw [e] at hx; simp at hx
  obtain ⟨K, ⟨h1, _⟩ | ⟨h1, h2, h3, h4⟩⟩ := h
  · exact absurd h1 ((name_short hl hu hw (.inr (by omega)) (.inl h1)).2.2.2 hx0)
  · have e := (name_short hl hu hw (.inr (by omega)) (.inr h1)).2.1
    exact ⟨h2, by rw [h3, e, msg_pos _ _ _ hl _ (Nat.le_refl _)], h4⟩

theorem nameR_zero {r : List UInt8} (hl : Legal ss) (hu : Until ss K0) (hw : wire ss K0 ≤ 254) (h : NameRes w (msgOf pre ss (0 :: r)) pre.length a L b E) :
    b = true ∧ E = pre.length + wire ss ss.length + 1 ∧ L = ss.length ∧ K0 = ss.length ∧ ∀ k, k < ss.length → ∃ g, a = some ⟨g, 0, none⟩ ∧ w.cell? ⟨g, k, none⟩ = some (strV ((strAt ss k).data.toList.map low)) := by
  obtain ⟨K, ⟨h1, h2, h3, h4, h5⟩ | ⟨h1, _⟩⟩ := h
  · obtain ⟨e0, e, _, _⟩ := name_short hl hu hw (.inl rfl) (.inl h1)
    refine ⟨h2, by rw [h3, e, msg_pos _ _ _ hl _ (Nat.le_refl _)], by rw [h4, e], e0, fun k hk => ?_⟩
    obtain ⟨g, ha, hc⟩ := h5 k (by omega)
    exact ⟨g, ha, by rw [hc, msg_label _ _ _ hl k hk]⟩
  · exact (name_excl ((name_short hl hu hw (.inl rfl) (.inr h1)).2.2.1 rfl) h1).elim

end
end Go.Proofs.Qxb6605469a
