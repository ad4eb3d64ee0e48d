import Derived.Test.Qxb6605458aDoorLines
import Derived.Outline
namespace Go.Proofs.Qxb6605458aDoor
open Go.RowKit

/-- The bytes l, in a slice that is owned from B on or lies full below it. -/
def SlB (w : World) (B : Nat) (v : Value) (l : List UInt8) : Prop := Slc w B v l.length (Lib.byteCells l)
/-- The bytes l, in a slice that is owned from B on. -/
def OwB (w : World) (B : Nat) (v : Value) (l : List UInt8) : Prop := w.ownsRow B 5 1 v l.length (Lib.byteCells l)

theorem OwB.sl {w : World} {B : Nat} {v : Value} {l : List UInt8} (h : OwB w B v l) : SlB w B v l := .inl h
theorem OwB.alloc {w : World} {B : Nat} {v : Value} {l : List UInt8} (h : OwB w B v l) (o : Obj) : OwB (w.alloc o) B v l := World.ownsRow.alloc h o

/-- 'append(v, c)', the byte laid in a block of its own. -/
theorem wpList_appB {w : World} {ops : Array Oper} {rest : List Oper} {o : Oper} {a : Act} {Q : Exit → Act → World → Prop}
    (hg : o.guard = none) (s x : Operand) (hop : o.op = Op.call { callee := Callee.builtin Builtin.append, args := #[s, x], argTypes := #[22, 22] })
    (B : Nat) (v : Value) (l : List UInt8) (hs : a.eval s = v) (c : UInt8) (k : Int) (hk : k = (c.toNat : Int)) (hsl : OwB w B v l) (hx : a.eval x = .slice (some ⟨w.heap.size, 0, none⟩) 1 1)
    (b1 : l.length + 1 ≤ 140737488355328) (hB : B ≤ w.heap.size)
    (hK : ∀ v' w' l', Hid (l' = l ++ [c]) → l'.length ≤ l.length + 1 → OwB w' B v' l' → Below B w w' → wpList Tryd.prog ops Q rest (a.put o.dst v') w') :
    wpList Tryd.prog ops Q (o :: rest) a (w.alloc (.cells #[.int .u8 k] 5)) := by
  refine wpList_append_slc hg s x hop B v l.length (Lib.byteCells l) hs (.inl (World.ownsRow.alloc hsl _)) ⟨w.heap.size, 0, none⟩ 1 1 [.int .u8 k] hx rfl ?_ ?_ (by decide) (by omega) (by simp; omega) ?_
  · intro j u' hj
    match j, hj with
    | 0, hj => simp at hj; subst hj; simp [Addr.add]
  · intro u' hu'; simp at hu'; subst hu'; rfl
  · intro v' w' hown hb
    refine hK v' w' (l ++ [c]) (Lib.hid rfl) (by simp) ?_ (((Below.refl B w).alloc hB _).trans hb)
    unfold OwB
    rw [Lib.byteCells_append]
    have e : Lib.byteCells [c] = [.int .u8 k] := by rw [hk]; rfl
    rw [e]
    simpa using hown

/-- 'append(v, s...)'. -/
theorem wpList_appS {w : World} {ops : Array Oper} {rest : List Oper} {o : Oper} {a : Act} {Q : Exit → Act → World → Prop}
    (hg : o.guard = none) (s x : Operand) (hop : o.op = Op.call { callee := Callee.builtin Builtin.append, args := #[s, x], argTypes := #[22, 9] })
    (B : Nat) (v : Value) (l : List UInt8) (hs : a.eval s = v) (t : ByteArray) (hsl : SlB w B v l) (hx : a.eval x = .string t)
    (b1 : l.length + t.size ≤ 140737488355328) (hB : B ≤ w.heap.size)
    (hK : ∀ v' w' l', Hid (l' = l ++ t.data.toList) → l'.length ≤ l.length + t.size → SlB w' B v' l' → Hid (0 < t.size → OwB w' B v' l') → Below B w w' → wpList Tryd.prog ops Q rest (a.put o.dst v') w') :
    wpList Tryd.prog ops Q (o :: rest) a w := by
  refine wpList_append_slcS hg s x hop B v l.length (Lib.byteCells l) hs hsl t hx b1 hB ?_
  intro v' w' h1 h2 hb
  have e1 : Lib.byteCells l ++ Lib.strCells t = Lib.byteCells (l ++ t.data.toList) := by rw [Lib.byteCells_append]; rfl
  have e2 : l.length + t.size = (l ++ t.data.toList).length := by rw [List.length_append]; rfl
  rw [e1, e2] at h1 h2
  exact hK v' w' _ (Lib.hid rfl) (Nat.le_of_eq e2.symm) h1 (Lib.hid h2) hb

theorem appInt_b (B : Nat) (i : Int) (h0 : -9223372036854775808 ≤ i) (h1 : i ≤ 9223372036854775807) (sv : Value) (l : List UInt8) (w : World) (hown : OwB w B sv l) (hBw : B ≤ w.heap.size) (hlim : l.length + 21 ≤ 140737488355328) (htab : Tab B w) :
    Calls Tryd.prog 19 #[sv, .int .i64 i, .int .i64 10] w fun e w' => ∃ v' l', e = .returned v' ∧ Hid (l' = l ++ Lib.itoa i) ∧ l'.length ≤ l.length + 21 ∧ OwB w' B v' l' ∧ Below B w w' := by
  refine (Tryd.strconv_AppendInt_10 B l.length i h0 h1 sv (Lib.byteCells l) w hown hBw hlim htab).mono fun e w' ⟨v', he, ho, hb, _⟩ => ?_
  have := Lib.itoa_length_le i h0 h1
  refine ⟨v', l ++ Lib.itoa i, he, Lib.hid rfl, by simp; omega, ?_, hb⟩
  unfold OwB
  rw [Lib.byteCells_append, List.length_append]
  exact ho

theorem padded_b (B : Nat) (i width : Int) (hi0 : -9223372036854775808 ≤ i) (hi1 : i ≤ 9223372036854775807) (hw0 : -65536 ≤ width) (hw1 : width ≤ 65536) (sv : Value) (l : List UInt8) (w : World)
    (hslc : SlB w B sv l) (hB : B ≤ w.heap.size) (hn : l.length ≤ 1099511627776) (htab : Tab B w) :
    Calls Tryd.prog 16 #[sv, .int .i64 i, .int .i64 width] w fun e w' => ∃ v' l', e = .returned v' ∧ Hid (l' = l ++ padded i width) ∧ l'.length ≤ l.length + 65600 ∧ OwB w' B v' l' ∧ Below B w w' := by
  refine (padded_any B l.length i width hi0 hi1 hw0 hw1 sv (Lib.byteCells l) w hslc hB hn htab).mono fun e w' ⟨v', he, ho, hb⟩ => ?_
  have := Lib.itoa_length_le i hi0 hi1
  refine ⟨v', l ++ padded i width, he, Lib.hid rfl, by simp [padded]; omega, ?_, hb⟩
  unfold OwB
  rw [Lib.byteCells_append, List.length_append]
  exact ho

set_option maxHeartbeats 400000 in
theorem expect_any (ao : Option Addr) (n c : Nat) (l : List UInt8) (pos : Nat) (p k : Int) (w : World) (hp : p = pos) (_hn : n ≤ 9223372036854775807) (hl : l.length = n) (hrow : Row8 w ao l) (hlt : pos < n) (hb : byteAt l pos = k) :
    Calls Tryd.prog 14 #[.slice ao n c, .int .i64 p, .int .u8 k] w fun e w' => e = .returned (.bool true) ∧ w' = w := by
  subst hp
  rcases hrow with rfl | ⟨b, off, rfl, hcell⟩
  · simp at hl; omega
  have hc : w.cell? ⟨b, off + pos, none⟩ = some (.int .u8 k) := by rw [← hb]; exact hcell pos (by omega)
  clear hl hcell hb
  go_enter Tryd.func14, Tryd.ntmps14
  go_wp2
  go_ret
  exact ⟨by simp, rfl⟩

set_option maxHeartbeats 400000 in
theorem bytes12_any (a : Option Addr) (n c : Nat) (s : ByteArray) (x y : Int) (w : World) (hn : n ≤ maxLen) (hs : s.size ≤ maxLen) :
    Calls Tryd.prog 12 #[.slice a n c, .string s, .int .i64 x, .int .i64 y] w fun e w' => e = .returned (.bool (decide (n + s.size ≤ 1048576))) ∧ w' = w := by
  unfold maxLen at hn hs
  by_cases h : n ≤ 1048576
  · by_cases h2 : s.size ≤ 1048576
    · by_cases h3 : n + s.size ≤ 1048576
      · go_enter Tryd.func12, Tryd.ntmps12
        go_wp2
        go_ret
        exact ⟨by simp; omega, rfl⟩
      · go_enter Tryd.func12, Tryd.ntmps12
        go_wp2
        go_ret
        exact ⟨by simp; omega, rfl⟩
    · go_enter Tryd.func12, Tryd.ntmps12
      go_wp2
      go_ret
      exact ⟨by simp; omega, rfl⟩
  · go_enter Tryd.func12, Tryd.ntmps12
    go_wp2
    go_ret
    exact ⟨by simp; omega, rfl⟩

set_option maxHeartbeats 1000000 in
theorem run_any (ao : Option Addr) (n c : Nat) (l : List UInt8) (pos k : Nat) (p : Int) (w : World) (hp : p = pos) (hn : n ≤ 9223372036854775807) (hl : l.length = n) (hrow : Row8 w ao l) (hk1 : 1 ≤ k) (hk : k ≤ 17) (hpk : pos + k < n)
    (hdig : ∀ j, j < k → 48 ≤ byteAt l (pos + j) ∧ byteAt l (pos + j) ≤ 57) (hend : byteAt l (pos + k) < 48) (h0 : 49 ≤ byteAt l pos) :
    Calls Tryd.prog 15 #[.slice ao n c, .int .i64 p] w fun e w' => e = .returned (.tuple #[.int .u64 (valAt l pos k), .int .i64 (k : Int), .bool true]) ∧ w' = w := by
  subst hp
  rcases hrow with rfl | ⟨b, off, rfl, hcell⟩
  · simp at hl; omega
  have HL := Lib.hid hl
  have HCE := Lib.hid hcell
  have HD := Lib.hid hdig
  clear hl hcell hdig
  go_enter Tryd.func15, Tryd.ntmps15
  go_wp2
  go_loop [7, 8] (fun i v => ∃ m : Nat, m ≤ k ∧ i = .int .i64 m ∧ v = .int .u64 (valAt l pos m)) (fun i _ => k - (intOf i).toNat)
  case atStart => exact ⟨0, Nat.zero_le _, rfl, rfl⟩
  case round =>
    obtain ⟨m, hm, rfl, rfl⟩ := hrel
    have hc : w.cell? ⟨b, off + (pos + m), none⟩ = some (.int .u8 (byteAt l (pos + m))) := HCE.out _ (by have := HL.out; omega)
    have hbl : pos + m < n := by omega
    by_cases hlt : m < k
    · obtain ⟨hv0, hv1⟩ := valAt_small l pos m (by omega) (fun j hj => HD.out j (by omega))
      have hd := HD.out m hlt
      go_wp2
      go_round
      case rel => first | exact ⟨m + 1, by omega, by go_num, rfl⟩ | exact ⟨_, _, _, .int .i64 ((m + 1 : Nat) : Int), .int .u64 (valAt l pos (m + 1)), ⟨m + 1, by omega, rfl, rfl⟩, rfl, rfl, rfl, by go_num, rfl⟩
      case measure => simp [intOf]; omega
    · obtain rfl : m = k := by omega
      have hc0 : w.cell? ⟨b, off + pos, none⟩ = some (.int .u8 (byteAt l pos)) := HCE.out _ (by have := HL.out; omega)
      go_wp2
      go_ret3
      exact ⟨rfl, rfl⟩

end Go.Proofs.Qxb6605458aDoor
