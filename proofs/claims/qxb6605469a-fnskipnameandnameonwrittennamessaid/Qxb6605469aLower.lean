import Derived.Test.Qxb6605469aSmall
import Derived.Lib.ConvBytes
import Derived.Lib.AtoiErrMem
import Derived.Laws.IdiomStrings
namespace Go.Proofs.Qxb6605469a
open Go.RowKit

/-- A string with A to Z in lower case. -/
def lowS (s : ByteArray) : ByteArray := ⟨(s.data.toList.map low).toArray⟩

theorem lowS_list (s : ByteArray) : (lowS s).data.toList = s.data.toList.map low := by simp [lowS]
theorem lowS_size (s : ByteArray) : (lowS s).size = s.size := by
  show (s.data.toList.map low).toArray.size = s.data.size
  simp

theorem lowS_same (s : ByteArray) (h : ∀ j, j < s.size → ¬ (65 ≤ byteAt s.data.toList j ∧ byteAt s.data.toList j ≤ 90)) : lowS s = s := by
  have e : s.data.toList.map low = s.data.toList := by
    apply byteAt_ext (by simp)
    intro j hj
    have hj' : j < s.data.toList.length := by simpa using hj
    rw [byteAt_low _ _ hj', lowN_not _ (h j hj')]
  unfold lowS
  rw [e]

theorem conv_string (s : ByteArray) (w : World) : ∃ W1 cap, (convert 9 23 (.string s)).run Try.prog w = .ok (.slice (some ⟨w.heap.size, 0, none⟩) s.size cap) W1 ∧
    (∀ j, j < s.size → W1.cell? ⟨w.heap.size, j, none⟩ = some (.int .u8 (byteAt s.data.toList j))) ∧ (∀ j, j < s.size → W1.frozen? ⟨w.heap.size, j, none⟩ = false) ∧ Below w.heap.size w W1 := by
  refine ⟨_, _, Lib.run_convert_string_bytes w 9 23 5 s Try.underlying9 Try.underlying23 Try.underlying5, fun j hj => Lib.bytesWorld_cell w 5 s j hj, fun j hj => ?_, Lib.bytesWorld_below w 5 s⟩
  have h1 : s.size ≤ (Lib.bytesCells w 5 s).size := by
    unfold Lib.bytesCells
    rw [Array.size_append, Array.size_map]
    show s.data.size ≤ _
    omega
  simp only [World.frozen?, Lib.bytesWorld_at_new, Bool.and_eq_false_iff, decide_eq_false_iff_not]
  left
  omega

/-- Byte t while the first j of the row stand lower-cased. -/
def mixed (l : List UInt8) (j t : Nat) : Int := if t < j then lowN (byteAt l t) else byteAt l t

theorem mixed_now (l : List UInt8) (j : Nat) : mixed l j j = byteAt l j := by unfold mixed; rw [if_neg (by omega)]

theorem mixed_set {wr : World} {G n j : Nat} {l : List UInt8} (h : ∀ t, t < n → wr.cell? ⟨G, t, none⟩ = some (.int .u8 (mixed l j t))) (hj : j < n) (v : Int) (hv : v = lowN (byteAt l j)) :
    ∀ t, t < n → (wr.setCell ⟨G, j, none⟩ (.int .u8 v)).cell? ⟨G, t, none⟩ = some (.int .u8 (mixed l (j + 1) t)) := by
  intro t ht
  by_cases e : t = j
  · subst e
    rw [World.cell?_setCell_same _ _ _ (h t hj), hv]
    unfold mixed
    rw [if_pos (by omega)]
  · rw [World.cell?_setCell_other _ _ _ _ (fun h2 => e (by injection h2 with _ h3; exact h3.symm)), h t ht]
    unfold mixed
    by_cases h3 : t < j
    · rw [if_pos h3, if_pos (by omega)]
    · rw [if_neg h3, if_neg (by omega)]

theorem mixed_skip {l : List UInt8} {j : Nat} (hn : ¬ (65 ≤ byteAt l j ∧ byteAt l j ≤ 90)) (t : Nat) : mixed l (j + 1) t = mixed l j t := by
  unfold mixed
  by_cases h3 : t < j
  · rw [if_pos h3, if_pos (by omega)]
  · by_cases e : t = j
    · subst e
      rw [if_neg h3, if_pos (by omega), lowN_not _ hn]
    · rw [if_neg h3, if_neg (by omega)]

set_option maxHeartbeats 2000000 in
theorem lower_any (s : ByteArray) (w : World) (hs : (s.size : Int) ≤ 1048576) :
    Calls Try.prog 31 #[.string s] w fun e w' => e = .returned (.string (lowS s)) ∧ Below w.heap.size w w' := by
  obtain ⟨W1, cap, hrun, hcell, hfz, hbel⟩ := conv_string s w
  go_enter Try.func31, Try.ntmps31
  go_wp2
  go_loop [3] (fun i => ∃ k : Nat, k ≤ s.size ∧ i = .int .i64 k ∧ Hid (∀ j, j < k → ¬ (65 ≤ byteAt s.data.toList j ∧ byteAt s.data.toList j ≤ 90))) (fun i => s.size - (intOf i).toNat)
  case atStart => exact ⟨0, Nat.zero_le _, rfl, fun j hj => by omega⟩
  case round =>
    obtain ⟨k, hk, rfl, hno⟩ := hrel
    by_cases hlt : k < s.size
    · have hbk := byteAt_str s k hlt
      have hb := byteAt_bd s.data.toList k
      by_cases hup : 65 ≤ byteAt s.data.toList k ∧ byteAt s.data.toList k ≤ 90
      · have u1 : (65 : Int) ≤ (s[k].toNat : Int) := by omega
        have u2 : (s[k].toNat : Int) ≤ 90 := by omega
        have HU := Lib.hid hup
        have HC := Lib.hid hcell
        have HF := Lib.hid hfz
        clear hbk hb hup hcell hfz
        go_wp2
        go_loopw [5] (fun i wr => ∃ j : Nat, k ≤ j ∧ j ≤ s.size ∧ i = .int .i64 j ∧ Hid (∀ t, t < s.size → wr.cell? ⟨w.heap.size, t, none⟩ = some (.int .u8 (mixed s.data.toList j t))) ∧ Hid (∀ t, t < s.size → wr.frozen? ⟨w.heap.size, t, none⟩ = false) ∧ Below w.heap.size w wr) (fun i _ => s.size - (intOf i).toNat)
        case atStart =>
          refine ⟨k, Nat.le_refl _, by omega, rfl, fun t ht => ?_, HF, hbel⟩
          rw [HC.out t ht]
          unfold mixed
          by_cases h3 : t < k
          · rw [if_pos h3, lowN_not _ (hno.out t h3)]
          · rw [if_neg h3]
        case round =>
          obtain ⟨j, hkj, hj, rfl, hcs, hfs, hb2⟩ := hrel
          clear hrun
          by_cases hjl : j < s.size
          · have cj : wr.cell? ⟨w.heap.size, j, none⟩ = some (.int .u8 (byteAt s.data.toList j)) := by rw [hcs.out j hjl, mixed_now]
            have fj := hfs.out j hjl
            have hbj := byteAt_bd s.data.toList j
            by_cases up : 65 ≤ byteAt s.data.toList j ∧ byteAt s.data.toList j ≤ 90
            · have v1 := up.1
              have v2 := up.2
              have hset := Lib.hid (mixed_set hcs.out hjl (byteAt s.data.toList j + 32) (lowN_of _ up).symm)
              clear up
              go_wp2
              go_roundw
              case rel => exact ⟨j + 1, by omega, by omega, by go_num, hset, fun t ht => by rw [World.frozen?_setCell]; exact hfs.out t ht, hb2.setCell (Nat.le_refl _) _⟩
              case measure => simp [intOf]; omega
            · have HNU := Lib.hid up
              by_cases v1 : 65 ≤ byteAt s.data.toList j
              · have v2 : 90 < byteAt s.data.toList j := by omega
                clear up
                go_wp2
                go_roundw
                case rel => exact ⟨j + 1, by omega, by omega, by go_num, fun t ht => by rw [mixed_skip HNU.out]; exact hcs.out t ht, hfs, hb2⟩
                case measure => simp [intOf]; omega
              · have hd : decide (65 ≤ byteAt s.data.toList j) = false := by simp; omega
                clear up v1
                go_wp2
                go_roundw
                case rel => exact ⟨j + 1, by omega, by omega, by go_num, fun t ht => by rw [mixed_skip HNU.out]; exact hcs.out t ht, hfs, hb2⟩
                case measure => simp [intOf]; omega
          · have hback := run_convert_bytes_back (P := Try.prog) wr 23 9 5 ⟨w.heap.size, 0, none⟩ cap (s.data.toList.map low) Try.underlying23 Try.underlying5 Try.underlying9 (fun t ht => by
              have ht' : t < s.size := by simpa using ht
              rw [Addr.add_lit, Nat.zero_add, hcs.out t ht']
              unfold mixed
              rw [if_pos (by omega), ← byteAt_low _ _ ht', byteAt, List.getD_eq_getElem?_getD, List.getElem?_eq_getElem ht]
              rfl)
            have hlen : (s.data.toList.map low).length = s.size := by simp
            rw [hlen] at hback
            go_wp2
            go_ret
            exact ⟨rfl, hb2⟩
      · by_cases u1 : (65 : Int) ≤ (s[k].toNat : Int)
        · have u2 : (90 : Int) < (s[k].toNat : Int) := by omega
          have HU := Lib.hid hup
          clear hbk hb hup hrun
          go_wp2
          go_round
          case rel => exact ⟨k + 1, by omega, by go_num, fun j hj => by
            by_cases e : j = k
            · rw [e]; exact HU.out
            · exact hno.out j (by omega)⟩
          case measure => simp [intOf]; omega
        · have hd : decide ((65 : Int) ≤ (s[k].toNat : Int)) = false := by simp; omega
          have HU := Lib.hid hup
          clear hbk hb hup hrun u1
          go_wp2
          go_round
          case rel => exact ⟨k + 1, by omega, by go_num, fun j hj => by
            by_cases e : j = k
            · rw [e]; exact HU.out
            · exact hno.out j (by omega)⟩
          case measure => simp [intOf]; omega
    · have e := lowS_same s (fun j hj => hno.out j (by omega))
      have E := Lib.hid e
      clear e hrun
      go_wp2
      go_ret
      exact ⟨by rw [E.out]; rfl, Below.refl _ _⟩

end Go.Proofs.Qxb6605469a
