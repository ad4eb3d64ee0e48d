import Derived.Test.Qxb6003641aStrs
namespace Go.Proofs.Qxb6003641a
open Go.RowKit

/-- The first k of ss, the j-th left out. -/
def remTo (ss : List ByteArray) (j : Int) : Nat → List ByteArray
  | 0 => []
  | k + 1 => if (k : Int) = j then remTo ss j k else remTo ss j k ++ [strAt ss k]

theorem remTo_len (ss : List ByteArray) (j : Int) : ∀ k, (remTo ss j k).length ≤ k
  | 0 => Nat.le_refl _
  | k + 1 => by
    have := remTo_len ss j k
    simp only [remTo]
    split
    · omega
    · simp; omega

theorem take_snocS (ss : List ByteArray) (k : Nat) (h : k < ss.length) : ss.take (k + 1) = ss.take k ++ [strAt ss k] := by
  rw [List.take_succ_eq_append_getElem h, strAt_get ss k h]

theorem remTo_neg (ss : List ByteArray) : ∀ k, k ≤ ss.length → remTo ss (-1) k = ss.take k
  | 0, _ => by simp [remTo]
  | k + 1, h => by
    simp only [remTo]
    rw [if_neg (by omega), remTo_neg ss k (by omega), take_snocS ss k (by omega)]

theorem remTo_all (ss : List ByteArray) : remTo ss (-1) ss.length = ss := by rw [remTo_neg ss _ (Nat.le_refl _), List.take_length]

theorem remTo_before (ss : List ByteArray) (j : Nat) : ∀ k, k ≤ j → k ≤ ss.length → remTo ss j k = ss.take k
  | 0, _, _ => by simp [remTo]
  | k + 1, h, h2 => by
    simp only [remTo]
    rw [if_neg (by omega), remTo_before ss j k (by omega) (by omega), take_snocS ss k (by omega)]

theorem remTo_behind (ss : List ByteArray) (j : Nat) (hj : j < ss.length) : ∀ d, j + 1 + d ≤ ss.length → remTo ss j (j + 1 + d) = ss.take j ++ (ss.drop (j + 1)).take d
  | 0, _ => by
    show remTo ss j (j + 1) = _
    have e : remTo ss j (j + 1) = remTo ss j j := by simp only [remTo, if_true]
    rw [e, remTo_before ss j j (Nat.le_refl _) (by omega)]
    simp
  | d + 1, h => by
    show remTo ss j ((j + 1 + d) + 1) = _
    simp only [remTo]
    rw [if_neg (by omega), remTo_behind ss j hj d (by omega)]
    have h3 : (ss.drop (j + 1)).take (d + 1) = (ss.drop (j + 1)).take d ++ [strAt ss (j + 1 + d)] := by
      rw [List.take_succ_eq_append_getElem (by simp; omega), strAt_get ss _ (by omega)]
      simp
    rw [h3, List.append_assoc]

/-- The one at j out: s is gone. -/
theorem remTo_del {ss : List ByteArray} {s : ByteArray} {j : Nat} (hn : ss.Nodup) (hj : j < ss.length) (hs : strAt ss j = s) : remTo ss j ss.length = del ss s := by
  have h1 := remTo_behind ss j hj (ss.length - (j + 1)) (by omega)
  rw [show j + 1 + (ss.length - (j + 1)) = ss.length by omega] at h1
  have h2 : ss = ss.take j ++ s :: ss.drop (j + 1) := by
    rw [← hs, strAt_get ss j hj, List.getElem_cons_drop, List.take_append_drop]
  have h0 : (ss.drop (j + 1)).take (ss.length - (j + 1)) = ss.drop (j + 1) := List.take_of_length_le (by simp)
  rw [h1, h0]
  clear h1 h0
  generalize ss.take j = a at h2 ⊢
  generalize ss.drop (j + 1) = b at h2 ⊢
  subst h2
  obtain ⟨_, h4, h5⟩ := List.nodup_append.1 hn
  have ha : s ∉ a := fun x => h5 s x s (by simp) rfl
  have hb := (List.nodup_cons.1 h4).1
  have e1 := del_not ha
  have e2 := del_cons_same hb
  unfold del at e1 e2 ⊢
  rw [List.filter_append, e1, e2]

theorem RowS.below {w w' : World} {ao : Option Addr} {n : Nat} {ss : List ByteArray} (h : RowS w ao n ss) (hb : Below w.heap.size w w') : RowS w' ao n ss :=
  ⟨h.1, fun j hj => by
    obtain ⟨b, off, h1, h2⟩ := h.2 j hj
    exact ⟨b, off, h1, (hb.cell (World.block_lt_of_cell? w _ h2)).trans h2⟩⟩

theorem below_grown {w0 w w' : World} {v : Value} {l : List ByteArray} (h : Below w0.heap.size w0 w) (ho : OwS w w0.heap.size v l) (hg : w.grownBy w' v.ownBlock) : Below w0.heap.size w0 w' :=
  h.grown hg h.size (fun _ hq => (ho.tag hq).1)

set_option maxHeartbeats 1000000 in
theorem removeAt_any (ao : Option Addr) (n c : Nat) (ss : List ByteArray) (j : Int) (w : World) (hr : RowS w ao n ss) (hn : (n : Int) ≤ 1048576) :
    Calls Try.prog 17 #[.slice ao n c, .int .i64 j] w fun e w' => ∃ v l, Hid (l = remTo ss j n) ∧ e = .returned v ∧ OwS w' w.heap.size v l ∧ Below w.heap.size w w' := by
  obtain ⟨i0, hi, hz0, hz1, hz2⟩ := info_parts infoStr
  have HR := Lib.hid hr
  clear hr
  go_enter Try.func17, Try.ntmps17
  go_wp2_with (at_make; refine wpList_make_own _ rfl _ _ 22 rfl w.heap.size 9 i0 (.string ⟨#[]⟩) 1 Try.underlying22 hi hz0 hz1 .i64 .i64 _ (n + 1) rfl rfl (by omega) (by rw [hz2]; omega) (by unfold maxLen; omega) (Nat.le_refl _) ?_)
  intro w1 hown hgr
  have hb1 : Below w.heap.size w w1 := (Below.refl _ _).grown hgr (Nat.le_refl _) (fun k hk => by cases hk)
  have ho1 : OwS w1 w.heap.size (.slice (some ⟨w.heap.size, 0, none⟩) 0 (n + 1)) [] := hown
  clear hown hgr
  go_wp2
  go_loopw [5, 6] (fun a i wr => ∃ (k : Nat) (l : List ByteArray), k ≤ n ∧ i = .int .i64 k ∧ Hid (l = remTo ss j k) ∧ OwS wr w.heap.size a l ∧ Below w.heap.size w wr) (fun _ i _ => n - (intOf i).toNat)
  case atStart => exact ⟨0, [], Nat.zero_le _, rfl, rfl, ho1, hb1⟩
  case round =>
    obtain ⟨k, l, hk, rfl, hl, ho, hb⟩ := hrel
    by_cases hlt : (k : Int) < (n : Int)
    · obtain ⟨b, off, hao, hc⟩ := (HR.out.below hb).2 k (by omega)
      subst hao
      obtain ⟨st, hst⟩ : ∃ st, st = strAt ss k := ⟨_, rfl⟩
      rw [← hst] at hc
      have HST := Lib.hid hst
      have hlen : l.length ≤ k := by rw [hl.out]; exact remTo_len ss j k
      have hsz := hb.size
      clear hst
      by_cases e : (k : Int) = j
      · have he : ((k : Int) != j) = false := by simpa using e
        go_wp2_with fail
        go_roundw
        case rel => exact ⟨k + 1, l, by omega, by go_num, by show _ = remTo ss j (k + 1); simp only [remTo]; rw [if_pos e]; exact hl.out, ho, hb⟩
        case measure => simp [intOf]; omega
      · have he : ((k : Int) != j) = true := by simpa using e
        have hl1 : l.length + 1 ≤ 1099511627776 := by omega
        go_wp2_with (at_builtin; refine wpList_appS rfl _ _ rfl w.heap.size u5 l rfl st ho rfl hl1 hsz ?_)
        intro v2 w2 l2 hl2 hl2n ho2 hg2
        have hb2 : Below w.heap.size w w2 := below_grown hb ho hg2.out
        clear hl2n
        go_wp2_with fail
        go_roundw
        case rel => exact ⟨k + 1, l2, by omega, by go_num, by show _ = remTo ss j (k + 1); simp only [remTo]; rw [if_neg e, hl2.out, hl.out, HST.out], ho2, hb2⟩
        case measure => simp [intOf]; omega
    · obtain rfl : k = n := by omega
      go_wp2_with fail
      go_ret
      exact ⟨_, l, hl, rfl, ho, hb⟩

end Go.Proofs.Qxb6003641a
