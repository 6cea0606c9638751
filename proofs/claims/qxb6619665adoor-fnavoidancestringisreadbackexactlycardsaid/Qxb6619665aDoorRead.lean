/-
  THE WALK of zzReadAvoidanceName at a name that avoidance.String wrote (seat b6619665aD).
-/
import Derived.Test.Qxb6619665aDoorStr
namespace Go.Proofs.Qxb6619665aDoor
open Go.RowKit
set_option linter.unusedVariables false
set_option linter.unusedSimpArgs false

theorem ext_mid (a b c : List UInt8) : (⟨(a ++ (b ++ c)).toArray⟩ : ByteArray).extract a.length (a.length + b.length) = ⟨b.toArray⟩ := by
  apply ByteArray.ext
  apply Array.toList_inj.1
  simp [ByteArray.data_extract]

theorem ext_front (a b : List UInt8) : (⟨(a ++ b).toArray⟩ : ByteArray).extract 0 a.length = ⟨a.toArray⟩ := by
  apply ByteArray.ext
  apply Array.toList_inj.1
  simp [ByteArray.data_extract]

theorem byte_at (l : List UInt8) (i : Nat) (h : i < (⟨l.toArray⟩ : ByteArray).size) : (⟨l.toArray⟩ : ByteArray)[i] = l.getD i 0 := by
  rw [ba_size] at h
  rw [List.getD_eq_getElem?_getD, List.getElem?_eq_getElem h]
  rfl

set_option maxHeartbeats 1000000 in
theorem read_digits (a : Nat) (w : World) (ha : a ≤ 255) (h1 : a ≠ 1) (h2 : a ≠ 2) :
    Calls Tryd.prog 5 #[.string (nameOf a)] w fun e w' => e = .returned (.tuple #[.int .u8 a, .bool true]) ∧ w = w' := by
  obtain ⟨hd1, hd3, hdig, hlead, hval⟩ := good_at a ha
  have hL : nameL a = preN ++ (digs a ++ [41]) := by unfold nameL; rw [if_neg h1, if_neg h2]
  have hN : nameOf a = ⟨(preN ++ (digs a ++ [41])).toArray⟩ := by unfold nameOf; rw [hL]
  obtain ⟨k, hk⟩ : ∃ k, k = (digs a).length := ⟨_, rfl⟩
  have hsz : (nameOf a).size = 11 + k := by
    rw [hN, ba_size]
    simp [preN]
    omega
  have hsl1 : ∀ W : World, (Instr.slice 9 (.string (nameOf a)) none (some (.int .i64 10)) none).run Tryd.prog W = .ok (.string ⟨#[97, 118, 111, 105, 100, 97, 110, 99, 101, 40]⟩) W := fun W => by
    rw [run_slice_string_h W 9 _ Tryd.underlying9 .i64 10 (by omega) (by omega), hN]
    have := ext_front preN (digs a ++ [41])
    exact congrArg (fun x => Result.ok (Value.string x) W) this
  have hlast : ∀ h : 10 + k < (nameOf a).size, (nameOf a)[10 + k] = 41 := by
    rw [hN]
    intro h
    rw [byte_at]
    rw [List.getD_eq_getElem?_getD, List.getElem?_append_right (by simp [preN]), List.getElem?_append_right (by simp [preN]; omega)]
    simp [preN, hk]
  have hcs : (⟨(digs a).toArray⟩ : ByteArray).size = k := by rw [ba_size, hk]
  have hcb : ∀ i (h : i < (⟨(digs a).toArray⟩ : ByteArray).size), (⟨(digs a).toArray⟩ : ByteArray)[i] = (digs a).getD i 0 := fun i h => byte_at (digs a) i h
  have hlen : (nameOf a).toList.length = 11 + k := by rw [ByteArray.toList_eq, Array.length_toList]; exact hsz
  have hz1 : ((nameOf a).toList == [99, 108, 115, 110]) = false := beq_eq_false_iff_ne.2 fun e => by rw [e] at hlen; simp at hlen; omega
  have hz2 : ((nameOf a).toList == [112, 117, 110, 99]) = false := beq_eq_false_iff_ne.2 fun e => by rw [e] at hlen; simp at hlen; omega
  have hex : (nameOf a).extract 10 (10 + k) = ⟨(digs a).toArray⟩ := by
    have := ext_mid preN (digs a) [41]
    rw [hN, hk]
    exact this
  obtain ⟨s, hs⟩ : ∃ s, s = nameOf a := ⟨_, rfl⟩
  obtain ⟨c, hc⟩ : ∃ c : ByteArray, c = ⟨(digs a).toArray⟩ := ⟨_, rfl⟩
  rw [← hs] at hsz hsl1 hlast hex hz1 hz2 ⊢
  rw [← hc] at hex hcs hcb
  rw [← hk] at hd1 hd3 hdig hlead hval
  obtain ⟨l, hl⟩ : ∃ l, l = digs a := ⟨_, rfl⟩
  rw [← hl] at hcb hdig hlead hval
  clear hN hL hs hc hk hl hlen
  go_enter Tryd.func5, Tryd.ntmps5
  have HL := Lib.hid hlast
  have HC := Lib.hid hcb
  have HD := Lib.hid hdig
  have HLe := Lib.hid hlead
  have HV := Lib.hid hval
  clear hlast hcb hdig hlead hval
  go_wp2
  · rename_i hbad
    rw [HL.out] at hbad
    exact absurd hbad (by decide)
  · rename_i h1k _ hbad
    rw [HC.out 0] at hbad
    have := HLe.out (by omega)
    have hbad' := eq_of_beq hbad
    omega
  all_goals
    go_loop [5, 6] (fun vn vi => ∃ i n : Nat, i ≤ k ∧ vi = .int .i64 i ∧ vn = .int .i64 n ∧ n ≤ 999 ∧ Hid (n = valTo l i ∧ n < 10 ^ i)) (fun _ vi => k - (intOf vi).toNat)
    case atStart => exact ⟨0, 0, Nat.zero_le _, rfl, rfl, by omega, Lib.hid ⟨rfl, by omega⟩⟩
    case round =>
      obtain ⟨i, n, hi, rfl, rfl, hn, HN⟩ := hrel
      by_cases hlt : i < k
      · have hd := HD.out i hlt
        have hci : ∀ h : i < c.size, c[i] = l.getD i 0 := HC.out i
        have hvs : valTo l (i + 1) = valTo l i * 10 + ((l.getD i 0).toNat - 48) := rfl
        obtain ⟨d, hd0⟩ : ∃ d, d = l.getD i 0 := ⟨_, rfl⟩
        rw [← hd0] at hd hci hvs
        obtain ⟨hda, hdb⟩ := hd
        have HNN : Hid (n * 10 + (d.toNat - 48) ≤ 999 ∧ Hid (n * 10 + (d.toNat - 48) = valTo l (i + 1) ∧ n * 10 + (d.toNat - 48) < 10 ^ (i + 1))) := by
          obtain ⟨e1, e2⟩ := HN.out
          have hpow : 10 ^ (i + 1) ≤ 10 ^ 3 := Nat.pow_le_pow_right (by omega) (by omega)
          have hpow1 : 10 ^ (i + 1) = 10 ^ i * 10 := Nat.pow_succ ..
          exact Lib.hid ⟨by omega, Lib.hid ⟨by rw [hvs, ← e1], by omega⟩⟩
        clear hvs hd0 HN
        go_wp2
        first
        | (refine ⟨⟨_, _, _, _, ⟨i + 1, ?_, ?_, n * 10 + (d.toNat - 48), ?_, HNN.out.1, HNN.out.2⟩, rfl, rfl, rfl, rfl⟩, ?_⟩
           · omega
           · go_num
           · go_num
           · simp [intOf]; omega)
        | (refine ⟨⟨i + 1, n * 10 + (d.toNat - 48), ?_, ?_, ?_, HNN.out.1, HNN.out.2⟩, ?_⟩
           · omega
           · go_num
           · go_num
           · simp [intOf]; omega)
      · obtain rfl : i = k := by omega
        obtain rfl : n = a := HN.out.1.trans HV.out
        have hn1 : ((n : Int) == 1) = false := by simp; omega
        have hn2 : ((n : Int) == 2) = false := by simp; omega
        have hn3 : (n : Int) ≤ 255 := by omega
        clear HN HV HD HC HL HLe
        go_wp2
        go_ret2
        exact ⟨rfl, rfl⟩

theorem read_any (a : Nat) (w : World) (ha : a ≤ 255) :
    Calls Tryd.prog 5 #[.string (nameOf a)] w fun e w' => e = .returned (.tuple #[.int .u8 a, .bool true]) ∧ w = w' := by
  by_cases h1 : a = 1
  · subst h1
    have e : nameOf 1 = ⟨#[99, 108, 115, 110]⟩ := rfl
    rw [e]
    clear e
    go_enter Tryd.func5, Tryd.ntmps5
    go_wp2
    go_ret2
    exact ⟨rfl, rfl⟩
  by_cases h2 : a = 2
  · subst h2
    have e : nameOf 2 = ⟨#[112, 117, 110, 99]⟩ := rfl
    rw [e]
    clear e
    go_enter Tryd.func5, Tryd.ntmps5
    go_wp2
    go_ret2
    exact ⟨rfl, rfl⟩
  exact read_digits a w ha h1 h2
end Go.Proofs.Qxb6619665aDoor
