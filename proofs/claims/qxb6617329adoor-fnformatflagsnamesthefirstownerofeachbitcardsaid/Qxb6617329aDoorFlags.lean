/-
  THE WALK of protocol.formatFlags (seat b6617329aD).
-/
import Derived.Test.Qxb6617329aDoorApp
import Derived.Test.Qxb6617329aDoorShelf
namespace Go.Proofs.Qxb6617329aDoor
open Go.RowKit
set_option linter.unusedVariables false
set_option linter.unusedSimpArgs false

theorem info9 : (Tryd.prog.info? 9).map (fun i => (i.zero, i.size, i.bytes)) = some (some (.string ByteArray.empty), 1, 16) := by kernel_rfl

/-- WHERE THE TABLE LIES: entry i: its mask, its text. -/
def NamesAt (w : World) (p : Option Addr) (m : Nat) (xs : List (BitVec 64)) (ss : List ByteArray) : Prop :=
  0 < m → ∃ g, p = some ⟨g, 0, none⟩ ∧ ∀ i, i < m → w.cell? ⟨g, i * 2, none⟩ = some (.int .u64 ((xs.getD i 0).toNat : Int)) ∧ w.cell? ⟨g, i * 2 + 1, none⟩ = some (.string (ss.getD i ByteArray.empty))

def strVals (l : List ByteArray) : List Value := l.map Value.string
theorem strVals_length (l : List ByteArray) : (strVals l).length = l.length := by simp [strVals]
theorem strVals_append (a b : List ByteArray) : strVals (a ++ b) = strVals a ++ strVals b := by simp [strVals]

theorem partsAt_le (b : BitVec 64) (xs : List (BitVec 64)) (ss : List ByteArray) (i : Nat) : (partsAt b xs ss i).length ≤ i := by
  unfold partsAt
  rw [List.length_map]
  have := List.length_filter_le (takes b xs) (List.range i)
  simpa using this

theorem one_new2 (w : World) (o : Obj) (v : Value) (t : TypeId) : ∀ j u, [v][j]? = some u → ((w.alloc o).alloc (.cells #[v] t)).cell? ((⟨w.heap.size + 1, 0, none⟩ : Addr).add j) = some u := by
  intro j u hj
  have h := cell_one_new (w.alloc o) v t j u hj
  have e : (w.alloc o).heap.size = w.heap.size + 1 := by simp
  rw [e] at h
  exact h

theorem box_kept {wr w1 : World} {o2 : Obj} {vp x s : Value} {B : Nat} (hlt : ∀ k, vp.ownBlock = some k → B ≤ k ∧ k < wr.heap.size) (hg : ((wr.alloc (.cells #[x, s] 33)).alloc o2).grownBy w1 vp.ownBlock) : w1.cell? ⟨wr.heap.size, 0, none⟩ = some x :=
  hg.cell (a := ⟨wr.heap.size, 0, none⟩) (by simp) (fun e => by have := hlt _ e.symm; simp at this)

theorem takes_ne {b : BitVec 64} {xs : List (BitVec 64)} {i : Nat} (h : takes b xs i = true) : (((restAt b xs i &&& xs.getD i 0).toNat : Int) != 0) = true := by
  unfold takes at h
  rw [bne_iff_ne] at h ⊢
  intro e
  apply h
  apply BitVec.eq_of_toNat_eq
  simpa using e

theorem takes_eq {b : BitVec 64} {xs : List (BitVec 64)} {i : Nat} (h : takes b xs i = false) : (((restAt b xs i &&& xs.getD i 0).toNat : Int) != 0) = false := by
  unfold takes at h
  have e : restAt b xs i &&& xs.getD i 0 = 0 := by simpa using h
  rw [e]
  rfl

/-- The relation's limbs behind a round that lists the entry. -/
theorem rel_take {w wr w1 : World} {b : BitVec 64} {xs : List (BitVec 64)} {ss : List ByteArray} {i m : Nat} {vp v' : Value} {o1 o2 : Obj} (him : i < m) (hx : m ≤ xs.length) (ht : takes b xs i = true)
    (hb : Below w.heap.size w wr) (hlt : ∀ k, vp.ownBlock = some k → w.heap.size ≤ k ∧ k < wr.heap.size)
    (hown1 : w1.ownsRow w.heap.size 9 1 v' ((partsAt b xs ss i).length + 1) (strVals (partsAt b xs ss i) ++ [.string (ss.getD i ByteArray.empty)])) (hg : ((wr.alloc o1).alloc o2).grownBy w1 vp.ownBlock) :
    restAt b xs (i + 1) = restAt b xs i &&& ~~~ xs.getD i 0 ∧ w1.ownsRow w.heap.size 9 1 v' (partsAt b xs ss (i + 1)).length (strVals (partsAt b xs ss (i + 1))) ∧ Below w.heap.size w w1 ∧ (partsAt b xs ss (i + 1) = [] → v' = .slice none 0 0) := by
  refine ⟨?_, ?_, ?_, ?_⟩
  · rw [restAt_succ b xs i (by omega), List.getD_eq_getElem?_getD, List.getElem?_eq_getElem (by omega)]
    rfl
  · rw [partsAt_take b xs ss i ht, strVals_append, List.length_append]
    exact hown1
  · have hs := hb.size
    exact ((hb.alloc hs _).alloc (by simp; omega) _).grown hg (by simp; omega) (fun k hk => (hlt k hk).1)
  · rw [partsAt_take b xs ss i ht]
    intro h
    simp at h

theorem ba_append (a b : List UInt8) : (⟨a.toArray⟩ : ByteArray) ++ (⟨b.toArray⟩ : ByteArray) = ⟨(a ++ b).toArray⟩ := by
  apply ByteArray.ext
  simp

/-- What is owned, laid open: the cells that strings.Join reads. -/
theorem join_cells {w : World} {B n : Nat} {v : Value} {l : List ByteArray} (h : w.ownsRow B 9 1 v n (strVals l)) (hn : 0 < n) :
    ∃ g cap, v = .slice (some ⟨g, 0, none⟩) n cap ∧ n = l.length ∧ n ≤ cap ∧ g < w.heap.size ∧ ∀ (j : Nat) x, l[j]? = some x → w.cell? ⟨g, 0 + j, none⟩ = some (.string x) := by
  obtain ⟨h1, h2⟩ := h
  rcases h2 with ⟨_, h2⟩ | ⟨g, cap, cur, rfl, hB, hg, hc, _, hs, ht⟩
  · omega
  · have hln : n = l.length := by rw [strVals_length] at h1; omega
    refine ⟨g, cap, rfl, hln, hc, ?_, fun j x hj => ?_⟩
    · rcases Nat.lt_or_ge g w.heap.size with h | h
      · exact h
      · rw [Array.getElem?_eq_none h] at hg
        cases hg
    · have hjl : j < l.length := (List.getElem?_eq_some_iff.1 hj).1
      have e : (cur.toList.take (n * 1))[j]? = some (.string x) := by
        rw [ht]
        unfold strVals
        rw [List.getElem?_map, hj]
        rfl
      rw [List.getElem?_take_of_lt (by omega), Array.getElem?_toList] at e
      simp [World.cell?, hg, e]

theorem own_below {wr w2 : World} {B e size n : Nat} {v : Value} {l : List Value} (h : wr.ownsRow B e size v n l) (hb : Below wr.heap.size wr w2) : w2.ownsRow B e size v n l :=
  h.kept (row := none) ⟨hb.os, hb.tape, hb.output, hb.size, fun k hk _ => hb.block k hk⟩ (by cases v.ownBlock <;> simp)

theorem ret_ans {a b : List UInt8} (h : a = b) : Ending.returned (.string ⟨a.toArray⟩) = .returned (.string ⟨b.toArray⟩) := by rw [h]

set_option maxHeartbeats 1000000 in
theorem flags_any (b : BitVec 64) (p : Option Addr) (m cap : Nat) (xs : List (BitVec 64)) (ss : List ByteArray) (w : World) (hm : m ≤ 65536) (hx : m ≤ xs.length) (hn : NamesAt w p m xs ss)
    (ht : w.cell? ⟨3, 15, none⟩ = some (.int .u8 4)) (hlen : (answer b xs ss m).length ≤ 140737488355328) :
    Calls Tryd.prog 7 #[.int .u64 (b.toNat : Int), .slice p m cap] w fun e w' => e = .returned (.string ⟨(answer b xs ss m).toArray⟩) ∧ Below w.heap.size w w' := by
  obtain ⟨i0, hi, hz0, hz1, hz2⟩ := info_parts info9
  have HN : Hid (NamesAt w p m xs ss) := hn
  have HLEN : Hid ((answer b xs ss m).length ≤ 140737488355328) := hlen
  clear hn hlen
  go_enter Tryd.func7, Tryd.ntmps7
  go_wp2
  go_loopw [0, 5, 10] (fun vb vp vi wr => ∃ i : Nat, i ≤ m ∧ vi = .int .i64 i ∧ vb = .int .u64 ((restAt b xs i).toNat : Int) ∧ wr.ownsRow w.heap.size 9 1 vp (partsAt b xs ss i).length (strVals (partsAt b xs ss i)) ∧ Below w.heap.size w wr ∧ Hid (partsAt b xs ss i = [] → vp = .slice none 0 0))
    (fun _ _ vi _ => m - (intOf vi).toNat)
  case atStart => exact ⟨0, Nat.zero_le _, rfl, by rw [restAt_zero], World.ownsRow_nil _ _ _ _, Below.refl _ _, fun _ => rfl⟩
  case round =>
    obtain ⟨i, hi', rfl, rfl, hown, hb, hnil⟩ := hrel
    have hlt := hown.lt
    have hpl := partsAt_le b xs ss i
    obtain ⟨R, hR⟩ : ∃ R, R = restAt b xs i := ⟨_, rfl⟩
    obtain ⟨n, hnn⟩ : ∃ n, n = (partsAt b xs ss i).length := ⟨_, rfl⟩
    rw [← hR]
    by_cases him : i < m
    · obtain ⟨g, rfl, hcells⟩ := HN.out (by omega)
      have hc1 : wr.cell? ⟨g, i * 2, none⟩ = some (.int .u64 ((xs.getD i 0).toNat : Int)) := (hb.cell (World.block_lt_of_cell? _ _ (hcells i him).1)).trans (hcells i him).1
      have hc2 : wr.cell? ⟨g, i * 2 + 1, none⟩ = some (.string (ss.getD i ByteArray.empty)) := (hb.cell (World.block_lt_of_cell? _ _ (hcells i him).2)).trans (hcells i him).2
      obtain ⟨X, hX⟩ : ∃ X, X = xs.getD i 0 := ⟨_, rfl⟩
      obtain ⟨S, hS⟩ : ∃ S, S = ss.getD i ByteArray.empty := ⟨_, rfl⟩
      rw [← hX] at hc1
      rw [← hS] at hc2
      have hand := and_vec R X
      have hnot := andNot_vec R X
      obtain ⟨A, hA⟩ : ∃ A, A = ((R &&& X).toNat : Int) := ⟨_, rfl⟩
      obtain ⟨C, hC⟩ : ∃ C, C = ((R &&& ~~~ X).toNat : Int) := ⟨_, rfl⟩
      rw [← hA] at hand
      rw [← hC] at hnot
      have HC : Hid (C = ((R &&& ~~~ X).toNat : Int)) := hC
      clear hC
      have HS : Hid (S = ss.getD i ByteArray.empty) := hS
      have HX : Hid (X = xs.getD i 0) := hX
      have HR : Hid (R = restAt b xs i) := hR
      have HNN : Hid (n = (partsAt b xs ss i).length) := hnn
      have HO : Hid (wr.ownsRow w.heap.size 9 1 u5 n (strVals (partsAt b xs ss i))) := by rw [hnn]; exact hown
      rw [← hnn] at hpl
      clear hcells hown
      by_cases htk : takes b xs i = true
      · have hne := takes_ne htk
        rw [← hR, ← hX, ← hA] at hne
        clear hR hX hS hnn hA
        have HT : Hid (takes b xs i = true) := htk
        clear htk
        have hsz := hb.size
        go_wp2_with (at_builtin; refine wpList_append_own _ rfl _ _ 24 rfl w.heap.size 9 i0 (.string ByteArray.empty) 1 16 Tryd.underlying24 hi hz0 hz1 hz2 rfl (by decide) _ _ _ rfl ((HO.out.alloc _).alloc _) ⟨wr.heap.size + 1, 0, none⟩ 1 1 [.string S] rfl rfl (one_new2 _ _ _ _) (fun x hx => by simp at hx; subst hx; rfl) (by unfold maxLen; omega) (by omega) (by simp; omega) ?_; intro v' w1 hown1 hgrow1 hnil1; have hbox := box_kept hlt hgrow1)
        have hR := HR.out
        have hX := HX.out
        have hS := HS.out
        have hnn := HNN.out
        subst hR hX hS hnn
        have Rl := rel_take him hx HT.out hb hlt hown1 hgrow1
        go_roundw
        case rel => exact ⟨i + 1, by omega, by go_num, by rw [Rl.1, HC.out], Rl.2.1, Rl.2.2.1, Rl.2.2.2⟩
        case measure => simp [intOf]; omega
      · have htf : takes b xs i = false := by simpa using htk
        have hne := takes_eq htf
        rw [← hR, ← hX, ← hA] at hne
        clear hR hX hS hnn hA
        have HT : Hid (takes b xs i = false) := htf
        clear htk htf
        have hsz := hb.size
        go_wp2
        have hR := HR.out
        have hnn := HNN.out
        subst hR hnn
        have e1 := restAt_skip b xs i (by omega) HT.out
        have e2 := partsAt_skip b xs ss i HT.out
        go_roundw
        case rel => exact ⟨i + 1, by omega, by go_num, by rw [e1], by rw [e2]; exact HO.out.alloc _, hb.alloc hsz _, by rw [e2]; exact hnil⟩
        case measure => simp [intOf]; omega
    · obtain rfl : i = m := by omega
      have ht1 : wr.cell? ⟨3, 15, none⟩ = some (.int .u8 4) := (hb.cell (World.block_lt_of_cell? _ _ ht)).trans ht
      have HO : Hid (wr.ownsRow w.heap.size 9 1 u5 n (strVals (partsAt b xs ss i))) := by rw [hnn]; exact hown
      have HNN : Hid (n = (partsAt b xs ss i).length) := hnn
      have HR : Hid (R = restAt b xs i) := hR
      rw [← hnn] at hpl
      have hsz := hb.size
      by_cases hcase : R = 0 ∧ partsAt b xs ss i ≠ []
      · -- NO BIT IS LEFT, AND SOMETHING IS LISTED
        obtain ⟨hR0, hL⟩ := hcase
        have hpos : 0 < n := by rw [hnn]; exact List.length_pos_iff.2 hL
        obtain ⟨g, cap', rfl, hnl, hcap, hg, hcells⟩ := join_cells HO.out hpos
        have HA : Hid (answer b xs ss i = Lib.join (texts (partsAt b xs ss i)) [124]) := by
          show answer b xs ss i = _
          unfold answer allParts
          rw [if_neg (by rw [← hR]; simp [hR0, hL])]
        have HJ : Hid (Calls Tryd.prog 10 #[.slice (some ⟨g, 0, none⟩) n cap', .string ⟨#[124]⟩] wr fun e w' => e = .returned (.string ⟨(answer b xs ss i).toArray⟩) ∧ Below wr.heap.size wr w') := by
          show Calls _ _ _ _ _
          rw [HA.out]
          have hl2 := HLEN.out
          rw [HA.out] at hl2
          rw [hnl]
          exact Tryd.strings_Join g 0 cap' (partsAt b xs ss i) ⟨#[124]⟩ wr hcells hg (by omega) (by omega) hl2
        have hne : ((R.toNat : Int) != 0) = false := by rw [hR0]; rfl
        generalize hQ : (R.toNat : Int) = Q at hne
        obtain ⟨ans, hans⟩ : ∃ ans, ans = answer b xs ss i := ⟨_, rfl⟩
        rw [← hans] at HJ
        have HANS : Hid (ans = answer b xs ss i) := hans
        clear hans
        have heq : ∀ W : World, (binOp .eql 24 (.slice (some ⟨g, 0, none⟩) n cap') (.slice none 0 0)).run Tryd.prog W = .ok (.bool false) W := fun W => Lib.run_eql_slice_nil W 24 9 _ n cap' 0 0 Tryd.underlying24
        clear hcells hnil hR hnn hQ hL hR0 hown HLEN HA hnl
        go_wp2_with (go_at_call 10; refine HJ.out.mono ?_; rintro e w' ⟨rfl, hb'⟩)
        go_ret
        exact ⟨ret_ans HANS.out, hb.trans (hb'.mono hsz)⟩
      · have hcs : R ≠ 0 ∨ partsAt b xs ss i = [] := by
          by_cases h : R = 0
          · exact .inr (Decidable.byContradiction fun h2 => hcase ⟨h, h2⟩)
          · exact .inl h
        have HA : Hid (answer b xs ss i = Lib.join (texts (partsAt b xs ss i ++ [⟨([48, 120] ++ hex R.toNat).toArray⟩])) [124]) := by
          show answer b xs ss i = _
          unfold answer allParts
          rw [if_pos (by rw [← hR]; exact hcs), ← hR]
          simp [texts]
        have HF : Hid (Calls Tryd.prog 9 #[.int .u64 (R.toNat : Int), .int .i64 16] wr fun e w' => e = .returned (.string ⟨(hex R.toNat).toArray⟩) ∧ Below wr.heap.size wr w') := fmt_uint R.toNat R.isLt wr ht1
        have hadd : ∀ W : World, (Op.stringOp .add ⟨#[48, 120]⟩ ⟨(hex R.toNat).toArray⟩).run Tryd.prog W = .ok (.string ⟨([48, 120] ++ hex R.toNat).toArray⟩) W := fun W => by
          have hl : (hex R.toNat).length ≤ 16 := hexF_length 16 _
          rw [run_string_add_sum W ⟨#[48, 120]⟩ ⟨(hex R.toNat).toArray⟩ (by simp [ByteArray.size]; omega)]
          rw [show (⟨#[48, 120]⟩ : ByteArray) = ⟨([48, 120] : List UInt8).toArray⟩ from rfl, ba_append]
        obtain ⟨T, hT⟩ : ∃ T : ByteArray, T = ⟨([48, 120] ++ hex R.toNat).toArray⟩ := ⟨_, rfl⟩
        obtain ⟨D, hD⟩ : ∃ D : ByteArray, D = ⟨(hex R.toNat).toArray⟩ := ⟨_, rfl⟩
        rw [← hT] at hadd HA
        rw [← hD] at hadd HF
        have HT : Hid (∀ (W : World) (n1 : Nat) (v1 : Value), W.ownsRow w.heap.size 9 1 v1 (n + 1) (strVals (partsAt b xs ss i) ++ [.string T]) → ∃ g cap', v1 = .slice (some ⟨g, 0, none⟩) (n + 1) cap' ∧
            Calls Tryd.prog 10 #[.slice (some ⟨g, 0, none⟩) (n + 1) cap', .string ⟨#[124]⟩] W fun e w' => e = .returned (.string ⟨(answer b xs ss i).toArray⟩) ∧ Below W.heap.size W w') := fun W n1 v1 h => by
          have h2 : W.ownsRow w.heap.size 9 1 v1 (n + 1) (strVals (partsAt b xs ss i ++ [T])) := by rw [strVals_append]; exact h
          obtain ⟨g, cap', rfl, hnl, hcap, hg, hcells⟩ := join_cells h2 (by omega)
          refine ⟨g, cap', rfl, ?_⟩
          have hl2 := HLEN.out
          rw [HA.out] at hl2 ⊢
          rw [hnl] at hcap ⊢
          exact Tryd.strings_Join g 0 cap' (partsAt b xs ss i ++ [T]) ⟨#[124]⟩ W hcells hg (by omega) hcap hl2
        obtain ⟨ans, hans⟩ : ∃ ans, ans = answer b xs ss i := ⟨_, rfl⟩
        rw [← hans] at HT
        have HANS : Hid (ans = answer b xs ss i) := hans
        clear hans HLEN HA
        have HNIL : Hid (R = 0 → u5 = .slice none 0 0) := fun h => hnil.out (by rcases hcs with h2 | h2; exact absurd h h2; exact h2)
        clear hcs hcase hnil hT hD hown hR hnn hx HN
        have hne : R ≠ 0 → ((R.toNat : Int) != 0) = true := fun h => by
          rw [bne_iff_ne]
          intro e
          apply h
          apply BitVec.eq_of_toNat_eq
          simpa using e
        by_cases hR0 : R = 0
        · have h5 := HNIL.out hR0
          subst h5
          have heq : ∀ W : World, (binOp .eql 24 (.slice none 0 0) (.slice none 0 0)).run Tryd.prog W = .ok (.bool true) W := fun W => Lib.run_eql_slice_nil W 24 9 _ 0 0 0 0 Tryd.underlying24
          have hne2 : ((R.toNat : Int) != 0) = false := by rw [hR0]; rfl
          generalize hQ : (R.toNat : Int) = Q at hne2 HF
          clear hne hQ hR0 HNIL HR
          go_wp2_with (first
            | (go_at_call 9; refine HF.out.mono ?_; rintro e w2 ⟨rfl, hb2⟩; have hown2 := own_below HO.out hb2; have hsz2 := hb2.size)
            | (at_builtin; refine wpList_append_own _ rfl _ _ 24 rfl w.heap.size 9 i0 (.string ByteArray.empty) 1 16 Tryd.underlying24 hi hz0 hz1 hz2 rfl (by decide) _ _ _ rfl (hown2.alloc _) ⟨w2.heap.size, 0, none⟩ 1 1 [.string T] rfl rfl (cell_one_new _ _ _) (fun x hx => by simp at hx; subst hx; rfl) (by unfold maxLen; omega) (by omega) (by simp; omega) ?_; intro v' w3 hown3 hgrow3 hnil3; obtain ⟨g, cap', rfl, hJ⟩ := HT.out w3 0 v' hown3; have HJ := Lib.hid hJ; clear hJ)
            | (go_at_call 10; go_must (refine HJ.out.mono ?_); rintro e w' ⟨rfl, hb'⟩))
          go_ret
          have hb3 : Below w.heap.size w w3 := ((hb.trans (hb2.mono hsz)).alloc (by omega) _).grown hgrow3 (by simp; omega) (fun k hk => by cases hk)
          exact ⟨ret_ans HANS.out, hb3.trans (hb'.mono hb3.size)⟩
        · have hne2 := hne hR0
          generalize hQ : (R.toNat : Int) = Q at hne2 HF
          clear hne hQ hR0 HNIL HR
          go_wp2_with (first
            | (go_at_call 9; refine HF.out.mono ?_; rintro e w2 ⟨rfl, hb2⟩; have hown2 := own_below HO.out hb2; have hsz2 := hb2.size)
            | (at_builtin; refine wpList_append_own _ rfl _ _ 24 rfl w.heap.size 9 i0 (.string ByteArray.empty) 1 16 Tryd.underlying24 hi hz0 hz1 hz2 rfl (by decide) _ _ _ rfl (hown2.alloc _) ⟨w2.heap.size, 0, none⟩ 1 1 [.string T] rfl rfl (cell_one_new _ _ _) (fun x hx => by simp at hx; subst hx; rfl) (by unfold maxLen; omega) (by omega) (by simp; omega) ?_; intro v' w3 hown3 hgrow3 hnil3; obtain ⟨g, cap', rfl, hJ⟩ := HT.out w3 0 v' hown3; have HJ := Lib.hid hJ; clear hJ)
            | (go_at_call 10; go_must (refine HJ.out.mono ?_); rintro e w' ⟨rfl, hb'⟩))
          go_ret
          have hb3 : Below w.heap.size w w3 := ((hb.trans (hb2.mono hsz)).alloc (by omega) _).grown hgrow3 (by simp; omega) (fun k hk => (hlt k hk).1)
          exact ⟨ret_ans HANS.out, hb3.trans (hb'.mono hb3.size)⟩
end Go.Proofs.Qxb6617329aDoor
