/-
  THE WALK of the law FnFormatFlagsNamesTheFirstOwnerOfEachBit (seat b6617329aD).
-/
import Derived.Test.Qxb6617329aDoorZZ
import Derived.Test.Qxb6617329aDoorBytes
import Derived.Test.Qxb6617329aDoorPlain2
import Derived.Deep.OwnRows
import Derived.Deep.DeepCutAuto
import Derived.Lib.AppendStr
import Derived.Laws.CopyRow
namespace Go.Proofs.Qxb6617329aDoor
open Go.RowKit
set_option linter.unusedVariables false
set_option linter.unusedSimpArgs false

theorem info22 : (Tryd.prog.info? 22).map (fun i => (i.zero, i.size, i.bytes)) = some (some (.int .u64 0), 1, 8) := by kernel_rfl
theorem info4 : (Tryd.prog.info? 4).map (fun i => (i.zero, i.size, i.bytes)) = some (some (.bool false), 1, 1) := by kernel_rfl
theorem size22 : (Tryd.prog.info? 22).map (·.size) = some 1 := by kernel_rfl
theorem size9 : (Tryd.prog.info? 9).map (·.size) = some 1 := by kernel_rfl

def bitVals (xs : List (BitVec 64)) : List Value := xs.map fun x => Value.int .u64 (x.toNat : Int)

/-- A slice that came in: nil, or its cells lie there. -/
def Src (w : World) (p : Option Addr) (l : Nat) (vals : List Value) : Prop :=
  vals.length = l ∧ ((p = none) ∨ ∃ a, p = some a ∧ ∀ j v, vals[j]? = some v → w.cell? (a.add j) = some v)

/-- WHAT A COPY OF A SLICE INTO A NEW ROW LEAVES. -/
theorem copied (w : World) (T E : TypeId) (z : Value) (bytes l cap : Nat) (a : Addr) (vals : List Value) (hT : Tryd.prog.underlying T = some (.slice E)) (hinfo : (Tryd.prog.info? E).map (fun i => (i.zero, i.size, i.bytes)) = some (some z, 1, bytes)) (hz1 : z.cells = #[z])
    (hsize : (Tryd.prog.info? E).map (·.size) = some 1) (hb : bytes * l ≤ 281474976710656) (h63 : l ≤ 9223372036854775807) (hl : vals.length = l) (hone : ∀ v ∈ vals, v.oneCell' = true) (hsrc : ∀ j v, vals[j]? = some v → w.cell? (a.add j) = some v) :
    ∃ (M : Array Value) (W1 : World), (∀ W : World, (Instr.makeSlice T (.int .i64 (l : Int)) (.int .i64 (l : Int))).run Tryd.prog W = .ok (.slice (some ⟨W.heap.size, 0, none⟩) l l) (W.alloc (.cells M E))) ∧
      (Builtin.copy_ #[T, T] 3 #[.slice (some ⟨w.heap.size, 0, none⟩) l l, .slice (some a) l cap]).run Tryd.prog (w.alloc (.cells M E)) = .ok (goInt l) W1 ∧
      Below w.heap.size w W1 ∧ ∀ j v, vals[j]? = some v → W1.cell? ⟨w.heap.size, j, none⟩ = some v := by
  have hMs : (madeCells #[z] l).size = l := size_madeCells _ _
  have hsrc1 : ∀ j v, vals[j]? = some v → (w.alloc (.cells (madeCells #[z] l) E)).cell? (a.add j) = some v := fun j v h => by
    have h1 := hsrc j v h
    exact (((Below.refl _ w).alloc (Nat.le_refl _) _).cell (World.block_lt_of_cell? _ _ h1)).trans h1
  have hcp := run_copy_row (P := Tryd.prog) (w.alloc (.cells (madeCells #[z] l) E)) T T 3 E w.heap.size 0 l l a l cap (madeCells #[z] l) E vals hT hsize (heap_alloc_new w _) (by simp [hl]) hsrc1 (by omega) hone
  rw [hl] at hcp
  refine ⟨madeCells #[z] l, _, fun W => run_make_row' T E z bytes hT hinfo hz1 .i64 .i64 l hb h63 W, hcp, ?_, fun j v hj => ?_⟩
  · exact ((Below.refl _ w).alloc (Nat.le_refl _) _).trans ⟨rfl, rfl, rfl, by simp, fun k hk => setRow_other _ _ _ _ (by omega)⟩
  · have hjl : j < vals.length := (List.getElem?_eq_some_iff.1 hj).1
    have hgY : ((w.alloc (.cells (madeCells #[z] l) E)).setRow w.heap.size ((madeCells #[z] l).toList.take 0 ++ vals ++ (madeCells #[z] l).toList.drop (0 + l)).toArray).heap[w.heap.size]? = some (.cells ((madeCells #[z] l).toList.take 0 ++ vals ++ (madeCells #[z] l).toList.drop (0 + l)).toArray E (0, 0)) := setRow_heap _ _ _ _ E (0, 0) (heap_alloc_new w _)
    have e : ((madeCells #[z] l).toList.take 0 ++ vals ++ (madeCells #[z] l).toList.drop (0 + l)).toArray[j]? = some v := by
      rw [List.getElem?_toArray, List.take_zero, List.nil_append, List.getElem?_append_left hjl]
      exact hj
    unfold World.cell?
    rw [hgY]
    simpa using e

theorem bitVals_at (xs : List (BitVec 64)) (i : Nat) (h : i < xs.length) : (bitVals xs)[i]? = some (.int .u64 ((xs.getD i 0).toNat : Int)) := by
  unfold bitVals
  rw [List.getElem?_map, List.getD_eq_getElem?_getD, List.getElem?_eq_getElem h]
  rfl
theorem bitVals_one (xs : List (BitVec 64)) : ∀ v ∈ bitVals xs, v.oneCell' = true := by
  intro v hv
  obtain ⟨x, _, rfl⟩ := List.mem_map.1 hv
  rfl
theorem strVals_at (ss : List ByteArray) (i : Nat) (h : i < ss.length) : (strVals ss)[i]? = some (.string (ss.getD i ByteArray.empty)) := by
  unfold strVals
  rw [List.getElem?_map, List.getD_eq_getElem?_getD, List.getElem?_eq_getElem h]
  rfl
theorem strVals_one (ss : List ByteArray) : ∀ v ∈ strVals ss, v.oneCell' = true := by
  intro v hv
  obtain ⟨x, _, rfl⟩ := List.mem_map.1 hv
  rfl

theorem BitsAt.later {w w' : World} {p : Option Addr} {l : Nat} {xs : List (BitVec 64)} (h : BitsAt w p l xs) (hb : Below w.heap.size w w') : BitsAt w' p l xs := by
  intro h0
  obtain ⟨g, rfl, hc⟩ := h h0
  exact ⟨g, rfl, fun i hi => (hb.cell (World.block_lt_of_cell? _ _ (hc i hi))).trans (hc i hi)⟩
theorem TextsAt.later {w w' : World} {p : Option Addr} {l : Nat} {ss : List ByteArray} (h : TextsAt w p l ss) (hb : Below w.heap.size w w') : TextsAt w' p l ss := by
  intro h0
  obtain ⟨g, rfl, hc⟩ := h h0
  exact ⟨g, rfl, fun i hi => (hb.cell (World.block_lt_of_cell? _ _ (hc i hi))).trans (hc i hi)⟩

theorem ownArr_made (b : BitVec 64) (xs : List (BitVec 64)) (m : Nat) : madeCells #[Value.bool false] m = ownArr b xs m 0 := by
  apply Array.toList_inj.1
  rw [toList_madeCells_one]
  unfold ownArr
  apply List.ext_getElem
  · simp
  · intro i h1 h2
    simp [ownsAt]

theorem make_owns (b : BitVec 64) (xs : List (BitVec 64)) (m : Nat) (hm : m ≤ 65536) (W : World) : (Instr.makeSlice 27 (.int .i64 (m : Int)) (.int .i64 (m : Int))).run Tryd.prog W = .ok (.slice (some ⟨W.heap.size, 0, none⟩) m m) (W.alloc (.cells (ownArr b xs m 0) 4)) := by
  rw [← ownArr_made]
  exact run_make_row' 27 4 (.bool false) 1 Tryd.underlying27 info4 rfl .i64 .i64 m (by omega) (by omega) W

theorem wrap_bit (k : Nat) (hk : k < 64) : IntKind.u64.wrap (2 ^ k) = ((bitAt k).toNat : Int) := by
  rw [IntKind.wrap_u64, bitAt_nat k hk]
  have h : 2 ^ k < 2 ^ 64 := Nat.pow_lt_pow_right (by omega) hk
  have e : ((2 : Int) ^ k) = ((2 ^ k : Nat) : Int) := by simp
  rw [e]
  have h2 : (2 ^ 64 : Nat) = 18446744073709551616 := by decide
  generalize (2 ^ k : Nat) = q at h ⊢
  omega

theorem int_ne {x : BitVec 64} (h : x ≠ 0) : (((x.toNat : Int) == 0) = false) := by
  rw [beq_eq_false_iff_ne]
  intro e
  apply h
  apply BitVec.eq_of_toNat_eq
  simpa using e

/-- What the loop that builds the wanted text keeps. -/
def WantRel (W4 : World) (b : BitVec 64) (xs : List (BitVec 64)) (ss : List ByteArray) (m : Nat) (vw vl vj : Value) (wr : World) : Prop :=
  ∃ (j : Nat) (L : Bool), j ≤ m ∧ vj = .int .i64 j ∧ vl = .bool L ∧ wr.ownsRow W4.heap.size 5 1 vw (wantAt b xs ss j).length (byteVals (wantAt b xs ss j)) ∧ Below W4.heap.size W4 wr ∧ Hid (L = decide (partsAt b xs ss j ≠ []))

theorem strCells_eq (s : ByteArray) : Lib.strCells s = byteVals s.data.toList := rfl

theorem want_step {W4 w5 w6 : World} {b : BitVec 64} {xs : List (BitVec 64)} {ss : List ByteArray} {j m n : Nat} {v5 v6 : Value} {S : ByteArray} {sep : List UInt8} (hjm : j + 1 ≤ m)
    (hb5 : Below W4.heap.size W4 w5) (hlt5 : ∀ k, v5.ownBlock = some k → W4.heap.size ≤ k ∧ k < w5.heap.size)
    (E : wantAt b xs ss (j + 1) = wantAt b xs ss j ++ ((if partsAt b xs ss j = [] then [] else [124]) ++ (ss.getD j ByteArray.empty).data.toList) ∧ partsAt b xs ss (j + 1) = partsAt b xs ss j ++ [ss.getD j ByteArray.empty])
    (hsep : sep = if partsAt b xs ss j = [] then [] else [124]) (hS : S = ss.getD j ByteArray.empty) (hn : n = (wantAt b xs ss j).length)
    (hown6 : w6.ownsRow W4.heap.size 5 1 v6 (n + sep.length + S.size) (byteVals (wantAt b xs ss j) ++ byteVals sep ++ Lib.strCells S)) (hg : w5.grownBy w6 v5.ownBlock) :
    WantRel W4 b xs ss m v6 (.bool true) (.int .i64 ((j : Int) + 1)) w6 := by
  refine ⟨j + 1, true, hjm, by go_num, rfl, ?_, hb5.grown hg hb5.size (fun k hk => (hlt5 k hk).1), ?_⟩
  · have e3 : S.data.toList.length = S.size := by rw [Array.length_toList]; rfl
    have e : (wantAt b xs ss j ++ (sep ++ S.data.toList)).length = n + sep.length + S.size := by
      rw [List.length_append, List.length_append, ← hn, e3]
      omega
    have e2 : byteVals (wantAt b xs ss j ++ (sep ++ S.data.toList)) = byteVals (wantAt b xs ss j) ++ byteVals sep ++ Lib.strCells S := by rw [byteVals_append, byteVals_append, strCells_eq, List.append_assoc]
    rw [E.1, ← hsep, ← hS, e, e2]
    exact hown6
  · show true = _
    rw [E.2]
    simp

theorem two_bytes : ∀ u ∈ [Value.int .u8 48, Value.int .u8 120], u.oneCell' = true := by
  intro u hu
  simp at hu
  rcases hu with rfl | rfl <;> rfl

/-- string(v), v a row of the call's own. -/
theorem conv_own {W : World} {B n : Nat} {v : Value} {l : List UInt8} (h : W.ownsRow B 5 1 v n (byteVals l)) : (convert 29 9 v).run Tryd.prog W = .ok (.string ⟨l.toArray⟩) W := by
  obtain ⟨h1, h2⟩ := h
  rw [byteVals_length] at h1
  have e : strOfNums (l.map fun b => (b.toNat : Int)) = ⟨l.toArray⟩ := by
    unfold strOfNums
    congr 2
    rw [List.map_map]
    conv => rhs; rw [← List.map_id l]
    apply List.map_congr_left
    intro b _
    simp
  rcases h2 with ⟨rfl, rfl⟩ | ⟨g, cap, cur, rfl, _, hg, hc, _, hs, ht⟩
  · obtain rfl : l = [] := List.eq_nil_of_length_eq_zero (by omega)
    exact run_convert_bytes_nil W 29 5 Tryd.underlying29 Tryd.underlying5 0 0 9 Tryd.underlying9
  · have hcell : ∀ i, i < n → W.cell? ⟨g, 0 + i, none⟩ = some (.int .u8 ((l.map fun b => (b.toNat : Int)).getD i 0)) := fun i hi => by
      have e2 : (byteVals l)[i]? = some (.int .u8 ((l.map fun b => (b.toNat : Int)).getD i 0)) := by
        unfold byteVals
        rw [List.getElem?_map, List.getElem?_eq_getElem (by omega)]
        simp [List.getD, List.getElem?_eq_getElem (show i < l.length by omega)]
      rw [← ht, List.getElem?_take_of_lt (by omega), Array.getElem?_toList] at e2
      simp [World.cell?, hg, e2]
    rw [run_convert_bytes_arg (P := Tryd.prog) W 29 5 Tryd.underlying29 Tryd.underlying5 g 0 n cap (l.map fun b => (b.toNat : Int)) (by simp; omega) hcell 9 Tryd.underlying9, e]

theorem conv_ans1 {W : World} {B n : Nat} {v : Value} {ans A want r : List UInt8} (ha : ans = A) (hF : n = want.length ∧ A = want ++ ([124] ++ ([48, 120] ++ r)))
    (h : W.ownsRow B 5 1 v (n + 1 + 2 + r.length) (byteVals want ++ [.int .u8 124] ++ [.int .u8 48, .int .u8 120] ++ byteVals r)) : (convert 29 9 v).run Tryd.prog W = .ok (.string ⟨ans.toArray⟩) W := by
  have e : byteVals ans = byteVals want ++ [.int .u8 124] ++ [.int .u8 48, .int .u8 120] ++ byteVals r := by
    rw [ha, hF.2]
    simp [byteVals]
  rw [← e] at h
  exact conv_own h

theorem conv_ans0 {W : World} {B n : Nat} {v : Value} {ans A want r : List UInt8} (ha : ans = A) (hF : n = want.length ∧ A = want ++ ([] ++ ([48, 120] ++ r)))
    (h : W.ownsRow B 5 1 v (n + 2 + r.length) (byteVals want ++ [.int .u8 48, .int .u8 120] ++ byteVals r)) : (convert 29 9 v).run Tryd.prog W = .ok (.string ⟨ans.toArray⟩) W := by
  have e : byteVals ans = byteVals want ++ [.int .u8 48, .int .u8 120] ++ byteVals r := by
    rw [ha, hF.2]
    simp [byteVals]
  rw [← e] at h
  exact conv_own h

set_option maxHeartbeats 2000000 in
set_option maxRecDepth 100000 in
theorem law_any (b : BitVec 64) (pB pT : Option Addr) (lB lT cB cT : Nat) (xs : List (BitVec 64)) (ss : List ByteArray) (w : World) (hlB : lB ≤ 131072) (hlT : lT ≤ 65536)
    (hB : Src w pB lB (bitVals xs)) (hT : Src w pT lT (strVals ss)) (hTin : TextsIn w pT lT ss) (hnB : pB = none → lB = 0 ∧ cB = 0) (hnT : pT = none → lT = 0 ∧ cT = 0) (ht : w.cell? ⟨3, 15, none⟩ = some (.int .u8 4)) :
    Calls Tryd.prog 3 #[.int .u64 (b.toNat : Int), .slice pB lB cB, .slice pT lT cT] w fun e w' => e = .returned (.bool true) ∧ Below w.heap.size w w' := by
  have HZ := Lib.hid (fun W hTin => bytes_any (b.toNat : Int) pB pT lB lT cB cT ss W hTin)
  have HTI := Lib.hid hTin
  have HBs := Lib.hid hB
  have HTs := Lib.hid hT
  have HNB := Lib.hid hnB
  have HNT := Lib.hid hnT
  clear hTin hB hT hnB hnT
  go_enter Tryd.func3, Tryd.ntmps3
  go_upto_if 36 with (go_at_call 4; refine (HZ.out _ HTI.out).mono ?_; rintro e w' ⟨⟨bb, rfl, hbb⟩, rfl⟩; have HBB := Lib.hid hbb; clear hbb)
  · go_ret
    exact ⟨rfl, Below.refl _ _⟩
  rename_i hbt
  have HSZ := Lib.hid (HBB.out (by simpa using ‹(!bb) = false›))
  clear HZ HTI HBB
  go_cut [1] (fun s1 w1 => ∃ p c, s1 = .slice p lB c ∧ BitsAt w1 p lB xs ∧ Below w.heap.size w w1)
  case first =>
    obtain ⟨hlen, hsrc⟩ := HBs.out
    have hxl : xs.length = lB := by simpa [bitVals] using hlen
    rcases hsrc with rfl | ⟨a, rfl, hsrc⟩
    · obtain ⟨rfl, rfl⟩ := HNB.out rfl
      clear HBs HNB hlen hxl HTs HNT
      go_wp2
      go_meet
      case rel => exact ⟨none, 0, rfl, fun h => absurd h (by omega), Below.refl _ _⟩
    · obtain ⟨M, W1, hmk, hcp, hb1, hcells⟩ := copied w 23 22 (.int .u64 0) 8 lB cB a (bitVals xs) Tryd.underlying23 info22 rfl size22 (by omega) (by omega) hlen (bitVals_one xs) hsrc
      have HC := Lib.hid hcells
      have HXL := Lib.hid hxl
      clear HBs HNB hlen hxl HTs HNT hsrc hcells
      go_wp2
      go_meet
      case rel => exact ⟨some ⟨w.heap.size, 0, none⟩, lB, rfl, fun _ => ⟨w.heap.size, rfl, fun i hi => HC.out i _ (bitVals_at xs i (by have := HXL.out; omega))⟩, hb1⟩
  case rest =>
    obtain ⟨pB1, cB1, rfl, hbits, hb1⟩ := hcut
    have HB1 := Lib.hid hbits
    have HL1 := Lib.hid HBs.out.1
    clear HBs HNB hbits
    go_upto_if 45 with fail
    go_cut [2] (fun s2 w1 => ∃ p c, s2 = .slice p lT c ∧ TextsAt w1 p lT ss ∧ BitsAt w1 pB1 lB xs ∧ Below w.heap.size w w1)
    case first =>
      obtain ⟨hlen, hsrc⟩ := HTs.out
      have hxl : ss.length = lT := by simpa [strVals] using hlen
      rcases hsrc with rfl | ⟨a, rfl, hsrc⟩
      · obtain ⟨rfl, rfl⟩ := HNT.out rfl
        clear HTs HNT hlen hxl
        go_wp2
        go_meet
        case rel => exact ⟨none, 0, rfl, fun h => absurd h (by omega), HB1.out, hb1⟩
      · have hsrc1 : ∀ j v, (strVals ss)[j]? = some v → wc.cell? (a.add j) = some v := fun j v hj => (hb1.cell (World.block_lt_of_cell? _ _ (hsrc j v hj))).trans (hsrc j v hj)
        obtain ⟨M, W1, hmk, hcp, hb2, hcells⟩ := copied wc 24 9 (.string ByteArray.empty) 16 lT cT a (strVals ss) Tryd.underlying24 info9 rfl size9 (by omega) (by omega) hlen (strVals_one ss) hsrc1
        have HC := Lib.hid hcells
        have HXL := Lib.hid hxl
        have hs1 := hb1.size
        clear HTs HNT hlen hxl hsrc hsrc1 hcells
        go_wp2
        go_meet
        case rel => exact ⟨some ⟨wc.heap.size, 0, none⟩, lT, rfl, fun _ => ⟨wc.heap.size, rfl, fun i hi => HC.out i _ (strVals_at ss i (by have := HXL.out; omega))⟩, HB1.out.later hb2, hb1.trans (hb2.mono hs1)⟩
    case rest =>
      obtain ⟨pT1, cT1, rfl, htexts, hbits, hb2⟩ := hcut
      rename_i w0
      have HB2 := Lib.hid hbits
      have HT2 := Lib.hid htexts
      have HXL := Lib.hid (show xs.length = lB by simpa [bitVals] using HL1.out)
      have HSL := Lib.hid (show ss.length = lT by simpa [strVals] using HTs.out.1)
      clear HB1 hb1 HTs HNT hbits htexts HL1
      by_cases htot : 1048576 < 8 * lB + 16 * lT
      · go_wp2
        go_ret
        exact ⟨rfl, hb2⟩
      go_wp2
      go_loop [9, 10] (fun vt vi => ∃ i T : Nat, i ≤ lT ∧ vi = .int .i64 i ∧ vt = .int .i64 T ∧ T ≤ 1048576 ∧ Hid (T = 8 * lB + 16 * lT + sumTo ss i)) (fun _ vi => lT - (intOf vi).toNat)
      case atStart => exact ⟨0, 8 * lB + 16 * lT, Nat.zero_le _, rfl, by go_num, by omega, rfl⟩
      case round =>
        obtain ⟨i, T, hi, rfl, rfl, hT1, HT⟩ := hrel
        by_cases hlt : i < lT
        · obtain ⟨g, rfl, hcells⟩ := HT2.out (by omega)
          have hc := hcells i hlt
          have hsum : sumTo ss (i + 1) = sumTo ss i + (ss.getD i ByteArray.empty).size := rfl
          obtain ⟨s, hs⟩ : ∃ s, s = ss.getD i ByteArray.empty := ⟨_, rfl⟩
          rw [← hs] at hc hsum
          have HSU := Lib.hid hsum
          have hss := HSZ.out i hlt
          rw [← hs] at hss
          clear hs hcells HT2 hsum
          go_wp2
          all_goals first
            | (go_ret; exact ⟨rfl, hb2⟩)
            | (go_round
               case rel => exact ⟨i + 1, T + s.size, by omega, by go_num, by go_num, by omega, Lib.hid (by have := HT.out; have := HSU.out; omega)⟩
               case measure => simp [intOf]; omega)
        · obtain rfl : i = lT := by omega
          have hsum : sumTo ss i ≤ 1048576 := by have := HT.out; omega
          obtain ⟨m, hm⟩ : ∃ m, m = min lB i := ⟨_, rfl⟩
          have hm1 : m ≤ lB := by omega
          have hm2 : m ≤ i := by omega
          have hxl := HXL.out
          have hslen := answer_le b xs ss m (by omega) (Nat.le_trans (sumTo_mono ss hm2) hsum)
          have HC5 := Lib.hid (zz_any b pB1 pT1 lB i cB1 cT1 m xs ss wc hm hlB hlT (by omega) HB2.out HT2.out ((hb2.cell (World.block_lt_of_cell? _ _ ht)).trans ht) (by omega))
          obtain ⟨ans, hans⟩ : ∃ ans, ans = answer b xs ss m := ⟨_, rfl⟩
          rw [← hans] at HC5
          have HANS := Lib.hid hans
          have HSUM := Lib.hid hsum
          have HM := Lib.hid hm
          clear hans hsum hm hxl hslen HT
          go_upto_if 86 with (go_at_call 5; refine HC5.out.mono ?_; rintro e w2 ⟨rfl, hb3⟩)
          go_cut [12] (fun s12 w1 => s12 = .int .i64 (m : Int) ∧ w2 = w1)
          case first =>
            have hm := HM.out
            by_cases hc : i < lB
            · obtain rfl : m = i := by omega
              clear hm HM
              go_wp2
              go_meet
              case rel => exact ⟨rfl, rfl⟩
            · obtain rfl : m = lB := by omega
              clear hm HM
              go_wp2
              go_meet
              case rel => exact ⟨rfl, rfl⟩
          case rest =>
            obtain ⟨rfl, rfl⟩ := hcut
            have hmk := make_owns b xs m (by omega)
            have hs2 := hb2.size
            have HB3 := Lib.hid (HB2.out.later hb3)
            have HT3 := Lib.hid (HT2.out.later hb3)
            have B3 := Lib.hid (hb2.trans (hb3.mono hs2))
            clear HB2 HT2 hb2 hb3 hs2 HC5 HSZ
            go_wp2
            go_loopw [14, 15] (fun vc vk wr => ∃ k : Nat, k ≤ 64 ∧ vk = .int .i64 k ∧ vc = .int .u64 ((coveredAt b xs m k).toNat : Int) ∧ wr = w2.alloc (.cells (ownArr b xs m k) 4)) (fun _ vk _ => 64 - (intOf vk).toNat)
            case atStart => exact ⟨0, by omega, rfl, by rw [coveredAt_zero]; rfl, rfl⟩
            case round =>
              clear hmk
              obtain ⟨k, hk, rfl, rfl, rfl⟩ := hrel
              by_cases hk64 : k < 64
              · have hbit := wrap_bit k hk64
                obtain ⟨P, hP⟩ : ∃ P, P = ((bitAt k).toNat : Int) := ⟨_, rfl⟩
                rw [← hP] at hbit
                obtain ⟨Cv, hCv⟩ : ∃ Cv, Cv = ((coveredAt b xs m k).toNat : Int) := ⟨_, rfl⟩
                rw [← hCv]
                have hxl := HXL.out
                cases hbk : b.getLsbD k with
                | false =>
                  have hand : (bits .and .u64 (b.toNat : Int) P == 0) = true := by rw [hP, and_vec, (and_bit b k hk64).2 hbk]; rfl
                  have e1 := coveredAt_miss b xs m k hk64 (.inl hbk)
                  have e2 := ownArr_skip b xs m k hbk
                  have E := Lib.hid (And.intro hCv (And.intro e1 e2))
                  clear hP hCv hbk e1 e2 hxl
                  go_wp2
                  exact ⟨⟨k + 1, by omega, by go_num, by rw [E.out.2.1, ← E.out.1], by rw [E.out.2.2]⟩, by simp [intOf]; omega⟩
                | true =>
                  have hand : (bits .and .u64 (b.toNat : Int) P == 0) = false := by
                    rw [hP, and_vec]
                    exact int_ne (fun e => by rw [(and_bit b k hk64).1 e] at hbk; cases hbk)
                  have HP := Lib.hid hP
                  have HCv := Lib.hid hCv
                  have HBK := Lib.hid hbk
                  clear hP hCv hbk hxl
                  go_wp2
                  go_loopw [14, 17] (fun vc vj wr => ∃ j : Nat, j ≤ m ∧ vj = .int .i64 j ∧ vc = .int .u64 Cv ∧ wr = w2.alloc (.cells (ownArr b xs m k) 4) ∧ Hid ((orUpto xs j).getLsbD k = false)) (fun _ vj _ => m - (intOf vj).toNat)
                  case atStart => exact ⟨0, Nat.zero_le _, rfl, rfl, rfl, by show _ = _; simp [orUpto]⟩
                  case round =>
                    obtain ⟨j, hj, rfl, rfl, rfl, HO⟩ := hrel
                    by_cases hjm : j < m
                    · obtain ⟨g, rfl, hcells⟩ := HB3.out (by omega)
                      have hcB := cell?_alloc_old' (.cells (ownArr b xs m k) 4) (hcells j (by omega))
                      obtain ⟨X, hX⟩ : ∃ X, X = ((xs.getD j 0).toNat : Int) := ⟨_, rfl⟩
                      rw [← hX] at hcB
                      have hv0 := ownArr_at b xs m k j hjm
                      obtain ⟨A0, hA0⟩ : ∃ A0, A0 = ownArr b xs m k := ⟨_, rfl⟩
                      rw [← hA0] at hv0 hcB ⊢
                      have HA0 := Lib.hid hA0
                      have hxl := HXL.out
                      cases hxk : (xs.getD j 0).getLsbD k with
                      | true =>
                        have hand2 : (bits .and .u64 X P != 0) = true := by
                          rw [hX, HP.out, and_vec]
                          have := int_ne (x := xs.getD j 0 &&& bitAt k) (fun e => by rw [(and_bit _ k hk64).1 e] at hxk; cases hxk)
                          simpa using this
                        have hor : bits .or .u64 Cv P = ((coveredAt b xs m (k + 1)).toNat : Int) := by rw [HCv.out, HP.out, or_vec, covered_hit b xs m k j hk64 (by omega) hjm HBK.out hxk]
                        obtain ⟨D, hD⟩ : ∃ D, D = ((coveredAt b xs m (k + 1)).toNat : Int) := ⟨_, rfl⟩
                        rw [← hD] at hor
                        have E := Lib.hid (And.intro hD (ownArr_hit b xs m k j (by omega) hjm HBK.out HO.out hxk))
                        clear hD hX hxk hcells hA0 hxl
                        go_wp2
                        exact ⟨⟨k + 1, by omega, by go_num, by rw [← E.out.1], by rw [E.out.2, HA0.out]⟩, by simp [intOf]; omega⟩
                      | false =>
                        have hand2 : (bits .and .u64 X P != 0) = false := by rw [hX, HP.out, and_vec, (and_bit _ k hk64).2 hxk]; rfl
                        have E := Lib.hid (orUpto_next xs k j (by omega) HO.out hxk)
                        clear hX hxk hcells hA0 hxl
                        go_wp2
                        exact ⟨⟨j + 1, by omega, by go_num, by first | rfl | trivial, by first | trivial | rw [HA0.out], E⟩, by simp [intOf]; omega⟩
                    · obtain rfl : j = m := by omega
                      have hxl := HXL.out
                      have E := Lib.hid (And.intro HCv.out (And.intro (coveredAt_miss b xs j k hk64 (.inr HO.out)) (ownArr_none b xs j k (by omega) HO.out)))
                      clear hxl
                      go_wp2
                      exact ⟨⟨k + 1, by omega, by go_num, by rw [E.out.2.1, ← E.out.1], by rw [E.out.2.2]⟩, by simp [intOf]; omega⟩
              · obtain rfl : k = 64 := by omega
                have hnot := andNot_vec b (coveredAt b xs m 64)
                rw [leftover_eq] at hnot
                obtain ⟨Cv, hCv⟩ : ∃ Cv, Cv = ((coveredAt b xs m 64).toNat : Int) := ⟨_, rfl⟩
                obtain ⟨Q, hQ⟩ : ∃ Q, Q = ((restAt b xs m).toNat : Int) := ⟨_, rfl⟩
                obtain ⟨W4, hW4⟩ : ∃ W4, W4 = w2.alloc (.cells (ownArr b xs m 64) 4) := ⟨_, rfl⟩
                rw [← hCv, ← hQ] at hnot
                rw [← hCv, ← hW4]
                have hxl := HXL.out
                have HOW : Hid (∀ j, j < m → W4.cell? ⟨w2.heap.size, j, none⟩ = some (.bool (takes b xs j))) := fun j hj => by
                  rw [hW4, ← owns_takes b xs j (by omega)]
                  simp [ownArr_at b xs m 64 j hj]
                have hb4 : Below w2.heap.size w2 W4 := by rw [hW4]; exact (Below.refl _ _).alloc (Nat.le_refl _) _
                have HT4 := Lib.hid (HT3.out.later hb4)
                have B4 := Lib.hid (B3.out.trans (hb4.mono B3.out.size))
                have HQ := Lib.hid hQ
                clear hCv hQ hW4 hb4 hxl HB3 HT3 B3
                obtain ⟨i0, hinf, hz0, hz1, hz2⟩ := info_parts info5
                go_wp2
                go_loopw [19, 20, 21] (fun vw vl vj wr => WantRel W4 b xs ss m vw vl vj wr) (fun _ _ vj _ => m - (intOf vj).toNat)
                case atStart => exact ⟨0, false, Nat.zero_le _, rfl, rfl, World.ownsRow_nil _ _ _ _, Below.refl _ _, rfl⟩
                case round =>
                  obtain ⟨j, L, hj, rfl, rfl, hown, hbw, HL⟩ := hrel
                  have hlt := hown.lt
                  have hszw := hbw.size
                  have hwl := wantAt_le b xs ss j m hj (by omega) (Nat.le_trans (sumTo_mono ss hm2) HSUM.out)
                  obtain ⟨n, hn⟩ : ∃ n, n = (wantAt b xs ss j).length := ⟨_, rfl⟩
                  rw [← hn] at hwl
                  have HO : Hid (wr.ownsRow W4.heap.size 5 1 u19 n (byteVals (wantAt b xs ss j))) := by rw [hn]; exact hown
                  have HN := Lib.hid hn
                  clear hown hn
                  by_cases hjm : j < m
                  · obtain ⟨gT, rfl, hcells⟩ := HT4.out (by omega)
                    have hcT0 := hcells j (by omega)
                    have hoC : wr.cell? ⟨w2.heap.size, j, none⟩ = some (.bool (takes b xs j)) := (hbw.cell (World.block_lt_of_cell? _ _ (HOW.out j hjm))).trans (HOW.out j hjm)
                    obtain ⟨S, hS⟩ : ∃ S, S = ss.getD j ByteArray.empty := ⟨_, rfl⟩
                    rw [← hS] at hcT0
                    have hSs : S.size ≤ 1048576 := by
                      have h1 := sumTo_mono ss (show j + 1 ≤ i by omega)
                      have h2 : sumTo ss (j + 1) = sumTo ss j + (ss.getD j ByteArray.empty).size := rfl
                      have h3 := HSUM.out
                      rw [hS]
                      omega
                    have HS := Lib.hid hS
                    have hgT := World.block_lt_of_cell? _ _ hcT0
                    have hcT : wr.cell? ⟨gT, j, none⟩ = some (.string S) := (hbw.cell hgT).trans hcT0
                    clear hS hcells
                    cases htk : takes b xs j with
                    | false =>
                      rw [htk] at hoC
                      have E := Lib.hid (And.intro (wantAt_skip b xs ss j htk) (partsAt_skip b xs ss j htk))
                      clear htk
                      go_wp2
                      go_roundw
                      case rel => exact ⟨j + 1, L, by omega, by go_num, rfl, by rw [E.out.1, ← HN.out]; exact HO.out, hbw, by rw [E.out.2]; exact HL.out⟩
                      case measure => simp [intOf]; omega
                    | true =>
                      rw [htk] at hoC
                      have E := Lib.hid (And.intro (wantAt_take b xs ss j htk) (partsAt_take b xs ss j htk))
                      clear htk
                      cases L with
                      | false =>
                        go_wp2_with (at_builtin; refine Lib.wpList_append_own_string _ rfl (.tmp 136) (.tmp 140) 29 9 rfl W4.heap.size 5 i0 Tryd.underlying29 Tryd.underlying9 hinf hz0 hz1 hz2 u19 n _ rfl HO.out S rfl (by unfold maxLen; omega) (by omega) (by omega) ?_; intro v6 w6 hown6 hgrow6 _)
                        go_roundw
                        case rel =>
                          have X := want_step (j := j) (m := m) (sep := []) (by omega) hbw hlt E.out (by simpa using HL.out) HS.out HN.out (by rw [show byteVals ([] : List UInt8) = [] from rfl, List.append_nil]; exact hown6) hgrow6
                          first | exact X | exact ⟨_, _, _, X, rfl, rfl, rfl⟩
                        case measure => simp [intOf]; omega
                      | true =>
                        go_wp2_with (first
                          | (at_builtin; refine wpList_append_own _ rfl (.tmp 133) (.tmp 134) 29 rfl W4.heap.size 5 i0 (.int .u8 0) 1 1 Tryd.underlying29 hinf hz0 hz1 hz2 rfl (by decide) u19 n _ rfl (HO.out.alloc _) ⟨wr.heap.size, 0, none⟩ 1 1 [.int .u8 124] rfl rfl (cell_one_new _ _ _) (fun x hx => by simp at hx; subst hx; rfl) (by unfold maxLen; omega) (by omega) (by simp; omega) ?_; intro v5 w5 hown5 hgrow5 _; have hb5 : Below W4.heap.size W4 w5 := (hbw.alloc hszw _).grown hgrow5 (by simp; omega) (fun k hk => (hlt k hk).1); have hcT5 : w5.cell? ⟨gT, j, none⟩ = some (.string S) := (hb5.cell hgT).trans hcT0; have hsz5 := hb5.size; have hlt5 := hown5.lt)
                          | (at_builtin; refine Lib.wpList_append_own_string _ rfl (.tmp 136) (.tmp 140) 29 9 rfl W4.heap.size 5 i0 Tryd.underlying29 Tryd.underlying9 hinf hz0 hz1 hz2 v5 (n + 1) _ rfl hown5 S rfl (by unfold maxLen; omega) (by omega) (by omega) ?_; intro v6 w6 hown6 hgrow6 _))
                        go_roundw
                        case rel =>
                          have X := want_step (j := j) (m := m) (sep := [124]) (by omega) hb5 hlt5 E.out (by simpa using HL.out) HS.out HN.out hown6 hgrow6
                          first | exact X | exact ⟨_, _, _, X, rfl, rfl, rfl⟩
                        case measure => simp [intOf]; omega
                  · obtain rfl : j = m := by omega
                    have hn := HN.out
                    by_cases hfull : restAt b xs j ≠ 0 ∨ partsAt b xs ss j = []
                    · have HAP : Hid (∀ (W : World) (n : Nat) (v : Value) (l : List Value), W.ownsRow W4.heap.size 5 1 v n l → W4.heap.size ≤ W.heap.size → n ≤ 1099511627776 → Calls Tryd.prog 6 #[v, .int .u64 Q] W fun e w' => ∃ v', e = .returned v' ∧ w'.ownsRow W4.heap.size 5 1 v' (n + (hex (restAt b xs j).toNat).length) (l ++ byteVals (hex (restAt b xs j).toNat)) ∧ Below W4.heap.size W w') := fun W n v l h1 h2 h3 => by
                        rw [HQ.out]
                        by_cases h0 : (restAt b xs j).toNat = 0
                        · rw [h0]; exact app_zero W4.heap.size n v l W h1 h2 h3
                        · exact app_pos _ (restAt b xs j).isLt h0 W4.heap.size n v l W h1 h2 h3
                      have hA := answer_full b xs ss j hfull
                      cases L with
                      | true =>
                        have hpn : partsAt b xs ss j ≠ [] := by simpa using HL.out
                        have hQn : (Q != 0) = true := by
                          rw [HQ.out]
                          have := int_ne (x := restAt b xs j) (by rcases hfull with h | h; exact h; exact absurd h hpn)
                          simpa using this
                        rw [if_neg hpn] at hA
                        have HF := Lib.hid (And.intro hn hA)
                        clear hn hA hfull hpn
                        go_wp2_with (first
                          | (at_builtin; refine wpList_append_own _ rfl (.tmp 149) (.tmp 150) 29 rfl W4.heap.size 5 i0 (.int .u8 0) 1 1 Tryd.underlying29 hinf hz0 hz1 hz2 rfl (by decide) u19 n _ rfl (HO.out.alloc _) ⟨wr.heap.size, 0, none⟩ 1 1 [.int .u8 124] rfl rfl (cell_one_new _ _ _) (fun x hx => by simp at hx; subst hx; rfl) (by unfold maxLen; omega) (by omega) (by simp; omega) ?_; intro v5 w5 hown5 hgrow5 _; have hb5 : Below W4.heap.size W4 w5 := (hbw.alloc hszw _).grown hgrow5 (by simp; omega) (fun k hk => (hlt k hk).1); have hsz5 := hb5.size; have hlt5 := hown5.lt; have HO5 := Lib.hid hown5; clear hown5)
                          | (at_builtin; refine wpList_append_own _ rfl (.tmp 152) (.tmp 153) 29 rfl W4.heap.size 5 i0 (.int .u8 0) 1 1 Tryd.underlying29 hinf hz0 hz1 hz2 rfl (by decide) v5 (n + 1) _ rfl (HO5.out.alloc _) ⟨w5.heap.size, 0, none⟩ 2 2 [.int .u8 48, .int .u8 120] rfl rfl (cell_two_new _ _ _ _) two_bytes (by unfold maxLen; omega) (by omega) (by simp; omega) ?_; intro v6 w6 hown6 hgrow6 _; have hb6 : Below W4.heap.size W4 w6 := (hb5.alloc hsz5 _).grown hgrow6 (by simp; omega) (fun k hk => (hlt5 k hk).1); have hsz6 := hb6.size; have HO6 := Lib.hid hown6)
                          | (go_at_call 6; refine (HAP.out w6 ((n + 1) + 2) v6 _ HO6.out (by omega) (by omega)).mono ?_; rintro e w7 ⟨v7, rfl, hown7, hb7⟩; have hcv7 := conv_ans1 HANS.out HF.out hown7))
                        go_ret
                        exact ⟨rfl, B4.out.trans ((hb6.trans hb7).mono B4.out.size)⟩
                      | false =>
                        have hpn : partsAt b xs ss j = [] := by simpa using HL.out
                        rw [if_pos hpn] at hA
                        have HF := Lib.hid (And.intro hn hA)
                        clear hn hA hfull hpn
                        by_cases hQ0 : Q = 0
                        · have hQn : (Q != 0) = false := by simp [hQ0]
                          clear hQ0
                          go_wp2_with (first
                            | (at_builtin; refine wpList_append_own _ rfl (.tmp 152) (.tmp 153) 29 rfl W4.heap.size 5 i0 (.int .u8 0) 1 1 Tryd.underlying29 hinf hz0 hz1 hz2 rfl (by decide) u19 n _ rfl (HO.out.alloc _) ⟨wr.heap.size, 0, none⟩ 2 2 [.int .u8 48, .int .u8 120] rfl rfl (cell_two_new _ _ _ _) two_bytes (by unfold maxLen; omega) (by omega) (by simp; omega) ?_; intro v6 w6 hown6 hgrow6 _; have hb6 : Below W4.heap.size W4 w6 := (hbw.alloc hszw _).grown hgrow6 (by simp; omega) (fun k hk => (hlt k hk).1); have hsz6 := hb6.size; have HO6 := Lib.hid hown6)
                            | (go_at_call 6; refine (HAP.out w6 (n + 2) v6 _ HO6.out (by omega) (by omega)).mono ?_; rintro e w7 ⟨v7, rfl, hown7, hb7⟩; have hcv7 := conv_ans0 HANS.out HF.out hown7))
                          go_ret
                          exact ⟨rfl, B4.out.trans ((hb6.trans hb7).mono B4.out.size)⟩
                        · have hQn : (Q != 0) = true := by simp [hQ0]
                          clear hQ0
                          go_wp2_with (first
                            | (at_builtin; refine wpList_append_own _ rfl (.tmp 152) (.tmp 153) 29 rfl W4.heap.size 5 i0 (.int .u8 0) 1 1 Tryd.underlying29 hinf hz0 hz1 hz2 rfl (by decide) u19 n _ rfl (HO.out.alloc _) ⟨wr.heap.size, 0, none⟩ 2 2 [.int .u8 48, .int .u8 120] rfl rfl (cell_two_new _ _ _ _) two_bytes (by unfold maxLen; omega) (by omega) (by simp; omega) ?_; intro v6 w6 hown6 hgrow6 _; have hb6 : Below W4.heap.size W4 w6 := (hbw.alloc hszw _).grown hgrow6 (by simp; omega) (fun k hk => (hlt k hk).1); have hsz6 := hb6.size; have HO6 := Lib.hid hown6)
                            | (go_at_call 6; refine (HAP.out w6 (n + 2) v6 _ HO6.out (by omega) (by omega)).mono ?_; rintro e w7 ⟨v7, rfl, hown7, hb7⟩; have hcv7 := conv_ans0 HANS.out HF.out hown7))
                          go_ret
                          exact ⟨rfl, B4.out.trans ((hb6.trans hb7).mono B4.out.size)⟩
                    · have hA := answer_bare b xs ss j hfull
                      have hpn : partsAt b xs ss j ≠ [] := fun e => hfull (.inr e)
                      have hr0 : restAt b xs j = 0 := Decidable.byContradiction fun e => hfull (.inl e)
                      have hQn : (Q != 0) = false := by rw [HQ.out, hr0]; rfl
                      obtain rfl : L = true := by rw [HL.out]; simpa using hpn
                      have hcv := conv_own HO.out
                      rw [← hA, ← HANS.out] at hcv
                      clear hn hA hfull hpn hr0
                      go_wp2
                      go_ret
                      exact ⟨rfl, B4.out.trans (hbw.mono B4.out.size)⟩
end Go.Proofs.Qxb6617329aDoor
