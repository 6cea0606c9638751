/-
  THE WALK of protocol.ZZFormatFlags (seat b6617329aD): the table of names is built by append, in a region that draws its order.
-/
import Derived.Test.Qxb6617329aDoorFlags
import Derived.Deep.RegionLaw
namespace Go.Proofs.Qxb6617329aDoor
open Go.RowKit
set_option linter.unusedVariables false
set_option linter.unusedSimpArgs false

/-- append onto a row of the call's own, as one step of a region that draws its order. -/
theorem step_append_own {P : Program} {ops : Array Oper} {o : Oper} {a : Act} {w : World} {K : Act → World → Prop} {Q : Exit → Act → World → Prop} {E : Prop}
    (hg : o.guard = none) (s x : Operand) (t : TypeId) (hop : o.op = Op.call { callee := Callee.builtin Builtin.append, args := #[s, x], argTypes := #[t, t] })
    (base : Nat) (e : TypeId) (i : TypeInfo) (z : Value) (size bytes : Nat) (h1 : P.underlying t = some (.slice e)) (h2 : P.info? e = some i) (h3 : i.zero = some z) (h4 : i.size = size) (h5 : i.bytes = bytes) (h6 : z.cells.size = size) (h7 : 0 < size)
    (v : Value) (n : Nat) (xs : List Value) (hs : a.eval s = v) (hown : w.ownsRow base e size v n xs)
    (ad : Addr) (m c : Nat) (news : List Value) (hx : a.eval x = .slice (some ad) m c) (hl : news.length = m * size) (hnews : ∀ j u, news[j]? = some u → w.cell? (ad.add j) = some u) (h1c : ∀ u ∈ news, u.oneCell' = true)
    (b1 : n + m ≤ maxLen) (b2 : (n + m) * bytes ≤ 140737488355328) (hbase : base ≤ w.heap.size)
    (hK : ∀ v' w', w'.ownsRow base e size v' (n + m) (xs ++ news) → w.grownBy w' v.ownBlock → K (a.put o.dst v') w') :
    if Region.wanted o (yielded ops a.tmps) = true then Oper.wp P o a w K Q else E := by
  have hw : Region.wanted o (yielded ops a.tmps) = true := by simp [Region.wanted, hg]
  rw [if_pos hw]
  obtain ⟨v', w', hrun, r1, r2, _⟩ := run_append_own (P := P) w base t o.type e i z size bytes h1 h2 h3 h4 h5 h6 h7 v n xs hown ad m c news hl hnews h1c b1 b2 hbase
  unfold Oper.wp
  simp [execOp, hop, resolve, invoke, builtin, hs, hx, hrun, Result.andThen]
  exact hK v' w' r1 r2

theorem info33 : (Tryd.prog.info? 33).map (fun i => (i.zero, i.size, i.bytes)) = some (some (.agg #[.int .u64 0, .string ByteArray.empty]), 2, 24) := by kernel_rfl

/-- WHERE A SLICE OF MASKS LIES, of texts. -/
def BitsAt (w : World) (p : Option Addr) (len : Nat) (xs : List (BitVec 64)) : Prop :=
  0 < len → ∃ g, p = some ⟨g, 0, none⟩ ∧ ∀ i, i < len → w.cell? ⟨g, i, none⟩ = some (.int .u64 ((xs.getD i 0).toNat : Int))
def TextsAt (w : World) (p : Option Addr) (len : Nat) (ss : List ByteArray) : Prop :=
  0 < len → ∃ g, p = some ⟨g, 0, none⟩ ∧ ∀ i, i < len → w.cell? ⟨g, i, none⟩ = some (.string (ss.getD i ByteArray.empty))

/-- The table's cells. -/
def nameVals (xs : List (BitVec 64)) (ss : List ByteArray) (i : Nat) : List Value := ((List.range i).map fun j => [Value.int .u64 ((xs.getD j 0).toNat : Int), .string (ss.getD j ByteArray.empty)]).flatten

theorem nameVals_succ (xs : List (BitVec 64)) (ss : List ByteArray) (i : Nat) : nameVals xs ss (i + 1) = nameVals xs ss i ++ [Value.int .u64 ((xs.getD i 0).toNat : Int), .string (ss.getD i ByteArray.empty)] := by
  unfold nameVals
  rw [List.range_succ, List.map_append, List.flatten_append]
  simp

theorem nameVals_length (xs : List (BitVec 64)) (ss : List ByteArray) : ∀ i, (nameVals xs ss i).length = i * 2
  | 0 => rfl
  | i + 1 => by rw [nameVals_succ, List.length_append, nameVals_length xs ss i]; simp; omega

theorem nameVals_at (xs : List (BitVec 64)) (ss : List ByteArray) (j : Nat) : ∀ i, j < i → (nameVals xs ss i)[j * 2]? = some (.int .u64 ((xs.getD j 0).toNat : Int)) ∧ (nameVals xs ss i)[j * 2 + 1]? = some (.string (ss.getD j ByteArray.empty))
  | i + 1, h => by
    rw [nameVals_succ]
    by_cases e : j < i
    · rw [List.getElem?_append_left (by rw [nameVals_length]; omega), List.getElem?_append_left (by rw [nameVals_length]; omega)]
      exact nameVals_at xs ss j i e
    · obtain rfl : j = i := by omega
      rw [List.getElem?_append_right (by rw [nameVals_length]; omega), List.getElem?_append_right (by rw [nameVals_length]; omega), nameVals_length]
      simp

theorem two_one (x : Int) (s : ByteArray) : ∀ u ∈ [Value.int .u64 x, .string s], u.oneCell' = true := by
  intro u hu
  simp at hu
  rcases hu with rfl | rfl <;> rfl

theorem names_of {w : World} {B i : Nat} {v : Value} {xs : List (BitVec 64)} {ss : List ByteArray} (h : w.ownsRow B 33 2 v i (nameVals xs ss i)) : ∃ p cap, v = .slice p i cap ∧ NamesAt w p i xs ss := by
  obtain ⟨_, h2⟩ := h
  rcases h2 with ⟨rfl, rfl⟩ | ⟨g, cap, cur, rfl, _, hg, _, _, hs, ht⟩
  · exact ⟨none, 0, rfl, fun h => absurd h (by omega)⟩
  · refine ⟨_, cap, rfl, fun _ => ⟨g, rfl, fun j hj => ?_⟩⟩
    obtain ⟨e1, e2⟩ := nameVals_at xs ss j i hj
    rw [← ht, List.getElem?_take_of_lt (by omega), Array.getElem?_toList] at e1 e2
    constructor
    · simp [World.cell?, hg, e1]
    · simp [World.cell?, hg, e2]

set_option maxHeartbeats 1000000 in
theorem zz_any (b : BitVec 64) (pB pT : Option Addr) (lB lT cB cT m : Nat) (xs : List (BitVec 64)) (ss : List ByteArray) (w : World) (hm : m = min lB lT) (hlB : lB ≤ 131072) (hlT : lT ≤ 65536) (hx : m ≤ xs.length)
    (hBits : BitsAt w pB lB xs) (hTexts : TextsAt w pT lT ss) (ht : w.cell? ⟨3, 15, none⟩ = some (.int .u8 4)) (hlen : (answer b xs ss m).length ≤ 140737488355328) :
    Calls Tryd.prog 5 #[.int .u64 (b.toNat : Int), .slice pB lB cB, .slice pT lT cT] w fun e w' => e = .returned (.string ⟨(answer b xs ss m).toArray⟩) ∧ Below w.heap.size w w' := by
  obtain ⟨i0, hi, hz0, hz1, hz2⟩ := info_parts info33
  have HB : Hid (BitsAt w pB lB xs) := hBits
  have HT : Hid (TextsAt w pT lT ss) := hTexts
  have HLEN : Hid ((answer b xs ss m).length ≤ 140737488355328) := hlen
  have hm1 : m ≤ lB := by omega
  have hm2 : m ≤ lT := by omega
  have HM : Hid (m = min lB lT) := hm
  clear hBits hTexts hlen hm
  go_enter Tryd.func5, Tryd.ntmps5
  go_wp2
  go_loopw [7, 8] (fun vn vi wr => ∃ i : Nat, i ≤ m ∧ vi = .int .i64 i ∧ wr.ownsRow w.heap.size 33 2 vn i (nameVals xs ss i) ∧ Below w.heap.size w wr)
    (fun _ vi _ => m - (intOf vi).toNat)
  case atStart => exact ⟨0, Nat.zero_le _, rfl, World.ownsRow_nil _ _ _ _, Below.refl _ _⟩
  case round =>
    obtain ⟨i, hi', rfl, hown, hb⟩ := hrel
    have hlt := hown.lt
    have hsz := hb.size
    by_cases him : i < m
    · obtain ⟨gB, rfl, hcB⟩ := HB.out (by omega)
      obtain ⟨gT, rfl, hcT⟩ := HT.out (by omega)
      have hc1 : wr.cell? ⟨gB, i, none⟩ = some (.int .u64 ((xs.getD i 0).toNat : Int)) := (hb.cell (World.block_lt_of_cell? _ _ (hcB i (by omega)))).trans (hcB i (by omega))
      have hc2 : wr.cell? ⟨gT, i, none⟩ = some (.string (ss.getD i ByteArray.empty)) := (hb.cell (World.block_lt_of_cell? _ _ (hcT i (by omega)))).trans (hcT i (by omega))
      obtain ⟨X, hX⟩ : ∃ X, X = ((xs.getD i 0).toNat : Int) := ⟨_, rfl⟩
      obtain ⟨S, hS⟩ : ∃ S, S = ss.getD i ByteArray.empty := ⟨_, rfl⟩
      rw [← hX] at hc1
      rw [← hS] at hc2
      have HX : Hid (X = ((xs.getD i 0).toNat : Int)) := hX
      have HS : Hid (S = ss.getD i ByteArray.empty) := hS
      have HO := Lib.hid hown
      clear hX hS hcB hcT hown
      have hiB : (i : Int) < (lB : Int) := by omega
      have hiT : (i : Int) < (lT : Int) := by omega
      go_wp2
      go_region_law (refine step_append_own rfl (.tmp 21) (.tmp 31) 31 rfl w.heap.size 33 i0 (.agg #[.int .u64 0, .string ByteArray.empty]) 2 24 Tryd.underlying31 hi hz0 hz1 hz2 rfl (by decide) u7 i (nameVals xs ss i) (by simp [Act.eval, Act.put]) (by first | exact (HO.out.alloc _).drew | exact HO.out.drew.alloc _) ⟨wr.heap.size, 0, none⟩ 1 1 [.int .u64 X, .string S] (by simp [Act.eval, Act.put]) rfl (by first | exact cell_two_new wr _ _ _ | exact cell_two_new wr.drew _ _ _) (two_one X S) (by unfold maxLen; omega) (by omega) (by simp; omega) ?_; intro v' w1 hown1 hgrow1)
      all_goals
        go_wp2
        have hX := HX.out
        have hS := HS.out
        subst hX hS
        have R1 : w1.ownsRow w.heap.size 33 2 v' (i + 1) (nameVals xs ss (i + 1)) := by rw [nameVals_succ]; exact hown1
        have R2 : Below w.heap.size w w1 := by
          first
            | exact ((hb.alloc hsz _).drew).grown hgrow1 (by simp; omega) (fun k hk => (hlt k hk).1)
            | exact ((hb.drew).alloc (by simpa using hsz) _).grown hgrow1 (by simp; omega) (fun k hk => (hlt k hk).1)
        go_roundw
        case rel => exact ⟨i + 1, by omega, by go_num, R1, R2⟩
        case measure => simp [intOf]; omega
    · have hmE := HM.out
      obtain rfl : i = m := by omega
      have HC : Hid (∃ p cap, u7 = .slice p i cap ∧ Calls Tryd.prog 7 #[.int .u64 (b.toNat : Int), .slice p i cap] wr fun e w' => e = .returned (.string ⟨(answer b xs ss i).toArray⟩) ∧ Below wr.heap.size wr w') := by
        obtain ⟨p, cap, e, hN⟩ := names_of hown
        exact ⟨p, cap, e, flags_any b p i cap xs ss wr (by omega) hx hN ((hb.cell (World.block_lt_of_cell? _ _ ht)).trans ht) HLEN.out⟩
      obtain ⟨p, cap, rfl, hC⟩ := HC.out
      have HCC := Lib.hid hC
      obtain ⟨ans, hans⟩ : ∃ ans, ans = answer b xs ss i := ⟨_, rfl⟩
      rw [← hans] at HCC
      have HANS : Hid (ans = answer b xs ss i) := hans
      clear hC HC hans HLEN hown HB HT HM hx
      rcases (show (lB : Int) ≤ (i : Int) ∨ ((i : Int) < (lB : Int) ∧ (lT : Int) ≤ (i : Int)) by omega) with h1 | ⟨h1, h2⟩
      · clear hmE
        go_wp2_with (go_at_call 7; refine HCC.out.mono ?_; rintro e w' ⟨rfl, hb'⟩)
        go_ret
        exact ⟨ret_ans HANS.out, hb.trans (hb'.mono hsz)⟩
      · clear hmE
        go_wp2_with (go_at_call 7; refine HCC.out.mono ?_; rintro e w' ⟨rfl, hb'⟩)
        go_ret
        exact ⟨ret_ans HANS.out, hb.trans (hb'.mono hsz)⟩
end Go.Proofs.Qxb6617329aDoor
