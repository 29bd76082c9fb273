import Derived.Test.Qxb6630591aDoorApp
import Derived.Lib.SliceRun
namespace Go.Proofs.Qxb6630591aDoor
open Go.RowKit
set_option linter.unusedVariables false
set_option linter.unusedSimpArgs false

def IsRow (k : IntKind) (w : World) (a : Option Addr) (len cap : Nat) (zs : List Int) : Prop :=
  (a = none ∧ len = 0 ∧ cap = 0 ∧ zs = []) ∨
  ∃ x, a = some x ∧ len ≤ cap ∧ cap ≤ maxLen ∧ zs.length = cap ∧ (∀ i, i < zs.length → w.cell? (x.add i) = some (.int k (zs.getD i 0))) ∧ ∀ n ∈ zs, (Lit.int k n).wf = true

theorem bytesA_any (ao : Option Addr) (n c : Nat) (hn : n ≤ maxLen) (w : World) : Calls Tryd.prog 5 #[.slice ao n c] w fun e w' => (∃ b : Bool, e = .returned (.bool b)) ∧ w' = w := by
  unfold maxLen at hn
  by_cases h : n ≤ 1048576
  · go_enter Tryd.func5, Tryd.ntmps5
    go_wp2_with fail
    go_ret
    exact ⟨⟨_, rfl⟩, rfl⟩
  · go_enter Tryd.func5, Tryd.ntmps5
    go_wp2_with fail
    go_ret
    exact ⟨⟨_, rfl⟩, rfl⟩
theorem bytesB_any (ao : Option Addr) (n c : Nat) (k : Int) (hn : n ≤ maxLen) (w : World) : Calls Tryd.prog 9 #[.slice ao n c, .int .i64 k] w fun e w' => (∃ b : Bool, e = .returned (.bool b)) ∧ w' = w := by
  unfold maxLen at hn
  by_cases h : n ≤ 1048576
  · go_enter Tryd.func9, Tryd.ntmps9
    go_wp2_with fail
    go_ret
    exact ⟨⟨_, rfl⟩, rfl⟩
  · go_enter Tryd.func9, Tryd.ntmps9
    go_wp2_with fail
    go_ret
    exact ⟨⟨_, rfl⟩, rfl⟩

theorem i64_in {n : Int} (h : (Lit.int .i64 n).wf = true) : InI n := by
  simp [Lit.wf] at h
  exact h
/-- The elements of a slice that came in. -/
theorem ints_of {w : World} {x : Addr} {cap len : Nat} {zs : List Int} (hl : len ≤ cap) (hz : zs.length = cap) (hc : ∀ i, i < zs.length → w.cell? (x.add i) = some (.int .i64 (zs.getD i 0))) (hw : ∀ n ∈ zs, (Lit.int .i64 n).wf = true) :
    ∃ xs : List Int, xs.length = len ∧ (∀ y ∈ xs, InI y) ∧ ∀ j, j < xs.length → w.cell? (x.add j) = some (.int .i64 (at' xs j)) := by
  have hlen : (zs.take len).length = len := by simp; omega
  refine ⟨zs.take len, hlen, fun y hy => i64_in (hw y (List.mem_of_mem_take hy)), fun j hj => ?_⟩
  rw [hlen] at hj
  rw [at_take zs hj]
  exact hc j (by omega)

/-- 'make([]int, n)'. -/
theorem make_row {P : Program} {ops : Array Oper} {rest : List Oper} {o : Oper} {a : Act} {w : World} {Q : Exit → Act → World → Prop}
    (hg : o.guard = none) (l c : Operand) (t : TypeId) (hop : o.op = Op.makeSlice t l c) (e : TypeId) (z : Value) (size bytes : Nat) (h1 : P.underlying t = some (.slice e))
    (h2 : (P.info? e).map (fun i => (i.zero, i.size, i.bytes)) = some (some z, size, bytes)) (kl kc : IntKind) (L C : Int) (n : Nat) (hl : a.eval l = .int kl L) (hc : a.eval c = .int kc C) (hL : L = (n : Int)) (hC : C = (n : Int))
    (b2 : bytes * n ≤ 281474976710656) (b3 : n ≤ maxLen)
    (hK : ∀ (w' : World) (cur : Array Value), w'.heap[w.heap.size]? = some (.cells cur e (0, 0)) → cur.size = n * size → Below w.heap.size w w' → wpList P ops Q rest (a.put o.dst (.slice (some ⟨w.heap.size, 0, none⟩) n n)) w') :
    wpList P ops Q (o :: rest) a w := by
  obtain ⟨i0, hi, hz0, hz1, hz2⟩ := info_parts h2
  refine wpList_make_full w hg l c t hop w.heap.size e i0 z size h1 hi hz0 hz1 kl kc L C n hl hc hL hC (by rw [hz2]; exact b2) b3 (Nat.le_refl _) ?_
  intro w1 hown hgrow
  have key : ∃ cur : Array Value, w1.heap[w.heap.size]? = some (.cells cur e (0, 0)) ∧ cur.size = n * size := by
    rcases hown.2 with ⟨h1, _⟩ | ⟨g', cap, cur, hv, _, hg, _, hm, hs, _⟩
    · cases h1
    · injection hv with h1 h2 h3
      injection h1 with h1
      injection h1 with h1
      subst h1 h3
      exact ⟨cur, hg, hs⟩
  obtain ⟨cur, hcur, hcs⟩ := key
  exact hK w1 cur hcur hcs ((Below.refl _ _).grown hgrow (Nat.le_refl _) (fun k h => by cases h))

/-- A row of ints, its first k laid. -/
def OutAt (w wr : World) (xs : List Int) (k : Nat) : Prop :=
  (∃ cur : Array Value, wr.heap[w.heap.size]? = some (.cells cur 3 (0, 0)) ∧ cur.size = xs.length ∧ ∀ j, j < k → cur[j]? = some (.int .i64 (at' xs j))) ∧ Below w.heap.size w wr
theorem OutAt.put {w wr : World} {xs : List Int} {k : Nat} {x : Int} (h : OutAt w wr xs k) (hk : k < xs.length) (hx : at' xs k = x) : OutAt w (wr.setCell ⟨w.heap.size, k, none⟩ (.int .i64 x)) xs (k + 1) := by
  obtain ⟨⟨cur, h1, h2, h3⟩, hb⟩ := h
  refine ⟨⟨cur.setIfInBounds k (.int .i64 x), heap_setCell_same wr _ k cur 3 _ h1, by simp [h2], fun i hi => ?_⟩, hb.setCell (p := ⟨w.heap.size, k, none⟩) (Nat.le_refl _) _⟩
  rw [Array.getElem?_setIfInBounds]
  by_cases e : k = i
  · subst e; rw [if_pos rfl, if_pos (by omega), hx]
  · rw [if_neg e]
    exact h3 i (by omega)
theorem OutAt.there {w wr : World} {xs : List Int} {k j : Nat} (h : OutAt w wr xs k) (hj : j < xs.length) : ∃ v, wr.cell? ⟨w.heap.size, j, none⟩ = some v := by
  obtain ⟨⟨cur, h1, h2, h3⟩, hb⟩ := h
  exact ⟨cur[j], by rw [cell_of_row _ _ _ _ _ _ h1]; exact Array.getElem?_eq_getElem (by omega)⟩
theorem OutAt.frozen {w wr : World} {xs : List Int} {k : Nat} (h : OutAt w wr xs k) : ∀ o, wr.frozen? ⟨w.heap.size, o, none⟩ = false := by
  obtain ⟨⟨cur, h1, h2, h3⟩, hb⟩ := h
  exact fun o => frozen_of_row wr _ o _ _ h1
theorem OutAt.isAt {w wr : World} {xs : List Int} (h : OutAt w wr xs xs.length) : IsAt wr (some ⟨w.heap.size, 0, none⟩) xs := by
  obtain ⟨⟨cur, h1, h2, h3⟩, hb⟩ := h
  intro k hk
  exact ⟨_, _, rfl, by rw [cell_of_row _ _ _ _ _ _ h1, Nat.zero_add]; exact h3 k hk⟩

theorem clone_nil (w : World) : Calls Tryd.prog 6 #[.slice none 0 0] w fun e w' => e = .returned (.slice none 0 0) ∧ w' = w := by
  have hq := fun ww : World => Lib.run_eql_slice_nil ww 22 3 none 0 0 0 0 Tryd.underlying22
  go_enter Tryd.func6, Tryd.ntmps6
  go_wp2_with fail
  go_ret
  exact ⟨rfl, rfl⟩

set_option maxHeartbeats 1000000 in
theorem clone_row (x : Addr) (xs : List Int) (c : Nat) (w : World) (hl : xs.length ≤ c) (hc : c ≤ maxLen) (hlen : xs.length ≤ 131072) (hat : ∀ j, j < xs.length → w.cell? (x.add j) = some (.int .i64 (at' xs j))) :
    Calls Tryd.prog 6 #[.slice (some x) xs.length c] w fun e w' => e = .returned (.slice (some ⟨w.heap.size, 0, none⟩) xs.length xs.length) ∧ IsAt w' (some ⟨w.heap.size, 0, none⟩) xs ∧ Below w.heap.size w w' := by
  unfold maxLen at hc
  have HAT := hid hat
  clear hat
  have hq := fun ww : World => Lib.run_eql_slice_nil ww 22 3 (some x) xs.length c 0 0 Tryd.underlying22
  go_enter Tryd.func6, Tryd.ntmps6
  go_wp2_with (at_make; refine make_row rfl _ _ 22 rfl 3 _ 1 8 Tryd.underlying22 info3 _ _ _ _ xs.length rfl rfl ?b0 ?b1 ?b2 ?b3 ?_)
  case b0 => omega
  case b1 => omega
  case b2 => omega
  case b3 => unfold maxLen; omega
  intro w1 cur1 hcur1 hcs1 hb1
  have HO1 : Hid (OutAt w w1 xs 0) := ⟨⟨cur1, hcur1, by omega, fun j h => absurd h (Nat.not_lt_zero _)⟩, hb1⟩
  clear hcur1 hcs1 hb1
  go_wp2_with fail
  go_loopw [4] (fun i wr => ∃ k : Nat, k ≤ xs.length ∧ i = .int .i64 k ∧ OutAt w wr xs k) (fun i _ => xs.length - (intOf i).toNat)
  case atStart => exact ⟨0, Nat.zero_le _, rfl, HO1.out⟩
  case round =>
    obtain ⟨k, hk, rfl, ho⟩ := hrel
    have HO := hid ho
    have hfr := ho.frozen
    by_cases hkl : k < xs.length
    · obtain ⟨v0, hv0⟩ := ho.there hkl
      have hcl := cell_later ho.2 (HAT.out k hkl)
      obtain ⟨y, HY⟩ : ∃ y, Hid (at' xs k = y) := ⟨_, hid rfl⟩
      rw [HY.out] at hcl
      clear ho
      go_wp2_with fail
      go_roundw
      case rel => exact ⟨k + 1, by omega, by go_num, HO.out.put hkl HY.out⟩
      case measure => simp [intOf]; omega
    · obtain rfl : k = xs.length := by omega
      clear ho
      go_wp2_with fail
      go_ret
      exact ⟨rfl, HO.out.isAt, HO.out.2⟩

theorem strOf_bytes (l : List UInt8) : strOfNums (l.map fun b => (b.toNat : Int)) = S l := by
  unfold strOfNums S
  congr 2
  rw [List.map_map]
  conv => rhs; rw [← List.map_id l]
  refine List.map_congr_left fun b _ => ?_
  simp
/-- 'string(v)' of bytes that the call owns. -/
theorem owns_conv {w : World} {base : Nat} {v : Value} {l : List UInt8} (h : w.ownsRow base 5 1 v l.length (Lib.byteCells l)) : (convert 26 9 v).run Tryd.prog w = .ok (.string (S l)) w := by
  rcases h.2 with ⟨rfl, h0⟩ | ⟨g, cap, cur, rfl, _⟩
  · obtain rfl := List.eq_nil_of_length_eq_zero h0
    exact run_convert_bytes_nil w 26 5 Tryd.underlying26 Tryd.underlying5 0 0 9 Tryd.underlying9
  · rw [← strOf_bytes]
    refine run_convert_bytes_arg w 26 5 Tryd.underlying26 Tryd.underlying5 g 0 l.length cap _ (by simp) ?_ 9 Tryd.underlying9
    intro i hi
    rw [Nat.zero_add, h.cellAt i (by omega)]
    simp only [Lib.byteCells, List.getD_eq_getElem?_getD, List.getElem?_map, List.getElem?_eq_getElem (show i < l.length by omega), Option.map_some, Option.getD_some]
end Go.Proofs.Qxb6630591aDoor
