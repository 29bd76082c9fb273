import Derived.Test.Qxb6629213aDoorRows
import Derived.Test.Qxb6629213aDoorMem
import Derived.WalkKit
import Derived.WalkSpells
import Derived.WalkLawsBesides
import Derived.BigQuiet
import Derived.KernelRfl
namespace Go.Proofs.Qxb6629213aDoor
open Go.RowKit
set_option linter.unusedVariables false
set_option linter.unusedSimpArgs false

theorem info54 : (Tryd.prog.info? 54).map (fun i => (i.zero, i.size, i.bytes)) = some (some (.agg #[.string ⟨#[]⟩, .string ⟨#[]⟩, .string ⟨#[]⟩, .string ⟨#[]⟩]), 4, 64) := by kernel_rfl
theorem info41 : (Tryd.prog.info? 41).map (fun i => (i.zero, i.size, i.bytes)) = some (some (.agg #[.int .i64 0, .int .i64 0, .int .i64 0, .int .i64 0, .slice none 0 0, .int .u64 0]), 6, 64) := by kernel_rfl
theorem size41 : (Tryd.prog.info? 41).map (·.size) = some 6 := by kernel_rfl
theorem size44 : (Tryd.prog.info? 44).map (·.size) = some 2 := by kernel_rfl
theorem info44 : (Tryd.prog.info? 44).map (fun i => (i.zero, i.size, i.bytes)) = some (some (.agg #[.string ⟨#[]⟩, .slice none 0 0]), 2, 40) := by kernel_rfl

set_option maxHeartbeats 400000 in
theorem node_any (d : Nd) (w : World) :
    Calls Tryd.prog 19 #[.agg #[.string d.h, .string d.a, .string d.r, .string d.l]] w fun e w' => e = .returned (.agg #[.string d.h, .string d.a, .string d.r, .string d.l]) ∧ Below w.heap.size w w' := by
  go_enter Tryd.func19, Tryd.ntmps19
  go_wp2
  exact bodyPost_ret (v := .agg #[.string d.h, .string d.a, .string d.r, .string d.l]) (by simp [results, Tryd.results19, go_sem]) rfl ⟨rfl, ((Below.refl _ _).alloc (Nat.le_refl _) _).alloc (by simp) _⟩

/-- 'make([]T, n)' as the walks below take it. -/
theorem make_row {P : Program} {ops : Array Oper} {rest : List Oper} {o : Oper} {a : Act} {w : World} {Q : Exit → Act → World → Prop}
    (hg : o.guard = none) (l c : Operand) (t : TypeId) (hop : o.op = Op.makeSlice t l c) (e : TypeId) (z : Value) (size bytes : Nat) (h1 : P.underlying t = some (.slice e))
    (h2 : (P.info? e).map (fun i => (i.zero, i.size, i.bytes)) = some (some z, size, bytes)) (kl kc : IntKind) (L C : Int) (n : Nat) (hl : a.eval l = .int kl L) (hc : a.eval c = .int kc C) (hL : L = (n : Int)) (hC : C = (n : Int))
    (b2 : bytes * n ≤ 281474976710656) (b3 : n ≤ maxLen)
    (hK : ∀ (w' : World) (cur : Array Value), w'.heap[w.heap.size]? = some (.cells cur e (0, 0)) → cur.size = n * size → Below w.heap.size w w' → wpList P ops Q rest (a.put o.dst (.slice (some ⟨w.heap.size, 0, none⟩) n n)) w') :
    wpList P ops Q (o :: rest) a w := by
  obtain ⟨i0, hi, hz0, hz1, hz2⟩ := info_parts h2
  refine wpList_make_full w hg l c t hop w.heap.size e i0 z size h1 hi hz0 hz1 kl kc L C n hl hc hL hC (by rw [hz2]; exact b2) b3 (Nat.le_refl _) ?_
  intro w1 hown hgrow
  obtain ⟨cur, hcur, hcs, _⟩ := row_of_owns hown
  exact hK w1 cur hcur hcs ((Below.refl _ _).grown hgrow (Nat.le_refl _) (fun k h => by cases h))

/-- Two boxes at the head of a body: what they hold later. -/
theorem two_boxes {w wr : World} {A C : Array Value} {t u : TypeId} {B : Nat} (hB : w.heap.size + 1 + 1 ≤ B) (h : Below B ((w.alloc (.cells A t)).alloc (.cells C u)) wr) :
    (∀ o, wr.cell? ⟨w.heap.size, o, none⟩ = A[o]?) ∧ (∀ o, wr.cell? ⟨w.heap.size + 1, o, none⟩ = C[o]?) ∧ (∀ o, wr.frozen? ⟨w.heap.size + 1, o, none⟩ = false) := by
  refine ⟨fun o => ?_, fun o => ?_, fun o => ?_⟩
  · rw [h.cell (p := ⟨w.heap.size, o, none⟩) (by show w.heap.size < B; omega), World.cell?_alloc_past _ _ _ (by simp), World.cell?_alloc_at _ _ _ _ rfl]
  · rw [h.cell (p := ⟨w.heap.size + 1, o, none⟩) (by show w.heap.size + 1 < B; omega), World.cell?_alloc_at _ _ _ _ (by simp)]
  · rw [h.frozen (p := ⟨w.heap.size + 1, o, none⟩) (by show w.heap.size + 1 < B; omega), World.frozen?_alloc_at _ _ _ _ (by simp)]

theorem nd_get {ns : List Nd} {k : Nat} (h : k < ns.length) : ∃ d, ns[k]? = some d := ⟨ns[k], List.getElem?_eq_getElem h⟩

set_option maxHeartbeats 1000000 in
theorem shard_any (s : Sd) (ao : Option Addr) (c : Nat) (w : World) (hok : SlOk ao s.ns.length c) (hn : NdsAt w 0 ao s.ns) (hb : s.ns.length ≤ 1048576) :
    Calls Tryd.prog 9 #[.agg #[.int .i64 s.i, .int .i64 s.f, .int .i64 s.t, .int .i64 s.r, .slice ao s.ns.length c, .int .u64 s.o]] w fun e w' =>
      ∃ ao' c', e = .returned (.agg #[.int .i64 s.i, .int .i64 s.f, .int .i64 s.t, .int .i64 s.r, .slice ao' s.ns.length c', .int .u64 s.o]) ∧ SlOk ao' s.ns.length c' ∧ NdsAt w' w.heap.size ao' s.ns ∧ Below w.heap.size w w' := by
  have hnil := fun (w : World) => run_neq_slice_nil_any (P := Tryd.prog) w 23 56 ao s.ns.length c 0 0 Tryd.underlying23
  obtain ⟨ho1, ho2, ho3⟩ := hok
  unfold maxLen at ho2
  cases ao with
  | none =>
    obtain ⟨h0, rfl⟩ := ho3 rfl
    have e0 : s.ns = [] := List.eq_nil_of_length_eq_zero h0
    clear ho3
    go_enter Tryd.func9, Tryd.ntmps9
    go_wp2_with fail
    exact bodyPost_ret (v := .agg #[.int .i64 s.i, .int .i64 s.f, .int .i64 s.t, .int .i64 s.r, .slice none 0 0, .int .u64 s.o]) (by simp [results, Tryd.results9, go_sem]) rfl
      ⟨none, 0, by rw [h0], ⟨by omega, by simp, fun _ => ⟨h0, rfl⟩⟩, fun k d hd => by simp [e0] at hd, ((Below.refl _ _).alloc (Nat.le_refl _) _).alloc (by simp) _⟩
  | some a0 =>
    go_enter Tryd.func9, Tryd.ntmps9
    go_wp2_with (at_make; refine make_row rfl _ _ 39 rfl 54 _ 4 64 Tryd.underlying39 info54 _ _ _ _ s.ns.length rfl rfl ?b0 ?b1 ?b2 ?b3 ?_)
    case b0 => rfl
    case b1 => rfl
    case b2 => omega
    case b3 => unfold maxLen; omega
    intro w1 cur hcur hcs hbel
    obtain ⟨hA, -, -⟩ := two_boxes (by simp) hbel
    go_wp2_with fail
    go_loopw [15] (fun i wr => ∃ k : Nat, k ≤ s.ns.length ∧ i = .int .i64 k ∧ (∃ cur : Array Value, wr.heap[w.heap.size + 1 + 1]? = some (.cells cur 54 (0, 0)) ∧ cur.size = s.ns.length * 4) ∧ NdRow wr (w.heap.size + 1 + 1) s.ns k ∧ Below (w.heap.size + 1 + 1) ((w.alloc (Obj.cells #[.int .i64 s.i, .int .i64 s.f, .int .i64 s.t, .int .i64 s.r, .slice (some a0) s.ns.length c, .int .u64 s.o] 26)).alloc (Obj.cells #[.int .i64 0, .int .i64 0, .int .i64 0, .int .i64 0, .slice none 0 0, .int .u64 0] 41)) wr)
      (fun i _ => s.ns.length - (intOf i).toNat)
    case atStart => exact ⟨0, Nat.zero_le _, rfl, ⟨cur, hcur, hcs⟩, fun j d hj => absurd hj (Nat.not_lt_zero _), by simpa using hbel⟩
    case round =>
      obtain ⟨k, hk, rfl, ⟨cur, hcur, hcs⟩, hrow, hbl⟩ := hrel
      obtain ⟨hA, hC, hF⟩ := two_boxes (Nat.le_refl _) hbl
      by_cases hlt : k < s.ns.length
      · obtain ⟨d, hd⟩ := nd_get hlt
        obtain ⟨b, o, he, -, h1, h2, h3, h4⟩ := hn k d hd
        cases he
        have hbw : b < w.heap.size := World.block_lt_of_cell? w _ h1
        have g1 := (hbl.cell (p := ⟨b, o + k * 4, none⟩) (by show b < _; omega)).trans ((World.cell?_alloc_past _ _ _ (by simp; omega)).trans ((World.cell?_alloc_past _ _ _ hbw).trans h1))
        have g2 := (hbl.cell (p := ⟨b, o + k * 4 + 1, none⟩) (by show b < _; omega)).trans ((World.cell?_alloc_past _ _ _ (by simp; omega)).trans ((World.cell?_alloc_past _ _ _ hbw).trans h2))
        have g3 := (hbl.cell (p := ⟨b, o + k * 4 + 2, none⟩) (by show b < _; omega)).trans ((World.cell?_alloc_past _ _ _ (by simp; omega)).trans ((World.cell?_alloc_past _ _ _ hbw).trans h3))
        have g4 := (hbl.cell (p := ⟨b, o + k * 4 + 3, none⟩) (by show b < _; omega)).trans ((World.cell?_alloc_past _ _ _ (by simp; omega)).trans ((World.cell?_alloc_past _ _ _ hbw).trans h4))
        go_wp2_with fail
        refine (node_any d wr).mono ?_
        rintro e w2 ⟨rfl, hb2⟩
        have hcur2 := (hb2.block _ (lt_of_block hcur)).trans hcur
        obtain ⟨v0, hv0⟩ := row_cell (o := k * 4) hcur2 (by omega)
        obtain ⟨v1, hv1⟩ := row_cell (o := k * 4 + 1) hcur2 (by omega)
        obtain ⟨v2, hv2⟩ := row_cell (o := k * 4 + 2) hcur2 (by omega)
        obtain ⟨v3, hv3⟩ := row_cell (o := k * 4 + 3) hcur2 (by omega)
        have hfr := fun o => frozen_of_row w2 _ o _ _ hcur2
        go_wp2_with fail
        go_roundw
        case rel =>
          have R := NdRow.put (e := 54) hcur2 hcs hd (hrow.later hb2)
          obtain ⟨cur', hc1, hc2⟩ := put_still (xs := [.string d.h, .string d.a, .string d.r, .string d.l]) (o := k * 4) hcur2 (by simp; omega)
          exact ⟨k + 1, by omega, by go_num, ⟨cur', hc1, hc2.trans hcs⟩, R, put_below (hbl.trans (hb2.mono (by have := lt_of_block hcur; omega))) (Nat.le_refl _) (k * 4) [.string d.h, .string d.a, .string d.r, .string d.l]⟩
        case measure => simp [intOf]; omega
      · have hke : k = s.ns.length := by omega
        have HK : Hid (k = s.ns.length) := hke
        clear hke
        go_wp2_with fail
        have hbw : Below (w.heap.size + 1 + 1) ((w.alloc (Obj.cells #[.int .i64 s.i, .int .i64 s.f, .int .i64 s.t, .int .i64 s.r, .slice (some a0) s.ns.length c, .int .u64 s.o] 26)).alloc (Obj.cells #[.int .i64 0, .int .i64 0, .int .i64 0, .int .i64 0, .slice none 0 0, .int .u64 0] 41)) wr := hbl
        have hfin : Below w.heap.size w (putCells (w.heap.size + 1) wr 0 [.int .i64 s.i, .int .i64 s.f, .int .i64 s.t, .int .i64 s.r, .slice (some ⟨w.heap.size + 1 + 1, 0, none⟩) s.ns.length s.ns.length, .int .u64 s.o]) :=
          put_below ((((Below.refl _ _).alloc (Nat.le_refl _) _).alloc (by simp) _).trans (hbw.mono (by omega))) (by omega) _ _
        rw [HK.out] at hrow
        refine bodyPost_ret (v := .agg #[.int .i64 s.i, .int .i64 s.f, .int .i64 s.t, .int .i64 s.r, .slice (some ⟨w.heap.size + 1 + 1, 0, none⟩) s.ns.length s.ns.length, .int .u64 s.o]) (by simp [results, Tryd.results9, go_sem, hC, hF]) rfl
          ⟨some ⟨w.heap.size + 1 + 1, 0, none⟩, s.ns.length, rfl, ⟨Nat.le_refl _, by unfold maxLen; omega, fun h => by cases h⟩, ?_, hfin⟩
        exact (hrow.all.keep (put_keeps (g := w.heap.size + 1) (by omega) wr 0 [.int .i64 s.i, .int .i64 s.f, .int .i64 s.t, .int .i64 s.r, .slice (some ⟨w.heap.size + 1 + 1, 0, none⟩) s.ns.length s.ns.length, .int .u64 s.o])).low (by omega)
end Go.Proofs.Qxb6629213aDoor
