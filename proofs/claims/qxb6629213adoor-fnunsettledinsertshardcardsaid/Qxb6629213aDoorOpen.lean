import Derived.Test.Qxb6629213aDoorUns
import Derived.Deep.Slices
namespace Go.Proofs.Qxb6629213aDoor
open Go.RowKit
set_option linter.unusedVariables false
set_option linter.unusedSimpArgs false

theorem cells56 : Tryd.prog.cellsOf 56 = 4 := by kernel_rfl
theorem cells26 : Tryd.prog.cellsOf 26 = 6 := by kernel_rfl
theorem cells32 : Tryd.prog.cellsOf 32 = 2 := by kernel_rfl
theorem cells9 : Tryd.prog.cellsOf 9 = 1 := by kernel_rfl
theorem cells3 : Tryd.prog.cellsOf 3 = 1 := by kernel_rfl
theorem cells23 : Tryd.prog.cellsOf 23 = 1 := by kernel_rfl
theorem cells24 : Tryd.prog.cellsOf 24 = 1 := by kernel_rfl
theorem cells30 : Tryd.prog.cellsOf 30 = 1 := by kernel_rfl

section
variable {H : Type} {enc : TypeId × Value → H} {w : World} {sp : Nat → Bool} {held : Bool}

/-- Cells at an address, where there is one at least: the address is plain. -/
theorem cells_plain {base n : Nat} {a : Addr} {cs : List Value} (h : w.cells? base a n = some cs) (hn : 0 < n) : ∃ b o, a = ⟨b, o, none⟩ ∧ ∀ i, i < n → w.cell? ⟨b, o + i, none⟩ = cs[i]? := by
  obtain ⟨_, hl, hc⟩ := World.cells?_some h
  obtain ⟨b, o, spt⟩ := a
  have h0 := hc 0 hn
  have : spt = none := by
    cases spt with
    | none => rfl
    | some x =>
      exfalso
      rw [List.getElem?_eq_getElem (by omega)] at h0
      simp [World.cell?, Addr.add] at h0
      split at h0 <;> simp at h0
  subst this
  exact ⟨b, o, rfl, fun i hi => by rw [← hc i hi, Addr.add_lit]⟩

theorem open_node {fuel : Nat} {cs : List Value} {x : DataW H × List MemPlace} (h : DataW.trod enc Tryd.prog w 0 sp held fuel 56 cs = some x) :
    ∃ d : Nd, cs = [.string d.h, .string d.a, .string d.r, .string d.l] := by
  obtain ⟨xs, n, _, rfl, hl, hlen, hf⟩ := DataW.trod_struct Tryd.underlying56 h
  rw [cells56] at hl
  match cs, hl with
  | [c0, c1, c2, c3], _ =>
    have f0 := hf 0 _ rfl
    have f1 := hf 1 _ rfl
    have f2 := hf 2 _ rfl
    have f3 := hf 3 _ rfl
    simp [cells9] at f0 f1 f2 f3
    match xs, hlen with
    | [y0, y1, y2, y3], _ =>
      simp at f0 f1 f2 f3
      obtain ⟨s0, e0, _, _⟩ := DataW.trod_string Tryd.underlying9 f0
      obtain ⟨s1, e1, _, _⟩ := DataW.trod_string Tryd.underlying9 f1
      obtain ⟨s2, e2, _, _⟩ := DataW.trod_string Tryd.underlying9 f2
      obtain ⟨s3, e3, _, _⟩ := DataW.trod_string Tryd.underlying9 f3
      simp at e0 e1 e2 e3
      subst e0 e1 e2 e3
      exact ⟨⟨s0, s1, s2, s3⟩, rfl⟩

/-- From 'at every index there is one' to a list. -/
theorem list_of {α : Type} {n : Nat} {p : Nat → α → Prop} (h : ∀ i, i < n → ∃ x, p i x) : ∃ l : List α, l.length = n ∧ ∀ i x, l[i]? = some x → p i x := by
  induction n with
  | zero => exact ⟨[], rfl, fun i x hx => by simp at hx⟩
  | succ n ih =>
    obtain ⟨l, hl, hp⟩ := ih fun i hi => h i (by omega)
    obtain ⟨y, hy⟩ := h n (by omega)
    refine ⟨l ++ [y], by simp [hl], fun i x hx => ?_⟩
    by_cases hi : i < n
    · rw [List.getElem?_append_left (by omega)] at hx
      exact hp i x hx
    · have hlt := (List.getElem?_eq_some_iff.1 hx).1
      simp at hlt
      obtain rfl : i = n := by omega
      rw [List.getElem?_append_right (by omega)] at hx
      simp [hl] at hx
      subst hx
      exact hy

theorem wf_i64 {x : Int} (h : (Lit.int .i64 x).wf = true) : InI64 x := by
  simp only [Lit.wf, Bool.and_eq_true, decide_eq_true_eq] at h
  exact h
/-- A slice's elements, cell by cell. -/
theorem open_rows {t e size fuel : Nat} {α : Type} {At : Nat → Nat → α → Prop} {cs : List Value} {x : DataW H × List MemPlace} (ht : Tryd.prog.underlying t = some (.slice e)) (hsz : Tryd.prog.cellsOf e = size) (hpos : 0 < size)
    (one : ∀ (n b o : Nat) (cs' : List Value) (y : DataW H × List MemPlace), DataW.trod enc Tryd.prog w 0 (fun _ => true) held n e cs' = some y → (∀ i, i < size → w.cell? ⟨b, o + i, none⟩ = cs'[i]?) → ∃ d, At b o d)
    (h : DataW.trod enc Tryd.prog w 0 (fun _ => true) held fuel t cs = some x) :
    ∃ (l : List α) (ao : Option Addr) (c : Nat), cs = [.slice ao l.length c] ∧ SlOk ao l.length c ∧ ∀ k d, l[k]? = some d → ∃ b o, ao = some ⟨b, o, none⟩ ∧ At b (o + k * size) d := by
  rcases Deep.open_slice ht h with ⟨rfl, _⟩ | ⟨a, len, cap, m, n, D, Pl, rfl, _, hl, hm, hmm, _, hx⟩
  · exact ⟨[], none, 0, rfl, ⟨Nat.le_refl _, by simp, fun _ => ⟨rfl, rfl⟩⟩, fun k d hd => by simp at hd⟩
  · have hpl : 0 < len → ∃ b o, a = ⟨b, o, none⟩ := fun h0 => by
      obtain ⟨cs', h1, h2⟩ := hx 0 (by simp at hmm; omega)
      rw [hsz] at h1
      obtain ⟨b, o, ea, _⟩ := cells_plain h1 hpos
      refine ⟨b, o, ?_⟩
      rw [← ea]
      simp [Addr.add]
    obtain ⟨l, hlen, hp⟩ := list_of (n := len) (p := fun i (d : α) => ∃ b o, a = ⟨b, o, none⟩ ∧ At b (o + i * size) d) (fun i hi => by
      obtain ⟨b, o, rfl⟩ := hpl (by omega)
      obtain ⟨cs', h1, h2⟩ := hx i (by simp at hmm; omega)
      rw [hsz] at h1
      obtain ⟨b', o', ea, hc⟩ := cells_plain h1 hpos
      rw [Addr.add_lit] at ea
      cases ea
      obtain ⟨d, hd⟩ := one n b (o + i * size) cs' _ h2 hc
      exact ⟨d, b, o, rfl, hd⟩)
    subst hlen
    refine ⟨l, some a, cap, rfl, ⟨hl, hm, fun h => by cases h⟩, fun k d hd => ?_⟩
    obtain ⟨b, o, rfl, hat⟩ := hp k d hd
    exact ⟨b, o, rfl, hat⟩

theorem open_nodes {fuel : Nat} {cs : List Value} {x : DataW H × List MemPlace} (h : DataW.trod enc Tryd.prog w 0 (fun _ => true) held fuel 23 cs = some x) :
    ∃ (ns : List Nd) (ao : Option Addr) (c : Nat), cs = [.slice ao ns.length c] ∧ SlOk ao ns.length c ∧ NdsAt w 0 ao ns := by
  obtain ⟨l, ao, c, e, hok, hat⟩ := open_rows (At := fun b o d => NdAt w b o d) Tryd.underlying23 cells56 (by omega) (fun n b o cs' y hy hc => by
    obtain ⟨d, rfl⟩ := open_node hy
    exact ⟨d, hc 0 (by omega), hc 1 (by omega), hc 2 (by omega), hc 3 (by omega)⟩) h
  refine ⟨l, ao, c, e, hok, fun k d hd => ?_⟩
  obtain ⟨b, o, e, ha⟩ := hat k d hd
  exact ⟨b, o, e, Nat.zero_le _, ha⟩

theorem open_shard {fuel : Nat} {cs : List Value} {x : DataW H × List MemPlace} (h : DataW.trod enc Tryd.prog w 0 (fun _ => true) held fuel 26 cs = some x) :
    ∃ (d : Sd) (ao : Option Addr) (c : Nat), cs = [.int .i64 d.i, .int .i64 d.f, .int .i64 d.t, .int .i64 d.r, .slice ao d.ns.length c, .int .u64 d.o] ∧ SlOk ao d.ns.length c ∧ NdsAt w 0 ao d.ns ∧ InI64 d.i := by
  obtain ⟨xs, n, _, rfl, hl, hlen, hf⟩ := DataW.trod_struct Tryd.underlying26 h
  rw [cells26] at hl
  match cs, hl with
  | [c0, c1, c2, c3, c4, c5], _ =>
    have f0 := hf 0 _ rfl
    have f1 := hf 1 _ rfl
    have f2 := hf 2 _ rfl
    have f3 := hf 3 _ rfl
    have f4 := hf 4 _ rfl
    have f5 := hf 5 _ rfl
    simp [cells3, cells23, cells24] at f0 f1 f2 f3 f4 f5
    match xs, hlen with
    | [y0, y1, y2, y3, y4, y5], _ =>
      simp at f0 f1 f2 f3 f4 f5
      obtain ⟨s0, e0, _, w0⟩ := DataW.trod_int Tryd.underlying3 f0
      obtain ⟨s1, e1, _, _⟩ := DataW.trod_int Tryd.underlying3 f1
      obtain ⟨s2, e2, _, _⟩ := DataW.trod_int Tryd.underlying3 f2
      obtain ⟨s3, e3, _, _⟩ := DataW.trod_int Tryd.underlying3 f3
      obtain ⟨ns, ao, c, e4, hok, hn⟩ := open_nodes f4
      obtain ⟨s5, e5, _, _⟩ := DataW.trod_int Tryd.underlying24 f5
      simp at e0 e1 e2 e3 e4 e5
      subst e0 e1 e2 e3 e4 e5
      refine ⟨⟨s0, s1, s2, s3, ns, s5⟩, ao, c, rfl, hok, hn, ?_⟩
      exact wf_i64 w0

theorem open_shards {fuel : Nat} {cs : List Value} {x : DataW H × List MemPlace} (h : DataW.trod enc Tryd.prog w 0 (fun _ => true) held fuel 30 cs = some x) :
    ∃ (ss : List Sd) (ao : Option Addr) (c : Nat), cs = [.slice ao ss.length c] ∧ SlOk ao ss.length c ∧ SdsAt w 0 ao ss ∧ ∀ s ∈ ss, InI64 s.i := by
  obtain ⟨l, ao, c, e, hok, hat⟩ := open_rows (At := fun b o d => SdAt w 0 b o d ∧ InI64 d.i) Tryd.underlying30 cells26 (by omega) (fun n b o cs' y hy hc => by
    obtain ⟨d, ao, c, rfl, hok, hn, hi⟩ := open_shard hy
    exact ⟨d, ⟨hc 0 (by omega), hc 1 (by omega), hc 2 (by omega), hc 3 (by omega), ⟨ao, c, hc 4 (by omega), hok, hn⟩, hc 5 (by omega)⟩, hi⟩) h
  refine ⟨l, ao, c, e, hok, fun k d hd => ?_, fun s hs => ?_⟩
  · obtain ⟨b, o, e, ha, _⟩ := hat k d hd
    exact ⟨b, o, e, Nat.zero_le _, ha⟩
  · obtain ⟨k, hk⟩ := List.getElem?_of_mem hs
    obtain ⟨_, _, _, _, hi⟩ := hat k s hk
    exact hi

theorem open_clusters {fuel : Nat} {cs : List Value} {x : DataW H × List MemPlace} (h : DataW.trod enc Tryd.prog w 0 (fun _ => true) held fuel 22 cs = some x) :
    ∃ (l : List Cd) (ao : Option Addr) (c : Nat), cs = [.slice ao l.length c] ∧ SlOk ao l.length c ∧ CdsAt w 0 ao l ∧ ∀ d ∈ l, ∀ s ∈ d.ss, InI64 s.i := by
  obtain ⟨l, ao, c, e, hok, hat⟩ := open_rows (At := fun b o d => CdAt w 0 b o d ∧ ∀ s ∈ d.ss, InI64 s.i) Tryd.underlying22 cells32 (by omega) (fun n b o cs' y hy hc => by
    obtain ⟨xs, n, _, rfl, hl, hlen, hf⟩ := DataW.trod_struct Tryd.underlying32 hy
    rw [cells32] at hl
    match cs', hl with
    | [c0, c1], _ =>
      have f0 := hf 0 _ rfl
      have f1 := hf 1 _ rfl
      simp [cells9, cells30] at f0 f1
      match xs, hlen with
      | [y0, y1], _ =>
        simp at f0 f1
        obtain ⟨s0, e0, _, _⟩ := DataW.trod_string Tryd.underlying9 f0
        obtain ⟨ss, ao, c, e1, hok, hss, hi⟩ := open_shards f1
        simp at e0 e1
        subst e0 e1
        exact ⟨⟨s0, ss⟩, ⟨hc 0 (by omega), ao, c, hc 1 (by omega), hok, hss⟩, hi⟩) h
  refine ⟨l, ao, c, e, hok, fun k d hd => ?_, fun d hd => ?_⟩
  · obtain ⟨b, o, e, ha, _⟩ := hat k d hd
    exact ⟨b, o, e, Nat.zero_le _, ha⟩
  · obtain ⟨k, hk⟩ := List.getElem?_of_mem hd
    obtain ⟨_, _, _, _, hi⟩ := hat k d hk
    exact hi
end
end Go.Proofs.Qxb6629213aDoor
