import Derived.WalkKit
import Derived.WalkSpells
import Derived.Deep.MidRow
namespace Go.Proofs.Qxb6629213aDoor
open Go.RowKit
set_option linter.unusedVariables false
set_option linter.unusedSimpArgs false


theorem hid {p : Prop} (h : p) : Hid p := h

structure Nd where
  h : ByteArray
  a : ByteArray
  r : ByteArray
  l : ByteArray
structure Sd where
  i : Int
  f : Int
  t : Int
  r : Int
  ns : List Nd
  o : Int
structure Cd where
  n : ByteArray
  ss : List Sd

def SlOk (ao : Option Addr) (n c : Nat) : Prop := n ≤ c ∧ c ≤ maxLen ∧ (ao = none → n = 0 ∧ c = 0)

def NdAt (w : World) (b o : Nat) (d : Nd) : Prop :=
  w.cell? ⟨b, o, none⟩ = some (.string d.h) ∧ w.cell? ⟨b, o + 1, none⟩ = some (.string d.a) ∧ w.cell? ⟨b, o + 2, none⟩ = some (.string d.r) ∧ w.cell? ⟨b, o + 3, none⟩ = some (.string d.l)

def NdsAt (w : World) (lo : Nat) (ao : Option Addr) (ns : List Nd) : Prop :=
  ∀ k d, ns[k]? = some d → ∃ b o, ao = some ⟨b, o, none⟩ ∧ lo ≤ b ∧ NdAt w b (o + k * 4) d

def SdAt (w : World) (lo b o : Nat) (d : Sd) : Prop :=
  w.cell? ⟨b, o, none⟩ = some (.int .i64 d.i) ∧ w.cell? ⟨b, o + 1, none⟩ = some (.int .i64 d.f) ∧ w.cell? ⟨b, o + 2, none⟩ = some (.int .i64 d.t) ∧ w.cell? ⟨b, o + 3, none⟩ = some (.int .i64 d.r) ∧
  (∃ ao c, w.cell? ⟨b, o + 4, none⟩ = some (.slice ao d.ns.length c) ∧ SlOk ao d.ns.length c ∧ NdsAt w lo ao d.ns) ∧ w.cell? ⟨b, o + 5, none⟩ = some (.int .u64 d.o)

def SdsAt (w : World) (lo : Nat) (ao : Option Addr) (ss : List Sd) : Prop :=
  ∀ k d, ss[k]? = some d → ∃ b o, ao = some ⟨b, o, none⟩ ∧ lo ≤ b ∧ SdAt w lo b (o + k * 6) d

def CdAt (w : World) (lo b o : Nat) (d : Cd) : Prop :=
  w.cell? ⟨b, o, none⟩ = some (.string d.n) ∧ (∃ ao c, w.cell? ⟨b, o + 1, none⟩ = some (.slice ao d.ss.length c) ∧ SlOk ao d.ss.length c ∧ SdsAt w lo ao d.ss)

def CdsAt (w : World) (lo : Nat) (ao : Option Addr) (cs : List Cd) : Prop :=
  ∀ k d, cs[k]? = some d → ∃ b o, ao = some ⟨b, o, none⟩ ∧ lo ≤ b ∧ CdAt w lo b (o + k * 2) d

/-- Every cell of a block from 'lo' on that was there is there as it was. -/
def Keeps (lo : Nat) (w w' : World) : Prop := ∀ b o v, lo ≤ b → w.cell? ⟨b, o, none⟩ = some v → w'.cell? ⟨b, o, none⟩ = some v

theorem Keeps.of_below {lo : Nat} {w w' : World} (h : Below w.heap.size w w') : Keeps lo w w' := fun b o v _ hc =>
  (h.cell (p := ⟨b, o, none⟩) (World.block_lt_of_cell? w ⟨b, o, none⟩ hc)).trans hc

theorem Keeps.mono {lo lo' : Nat} {w w' : World} (h : Keeps lo w w') (hl : lo ≤ lo') : Keeps lo' w w' := fun b o v hb hc => h b o v (Nat.le_trans hl hb) hc

theorem NdAt.keep {lo b o : Nat} {w w' : World} {d : Nd} (k : Keeps lo w w') (hb : lo ≤ b) (h : NdAt w b o d) : NdAt w' b o d :=
  ⟨k _ _ _ hb h.1, k _ _ _ hb h.2.1, k _ _ _ hb h.2.2.1, k _ _ _ hb h.2.2.2⟩
theorem NdsAt.keep {lo : Nat} {w w' : World} {ao : Option Addr} {ns : List Nd} (k : Keeps lo w w') (h : NdsAt w lo ao ns) : NdsAt w' lo ao ns := fun i d hd => by
  obtain ⟨b, o, e, hl, hn⟩ := h i d hd
  exact ⟨b, o, e, hl, hn.keep k hl⟩
theorem SdAt.keep {lo b o : Nat} {w w' : World} {d : Sd} (k : Keeps lo w w') (hb : lo ≤ b) (h : SdAt w lo b o d) : SdAt w' lo b o d := by
  obtain ⟨h1, h2, h3, h4, ⟨ao, c, h5, h6, h7⟩, h8⟩ := h
  exact ⟨k _ _ _ hb h1, k _ _ _ hb h2, k _ _ _ hb h3, k _ _ _ hb h4, ⟨ao, c, k _ _ _ hb h5, h6, h7.keep k⟩, k _ _ _ hb h8⟩
theorem SdsAt.keep {lo : Nat} {w w' : World} {ao : Option Addr} {ss : List Sd} (k : Keeps lo w w') (h : SdsAt w lo ao ss) : SdsAt w' lo ao ss := fun i d hd => by
  obtain ⟨b, o, e, hl, hn⟩ := h i d hd
  exact ⟨b, o, e, hl, hn.keep k hl⟩
theorem CdAt.keep {lo b o : Nat} {w w' : World} {d : Cd} (k : Keeps lo w w') (hb : lo ≤ b) (h : CdAt w lo b o d) : CdAt w' lo b o d := by
  obtain ⟨h1, ⟨ao, c, h5, h6, h7⟩⟩ := h
  exact ⟨k _ _ _ hb h1, ⟨ao, c, k _ _ _ hb h5, h6, h7.keep k⟩⟩
theorem CdsAt.keep {lo : Nat} {w w' : World} {ao : Option Addr} {cs : List Cd} (k : Keeps lo w w') (h : CdsAt w lo ao cs) : CdsAt w' lo ao cs := fun i d hd => by
  obtain ⟨b, o, e, hl, hn⟩ := h i d hd
  exact ⟨b, o, e, hl, hn.keep k hl⟩

theorem NdsAt.low {lo lo' : Nat} {w : World} {ao : Option Addr} {ns : List Nd} (hl : lo' ≤ lo) (h : NdsAt w lo ao ns) : NdsAt w lo' ao ns := fun i d hd => by
  obtain ⟨b, o, e, hb, hn⟩ := h i d hd
  exact ⟨b, o, e, Nat.le_trans hl hb, hn⟩
theorem SdAt.low {lo lo' b o : Nat} {w : World} {d : Sd} (hl : lo' ≤ lo) (h : SdAt w lo b o d) : SdAt w lo' b o d := by
  obtain ⟨h1, h2, h3, h4, ⟨ao, c, h5, h6, h7⟩, h8⟩ := h
  exact ⟨h1, h2, h3, h4, ⟨ao, c, h5, h6, h7.low hl⟩, h8⟩
theorem SdsAt.low {lo lo' : Nat} {w : World} {ao : Option Addr} {ss : List Sd} (hl : lo' ≤ lo) (h : SdsAt w lo ao ss) : SdsAt w lo' ao ss := fun i d hd => by
  obtain ⟨b, o, e, hb, hn⟩ := h i d hd
  exact ⟨b, o, e, Nat.le_trans hl hb, hn.low hl⟩
theorem CdAt.low {lo lo' b o : Nat} {w : World} {d : Cd} (hl : lo' ≤ lo) (h : CdAt w lo b o d) : CdAt w lo' b o d := by
  obtain ⟨h1, ⟨ao, c, h5, h6, h7⟩⟩ := h
  exact ⟨h1, ⟨ao, c, h5, h6, h7.low hl⟩⟩
theorem CdsAt.low {lo lo' : Nat} {w : World} {ao : Option Addr} {cs : List Cd} (hl : lo' ≤ lo) (h : CdsAt w lo ao cs) : CdsAt w lo' ao cs := fun i d hd => by
  obtain ⟨b, o, e, hb, hn⟩ := h i d hd
  exact ⟨b, o, e, Nat.le_trans hl hb, hn.low hl⟩

/-- The row that a 'make' has laid. -/
theorem row_of_owns {w : World} {base e size g n : Nat} {xs : List Value} (h : w.ownsRow base e size (.slice (some ⟨g, 0, none⟩) n n) n xs) :
    ∃ cur : Array Value, w.heap[g]? = some (.cells cur e (0, 0)) ∧ cur.size = n * size ∧ n ≤ maxLen := by
  rcases h.2 with ⟨h1, _⟩ | ⟨g', cap, cur, hv, _, hg, _, hm, hs, _⟩
  · cases h1
  · injection hv with h1 h2 h3
    injection h1 with h1
    injection h1 with h1
    subst h1 h3
    exact ⟨cur, hg, hs, hm⟩

theorem row_cell {w : World} {g o e : Nat} {cur : Array Value} (h : w.heap[g]? = some (.cells cur e (0, 0))) (ho : o < cur.size) : ∃ v, w.cell? ⟨g, o, none⟩ = some v :=
  ⟨cur[o], by rw [cell_of_row w g o cur e _ h]; exact Array.getElem?_eq_getElem ho⟩

/-- A store into the row: the row behind it; every other cell is as it was. -/
theorem row_store {w : World} {g o e : Nat} {cur : Array Value} (u : Value) (h : w.heap[g]? = some (.cells cur e (0, 0))) : (w.setCell ⟨g, o, none⟩ u).heap[g]? = some (.cells (cur.setIfInBounds o u) e (0, 0)) :=
  heap_setCell_same w g o cur e u h

theorem Keeps.store {lo g o : Nat} (w : World) (u : Value) (h : g < lo) : Keeps lo w (w.setCell ⟨g, o, none⟩ u) := fun b o' v hb hc => by
  rw [World.cell?_of_block (w := w) (heap_setCell_other w ⟨g, o, none⟩ b u (by simp; omega))]
  exact hc
theorem Keeps.trans {lo : Nat} {a b c : World} (h : Keeps lo a b) (k : Keeps lo b c) : Keeps lo a c := fun x o v hx hc => k _ _ _ hx (h _ _ _ hx hc)
theorem Keeps.refl (lo : Nat) (w : World) : Keeps lo w w := fun _ _ _ _ h => h

/-- Stores one behind the other into block g from o on. -/
def putCells (g : Nat) : World → Nat → List Value → World
  | w, _, [] => w
  | w, o, x :: xs => putCells g (w.setCell ⟨g, o, none⟩ x) (o + 1) xs

theorem put_size {g : Nat} : ∀ (xs : List Value) (w : World) (o : Nat), (putCells g w o xs).heap.size = w.heap.size
  | [], _, _ => rfl
  | x :: xs, w, o => by
    show (putCells g (w.setCell ⟨g, o, none⟩ x) (o + 1) xs).heap.size = _
    rw [put_size xs]; simp [World.setCell]

theorem put_other {g b : Nat} (hb : b ≠ g) : ∀ (xs : List Value) (w : World) (o : Nat), (putCells g w o xs).heap[b]? = w.heap[b]?
  | [], _, _ => rfl
  | x :: xs, w, o => by
    show (putCells g (w.setCell ⟨g, o, none⟩ x) (o + 1) xs).heap[b]? = _
    rw [put_other hb xs]
    exact heap_setCell_other w ⟨g, o, none⟩ b x hb

theorem put_row {g e : Nat} : ∀ (xs : List Value) (w : World) (o : Nat) (cur : Array Value), w.heap[g]? = some (.cells cur e (0, 0)) → o + xs.length ≤ cur.size →
    ∃ cur' : Array Value, (putCells g w o xs).heap[g]? = some (.cells cur' e (0, 0)) ∧ cur'.size = cur.size ∧ (∀ j x, xs[j]? = some x → cur'[o + j]? = some x) ∧ (∀ o', o' < o ∨ o + xs.length ≤ o' → cur'[o']? = cur[o']?)
  | [], w, o, cur, h, _ => ⟨cur, h, rfl, fun j x hx => by simp at hx, fun _ _ => rfl⟩
  | x :: xs, w, o, cur, h, hs => by
    simp only [List.length_cons] at hs
    obtain ⟨cur', h1, h2, h3, h4⟩ := put_row xs (w.setCell ⟨g, o, none⟩ x) (o + 1) (cur.setIfInBounds o x) (row_store x h) (by simp; omega)
    refine ⟨cur', h1, by rw [h2]; simp, ?_, ?_⟩
    · intro j y hy
      cases j with
      | zero =>
        simp at hy
        subst hy
        rw [show o + 0 = o from rfl, h4 o (by omega)]
        simp [Array.getElem?_setIfInBounds]
        omega
      | succ j =>
        have := h3 j y (by simpa using hy)
        rwa [show o + (j + 1) = o + 1 + j by omega]
    · intro o' ho'
      simp only [List.length_cons] at ho'
      rw [h4 o' (by omega)]
      simp [Array.getElem?_setIfInBounds]
      intro he
      omega

theorem put_below {B g : Nat} {a w : World} (h : Below B a w) (hB : B ≤ g) (o : Nat) (xs : List Value) : Below B a (putCells g w o xs) := by
  refine h.trans ?_
  have : ∀ (xs : List Value) (w : World) (o : Nat), Below B w (putCells g w o xs) := by
    intro xs
    induction xs with
    | nil => exact fun w o => Below.refl _ _
    | cons x xs ih => exact fun w o => ((Below.refl _ _).setCell (p := ⟨g, o, none⟩) hB x).trans (ih _ _)
  exact this xs w o

theorem put_keeps {lo g : Nat} (h : g < lo) (w : World) (o : Nat) (xs : List Value) : Keeps lo w (putCells g w o xs) := fun b o' v hb hc => by
  rw [World.cell?_of_block (w := w) (a := ⟨b, o', none⟩) (put_other (b := b) (by omega) xs w o)]
  exact hc

theorem put_eq_setCells (g : Nat) : ∀ (xs : List Value) (w : World) (o : Nat), w.setCells g o xs = putCells g w o xs
  | [], _, _ => rfl
  | x :: xs, w, o => put_eq_setCells g xs (w.setCell ⟨g, o, none⟩ x) (o + 1)

/-- A struct stored into the midst of a row: the world behind it gets a name of its own. -/
theorem store_row {P : Program} {ops : Array Oper} {rest : List Oper} {op : Oper} {a : Act} {w : World} {Q : Exit → Act → World → Prop} (hgd : op.guard = none) (ty : TypeId) (x y : Operand) (ho : op.op = .store ty x y)
    (b o : Nat) (cells : Array Value) (hx : a.eval x = .pointer (some ⟨b, o, none⟩)) (hy : a.eval y = .agg cells)
    (ht : w.there b o cells.size) (hi : (P.info? ty).map (·.size) = some cells.size) (h1 : cells.all (·.oneCell') = true)
    (h : ∀ X, X = putCells b w o cells.toList → wpList P ops Q rest (a.put op.dst undef) X) : wpList P ops Q (op :: rest) a w :=
  wpList_store_mid hgd ty x y ho b o cells hx hy ht hi h1 (h _ (put_eq_setCells b _ _ _))
theorem there_row {w : World} {g e o n : Nat} {cur : Array Value} (h : w.heap[g]? = some (.cells cur e (0, 0))) (hs : o + n ≤ cur.size) : w.there g o n := fun j hj => by
  refine ⟨?_, frozen_of_row w g _ cur e h⟩
  obtain ⟨v, hv⟩ := row_cell (o := o + j) h (by omega)
  rw [hv]
  rfl

/-- The first k elements of the row at block g. -/
def NdRow (w : World) (g : Nat) (ns : List Nd) (k : Nat) : Prop := ∀ j d, j < k → ns[j]? = some d → NdAt w g (j * 4) d
def SdRow (w : World) (g : Nat) (ss : List Sd) (k : Nat) : Prop := ∀ j d, j < k → ss[j]? = some d → SdAt w (g + 1) g (j * 6) d
def CdRow (w : World) (g : Nat) (cs : List Cd) (k : Nat) : Prop := ∀ j d, j < k → cs[j]? = some d → CdAt w (g + 1) g (j * 2) d

theorem NdAt.move {w w' : World} {b o : Nat} {d : Nd} (hc : ∀ j v, j < 4 → w.cell? ⟨b, o + j, none⟩ = some v → w'.cell? ⟨b, o + j, none⟩ = some v) (h : NdAt w b o d) : NdAt w' b o d :=
  ⟨hc 0 _ (by omega) h.1, hc 1 _ (by omega) h.2.1, hc 2 _ (by omega) h.2.2.1, hc 3 _ (by omega) h.2.2.2⟩
theorem SdAt.move {w w' : World} {lo b o : Nat} {d : Sd} (hc : ∀ j v, j < 6 → w.cell? ⟨b, o + j, none⟩ = some v → w'.cell? ⟨b, o + j, none⟩ = some v) (k : Keeps lo w w') (h : SdAt w lo b o d) : SdAt w' lo b o d := by
  obtain ⟨h1, h2, h3, h4, ⟨ao, c, h5, h6, h7⟩, h8⟩ := h
  exact ⟨hc 0 _ (by omega) h1, hc 1 _ (by omega) h2, hc 2 _ (by omega) h3, hc 3 _ (by omega) h4, ⟨ao, c, hc 4 _ (by omega) h5, h6, h7.keep k⟩, hc 5 _ (by omega) h8⟩
theorem CdAt.move {w w' : World} {lo b o : Nat} {d : Cd} (hc : ∀ j v, j < 2 → w.cell? ⟨b, o + j, none⟩ = some v → w'.cell? ⟨b, o + j, none⟩ = some v) (k : Keeps lo w w') (h : CdAt w lo b o d) : CdAt w' lo b o d := by
  obtain ⟨h1, ⟨ao, c, h5, h6, h7⟩⟩ := h
  exact ⟨hc 0 _ (by omega) h1, ⟨ao, c, hc 1 _ (by omega) h5, h6, h7.keep k⟩⟩

/-- From one world to a later one, nothing that was there written. -/
theorem NdRow.later {w w' : World} {g k : Nat} {ns : List Nd} (hb : Below w.heap.size w w') (h : NdRow w g ns k) : NdRow w' g ns k := fun j d hj hd => (h j d hj hd).move fun i v _ hc => cell_later hb hc
theorem SdRow.later {w w' : World} {g k : Nat} {ss : List Sd} (hb : Below w.heap.size w w') (h : SdRow w g ss k) : SdRow w' g ss k := fun j d hj hd => (h j d hj hd).move (fun i v _ hc => cell_later hb hc) (Keeps.of_below hb)
theorem CdRow.later {w w' : World} {g k : Nat} {cs : List Cd} (hb : Below w.heap.size w w') (h : CdRow w g cs k) : CdRow w' g cs k := fun j d hj hd => (h j d hj hd).move (fun i v _ hc => cell_later hb hc) (Keeps.of_below hb)

section
variable {w : World} {g e k : Nat} {cur : Array Value}

theorem put_cell_old {xs : List Value} {o o' : Nat} (h : w.heap[g]? = some (.cells cur e (0, 0))) (hs : o + xs.length ≤ cur.size) (ho : o' < o ∨ o + xs.length ≤ o') {v : Value} (hc : w.cell? ⟨g, o', none⟩ = some v) : (putCells g w o xs).cell? ⟨g, o', none⟩ = some v := by
  obtain ⟨cur', h1, _, _, h4⟩ := put_row xs w o cur h hs
  rw [cell_of_row _ _ _ _ _ _ h1, h4 o' ho, ← cell_of_row _ _ _ _ _ _ h]
  exact hc
theorem put_cell_new {xs : List Value} {o j : Nat} (h : w.heap[g]? = some (.cells cur e (0, 0))) (hs : o + xs.length ≤ cur.size) {x : Value} (hx : xs[j]? = some x) : (putCells g w o xs).cell? ⟨g, o + j, none⟩ = some x := by
  obtain ⟨cur', h1, _, h3, _⟩ := put_row xs w o cur h hs
  rw [cell_of_row _ _ _ _ _ _ h1]
  exact h3 j x hx
theorem put_still {xs : List Value} {o : Nat} (h : w.heap[g]? = some (.cells cur e (0, 0))) (hs : o + xs.length ≤ cur.size) : ∃ cur' : Array Value, (putCells g w o xs).heap[g]? = some (.cells cur' e (0, 0)) ∧ cur'.size = cur.size := by
  obtain ⟨cur', h1, h2, _, _⟩ := put_row xs w o cur h hs
  exact ⟨cur', h1, h2⟩

/-- ONE ROUND: element k is stored. -/
theorem NdRow.put {ns : List Nd} {d : Nd} (h : w.heap[g]? = some (.cells cur e (0, 0))) (hs : cur.size = ns.length * 4) (hd : ns[k]? = some d) (hr : NdRow w g ns k) :
    NdRow (putCells g w (k * 4) [.string d.h, .string d.a, .string d.r, .string d.l]) g ns (k + 1) := by
  have hk : k < ns.length := (List.getElem?_eq_some_iff.1 hd).1
  have hs' : k * 4 + [Value.string d.h, .string d.a, .string d.r, .string d.l].length ≤ cur.size := by simp; omega
  intro j d' hj hd'
  by_cases hjk : j = k
  · subst hjk
    obtain rfl : d' = d := by rw [hd] at hd'; exact (Option.some.inj hd').symm
    exact ⟨put_cell_new (j := 0) h hs' rfl, put_cell_new (j := 1) h hs' rfl, put_cell_new (j := 2) h hs' rfl, put_cell_new (j := 3) h hs' rfl⟩
  · exact (hr j d' (by omega) hd').move fun i v hi hc => put_cell_old h hs' (by omega) hc

theorem SdRow.put {ss : List Sd} {d : Sd} {ao : Option Addr} {c : Nat} (h : w.heap[g]? = some (.cells cur e (0, 0))) (hs : cur.size = ss.length * 6) (hd : ss[k]? = some d) (hr : SdRow w g ss k) (hok : SlOk ao d.ns.length c) (hn : NdsAt w (g + 1) ao d.ns) :
    SdRow (putCells g w (k * 6) [.int .i64 d.i, .int .i64 d.f, .int .i64 d.t, .int .i64 d.r, .slice ao d.ns.length c, .int .u64 d.o]) g ss (k + 1) := by
  have hk : k < ss.length := (List.getElem?_eq_some_iff.1 hd).1
  have hs' : k * 6 + [Value.int .i64 d.i, .int .i64 d.f, .int .i64 d.t, .int .i64 d.r, .slice ao d.ns.length c, .int .u64 d.o].length ≤ cur.size := by simp; omega
  intro j d' hj hd'
  by_cases hjk : j = k
  · subst hjk
    obtain rfl : d' = d := by rw [hd] at hd'; exact (Option.some.inj hd').symm
    exact ⟨put_cell_new (j := 0) h hs' rfl, put_cell_new (j := 1) h hs' rfl, put_cell_new (j := 2) h hs' rfl, put_cell_new (j := 3) h hs' rfl, ⟨ao, c, put_cell_new (j := 4) h hs' rfl, hok, hn.keep (put_keeps (by omega) _ _ _)⟩, put_cell_new (j := 5) h hs' rfl⟩
  · exact (hr j d' (by omega) hd').move (fun i v hi hc => put_cell_old h hs' (by omega) hc) (put_keeps (by omega) _ _ _)

theorem CdRow.put {cs : List Cd} {d : Cd} {ao : Option Addr} {c : Nat} (h : w.heap[g]? = some (.cells cur e (0, 0))) (hs : cur.size = cs.length * 2) (hd : cs[k]? = some d) (hr : CdRow w g cs k) (hok : SlOk ao d.ss.length c) (hn : SdsAt w (g + 1) ao d.ss) :
    CdRow (putCells g w (k * 2) [.string d.n, .slice ao d.ss.length c]) g cs (k + 1) := by
  have hk : k < cs.length := (List.getElem?_eq_some_iff.1 hd).1
  have hs' : k * 2 + [Value.string d.n, .slice ao d.ss.length c].length ≤ cur.size := by simp; omega
  intro j d' hj hd'
  by_cases hjk : j = k
  · subst hjk
    obtain rfl : d' = d := by rw [hd] at hd'; exact (Option.some.inj hd').symm
    exact ⟨put_cell_new (j := 0) h hs' rfl, ⟨ao, c, put_cell_new (j := 1) h hs' rfl, hok, hn.keep (put_keeps (by omega) _ _ _)⟩⟩
  · exact (hr j d' (by omega) hd').move (fun i v hi hc => put_cell_old h hs' (by omega) hc) (put_keeps (by omega) _ _ _)
end

def SdMade (w : World) (lo : Nat) (ao : Option Addr) (c : Nat) (ss : List Sd) : Prop :=
  (ao = none ∧ c = 0 ∧ ss = []) ∨ ∃ (g : Nat) (cur : Array Value), ao = some ⟨g, 0, none⟩ ∧ c = ss.length ∧ lo ≤ g ∧ w.heap[g]? = some (.cells cur 41 (0, 0)) ∧ cur.size = ss.length * 6 ∧ SdRow w g ss ss.length
def CdMade (w : World) (lo : Nat) (ao : Option Addr) (c : Nat) (cs : List Cd) : Prop :=
  (ao = none ∧ c = 0 ∧ cs = []) ∨ ∃ (g : Nat) (cur : Array Value), ao = some ⟨g, 0, none⟩ ∧ c = cs.length ∧ lo ≤ g ∧ w.heap[g]? = some (.cells cur 44 (0, 0)) ∧ cur.size = cs.length * 2 ∧ CdRow w g cs cs.length

theorem NdRow.all {w : World} {g : Nat} {ns : List Nd} (h : NdRow w g ns ns.length) : NdsAt w g (some ⟨g, 0, none⟩) ns := fun k d hd =>
  ⟨g, 0, rfl, Nat.le_refl _, by rw [Nat.zero_add]; exact h k d (List.getElem?_eq_some_iff.1 hd).1 hd⟩
theorem SdRow.all {w : World} {g : Nat} {ss : List Sd} (h : SdRow w g ss ss.length) : SdsAt w g (some ⟨g, 0, none⟩) ss := fun k d hd =>
  ⟨g, 0, rfl, Nat.le_refl _, by rw [Nat.zero_add]; exact (h k d (List.getElem?_eq_some_iff.1 hd).1 hd).low (Nat.le_succ _)⟩
theorem CdRow.all {w : World} {g : Nat} {cs : List Cd} (h : CdRow w g cs cs.length) : CdsAt w g (some ⟨g, 0, none⟩) cs := fun k d hd =>
  ⟨g, 0, rfl, Nat.le_refl _, by rw [Nat.zero_add]; exact (h k d (List.getElem?_eq_some_iff.1 hd).1 hd).low (Nat.le_succ _)⟩
theorem SdMade.at {w : World} {lo c : Nat} {ao : Option Addr} {ss : List Sd} (hl : ss.length ≤ 1048577) (h : SdMade w lo ao c ss) : SlOk ao ss.length c ∧ SdsAt w lo ao ss := by
  rcases h with ⟨rfl, rfl, rfl⟩ | ⟨g, cur, rfl, rfl, hlo, _, _, hr⟩
  · exact ⟨⟨Nat.le_refl _, by simp, fun _ => ⟨rfl, rfl⟩⟩, fun k d hd => by simp at hd⟩
  · exact ⟨⟨Nat.le_refl _, by unfold maxLen; omega, fun h => by cases h⟩, hr.all.low hlo⟩
theorem CdMade.at {w : World} {lo c : Nat} {ao : Option Addr} {cs : List Cd} (hl : cs.length ≤ 1048577) (h : CdMade w lo ao c cs) : SlOk ao cs.length c ∧ CdsAt w lo ao cs := by
  rcases h with ⟨rfl, rfl, rfl⟩ | ⟨g, cur, rfl, rfl, hlo, _, _, hr⟩
  · exact ⟨⟨Nat.le_refl _, by simp, fun _ => ⟨rfl, rfl⟩⟩, fun k d hd => by simp at hd⟩
  · exact ⟨⟨Nat.le_refl _, by unfold maxLen; omega, fun h => by cases h⟩, hr.all.low hlo⟩

def SdSmall (d : Sd) : Prop := d.ns.length ≤ 1048576
def CdSmall (d : Cd) : Prop := d.n.size ≤ 1048576 ∧ d.ss.length ≤ 1048576 ∧ ∀ s ∈ d.ss, SdSmall s
theorem get_lt {α : Type} {l : List α} {k : Nat} (h : k < l.length) : ∃ d, l[k]? = some d ∧ d ∈ l := ⟨l[k], List.getElem?_eq_getElem h, List.getElem_mem h⟩
end Go.Proofs.Qxb6629213aDoor
