import Derived.Test.Qxb6629213aDoorLaws
namespace Go.Proofs.Qxb6629213aDoor
open Go.RowKit
set_option linter.unusedVariables false
set_option linter.unusedSimpArgs false

theorem one6 (a b c d e : Int) (ao : Option Addr) (n k : Nat) : (#[Value.int .i64 a, .int .i64 b, .int .i64 c, .int .i64 d, .slice ao n k, .int .u64 e].all (·.oneCell')) = true := by simp [Value.oneCell']
theorem one2 (a : ByteArray) (ao : Option Addr) (n k : Nat) : (#[Value.string a, .slice ao n k].all (·.oneCell')) = true := by simp [Value.oneCell']

/-- One cluster of the copy replaced. -/
theorem set_cluster {w4 Z : World} {gg2 gg3 ci : Nat} {cs : List Cd} {d : Cd} {ss : List Sd} {cur2 : Array Value} (hlo : w4.heap.size ≤ gg3) (hcur2 : w4.heap[gg2]? = some (.cells cur2 44 (0, 0))) (hcs2 : cur2.size = cs.length * 2) (hrow2 : CdRow w4 gg2 cs cs.length)
    (hk : ∀ b, b < w4.heap.size → Z.heap[b]? = w4.heap[b]?) (R3 : SdRow Z gg3 ss ss.length) (hss : ss.length ≤ 1048577) (hd : cs[ci]? = some d) :
    CdRow (putCells gg2 Z (ci * 2) [.string d.n, .slice (some ⟨gg3, 0, none⟩) ss.length ss.length]) gg2 (cs.set ci ⟨d.n, ss⟩) cs.length := by
  have hci := (List.getElem?_eq_some_iff.1 hd).1
  have l2 := lt_of_block hcur2
  have e2 := (hk gg2 l2).trans hcur2
  have hs' : ci * 2 + [Value.string d.n, .slice (some ⟨gg3, 0, none⟩) ss.length ss.length].length ≤ cur2.size := by simp; omega
  have keep : Keeps (gg2 + 1) Z (putCells gg2 Z (ci * 2) [.string d.n, .slice (some ⟨gg3, 0, none⟩) ss.length ss.length]) := put_keeps (by omega) _ _ _
  refine CdRow.set_at hrow2 ?_ ?_ ?_
  · intro o v ho hc
    refine put_cell_old e2 hs' (by simpa using ho) ?_
    rw [World.cell?_of_block (w := w4) (a := ⟨gg2, o, none⟩) (hk gg2 l2)]
    exact hc
  · intro b o v hb hc
    refine keep b o v hb ?_
    rw [World.cell?_of_block (w := w4) (a := ⟨b, o, none⟩) (hk b (World.block_lt_of_cell? w4 ⟨b, o, none⟩ hc))]
    exact hc
  · refine ⟨put_cell_new (j := 0) e2 hs' rfl, some ⟨gg3, 0, none⟩, ss.length, put_cell_new (j := 1) e2 hs' rfl, ⟨Nat.le_refl _, by unfold maxLen; omega, fun h => by cases h⟩, ?_⟩
    exact (R3.all.low (by omega)).keep keep

/-- The shard brought to strength, in its row. -/
theorem set_shard {w5 Z : World} {gg3 si nb : Nat} {ss : List Sd} {s : Sd} {cur3 : Array Value} (hcur3 : w5.heap[gg3]? = some (.cells cur3 41 (0, 0))) (hcs3 : cur3.size = ss.length * 6) (hrow3 : SdRow w5 gg3 ss ss.length) (hs : ss[si]? = some s)
    (hb : Below w5.heap.size w5 Z) (hnb : gg3 < nb) (hZ : Z.heap[nb]? = some (.cells #[.string ⟨#[]⟩, .string ⟨#[]⟩, .string ⟨#[109, 97, 115, 116, 101, 114]⟩, .string ⟨#[]⟩] 54 (0, 0))) :
    SdRow (putCells gg3 Z (si * 6) [.int .i64 s.i, .int .i64 s.f, .int .i64 s.t, .int .i64 0, .slice (some ⟨nb, 0, none⟩) 1 1, .int .u64 s.o]) gg3 (ss.set si (fixed s)) ss.length := by
  have hsi := (List.getElem?_eq_some_iff.1 hs).1
  have e3 := (hb.block gg3 (lt_of_block hcur3)).trans hcur3
  have hs' : si * 6 + [Value.int .i64 s.i, .int .i64 s.f, .int .i64 s.t, .int .i64 0, .slice (some ⟨nb, 0, none⟩) 1 1, .int .u64 s.o].length ≤ cur3.size := by simp; omega
  have keep : Keeps (gg3 + 1) Z (putCells gg3 Z (si * 6) [.int .i64 s.i, .int .i64 s.f, .int .i64 s.t, .int .i64 0, .slice (some ⟨nb, 0, none⟩) 1 1, .int .u64 s.o]) := put_keeps (by omega) _ _ _
  refine SdRow.set_at hrow3 (fun o v ho hc => put_cell_old e3 hs' (by simpa using ho) (cell_later hb hc)) ((Keeps.of_below hb).trans keep) ?_
  refine ⟨put_cell_new (j := 0) e3 hs' rfl, put_cell_new (j := 1) e3 hs' rfl, put_cell_new (j := 2) e3 hs' rfl, put_cell_new (j := 3) e3 hs' rfl, ⟨some ⟨nb, 0, none⟩, 1, put_cell_new (j := 4) e3 hs' rfl, ⟨Nat.le_refl _, by decide, fun h => by cases h⟩, ?_⟩, put_cell_new (j := 5) e3 hs' rfl⟩
  intro k n hn
  match k, hn with
  | 0, hn =>
    have hn' : (⟨⟨#[]⟩, ⟨#[]⟩, ⟨#[109, 97, 115, 116, 101, 114]⟩, ⟨#[]⟩⟩ : Nd) = n := by simpa [fixed] using hn
    subst hn'
    refine ⟨nb, 0, rfl, hnb, ?_, ?_, ?_, ?_⟩ <;> exact keep _ _ _ hnb (by rw [cell_of_row _ _ _ _ _ _ hZ]; rfl)
  | k + 1, hn => simp [fixed] at hn

/-- The world behind the repaired shard's store. -/
theorem rep_X {w4 w5 w6 X : World} {A : Obj} {gg3 si : Nat} {ss : List Sd} {s : Sd} {cur3 : Array Value}
    (hX : X = putCells gg3 ((w6.alloc A).alloc (.cells #[.string ⟨#[]⟩, .string ⟨#[]⟩, .string ⟨#[109, 97, 115, 116, 101, 114]⟩, .string ⟨#[]⟩] 54)) (si * 6) [.int .i64 s.i, .int .i64 s.f, .int .i64 s.t, .int .i64 0, .slice (some ⟨w6.heap.size + 1, 0, none⟩) 1 1, .int .u64 s.o])
    (hcur3 : w5.heap[gg3]? = some (.cells cur3 41 (0, 0))) (hcs3 : cur3.size = ss.length * 6) (hrow3 : SdRow w5 gg3 ss ss.length) (hs : ss[si]? = some s) (hlo : w4.heap.size ≤ gg3) (hb5 : Below w4.heap.size w4 w5) (hb6 : Below w5.heap.size w5 w6) :
    SdRow X gg3 (ss.set si (fixed s)) ss.length ∧ Below w4.heap.size w4 X := by
  have l3 := lt_of_block hcur3
  have hZ : Below w6.heap.size w6 ((w6.alloc A).alloc (.cells #[.string ⟨#[]⟩, .string ⟨#[]⟩, .string ⟨#[109, 97, 115, 116, 101, 114]⟩, .string ⟨#[]⟩] 54)) := ((Below.refl _ _).alloc (Nat.le_refl _) _).alloc (by simp) _
  have hb := hb6.trans (hZ.mono hb6.size)
  have h4 := hb5.trans (hb.mono hb5.size)
  subst hX
  refine ⟨set_shard hcur3 hcs3 hrow3 hs hb (by have := hb6.size; omega) (heap_alloc2_new _ _ _), put_below h4 hlo _ _⟩

theorem StAt.later {w w' : World} {lo b : Nat} {cs : List Cd} (hb : Below w.heap.size w w') (h : StAt w lo b cs) : StAt w' lo b cs := by
  obtain ⟨h1, ao, c, h2, h3, h4⟩ := h
  exact ⟨h1, ao, c, cell_later hb h2, h3, h4.keep (Keeps.of_below hb)⟩

theorem bt {a b c : World} (h : Below a.heap.size a b) (k : Below b.heap.size b c) : Below a.heap.size a c := h.trans (k.mono h.size)
theorem bt0 {B : Nat} {a b c : World} (hB : B ≤ b.heap.size) (h : Below B a b) (k : Below b.heap.size b c) : Below B a c := h.trans (k.mono hB)
theorem ba (w : World) (o : Obj) : Below w.heap.size w (w.alloc o) := (Below.refl _ _).alloc (Nat.le_refl _) o
theorem bd (w : World) (m : Nat) : Below w.heap.size w (w.drewN m) := ⟨rfl, rfl, rfl, Nat.le_refl _, fun _ _ => rfl⟩

/-- 'xs[k:]' of a list of strings. -/
theorem tail_slice (ao : Option Addr) (n c k r : Nat) (hok : SlOk ao n c) (hk : n = k + r) : ∃ ao2 c2, (∀ w : World, (Instr.slice 45 (.slice ao n c) (some (.int .i64 (k : Int))) none none).run Tryd.prog w = .ok (.slice ao2 r c2) w) ∧ SlOk ao2 r c2 ∧ ∀ (w : World) (L : List ByteArray), L.length = n → StrsAt w ao L → StrsAt w ao2 (L.drop k) := by
  obtain ⟨h1, h2, h3⟩ := hok
  refine ⟨if c = k then ao else ao.map (·.add (k * 1)), c - k, fun w => ?_, ⟨by omega, by omega, ?_⟩, ?_⟩
  · rw [run_slice_l (P := Tryd.prog) w 45 ao n c (by kernel_rfl) .i64 (k : Int) (by omega) (by omega)]
    have he : Tryd.prog.elem 45 = 9 := by kernel_rfl
    rw [he]
    simp only [go_sem, Tryd.sizeOf9, sliced, Int.toNat_natCast]
    show Result.ok (Value.slice _ (n - k) (c - k)) w = _
    rw [show n - k = r by omega]
  · intro h
    split at h
    · have := h3 h; omega
    · cases ao with
      | none => have := h3 rfl; omega
      | some a => simp at h
  · intro w L hL hs j x hx
    rw [List.getElem?_drop] at hx
    have hj := (List.getElem?_eq_some_iff.1 hx).1
    obtain ⟨b, o, e, hc⟩ := hs (k + j) x hx
    subst e
    refine ⟨b, o + k, ?_, by rw [Nat.add_assoc]; exact hc⟩
    rw [if_neg (by omega)]
    simp [Addr.add_lit]

theorem st_box' {w : World} {g n : Nat} {cs : List Cd} (hl : cs.length ≤ 1048577) (hn : cs.length = n) (h : CdRow w g cs n) : StAt (w.alloc (.cells #[.slice (some ⟨g, 0, none⟩) n n] 37)) 0 w.heap.size cs := by
  subst hn
  exact ⟨Nat.zero_le _, some ⟨g, 0, none⟩, cs.length, by rw [World.cell?_alloc_at _ _ _ _ rfl]; rfl, ⟨Nat.le_refl _, by unfold maxLen; omega, fun h => by cases h⟩, (h.all.low (Nat.zero_le _)).keep (Keeps.of_below ((Below.refl _ _).alloc (Nat.le_refl _) _))⟩

theorem uok_cs {cs : List Cd} (hl : cs.length ≤ 1048576) (hsm : ∀ d ∈ cs, CdSmall d) (hi : ∀ d ∈ cs, ∀ s ∈ d.ss, InI64 s.i) : UOk cs :=
  ⟨by omega, fun c hc => ⟨(hsm c hc).1, Nat.le_succ_of_le (hsm c hc).2.1, fun s hs => ⟨(hsm c hc).2.2 s hs, hi c hc s hs⟩⟩⟩
theorem uok_cut {cs : List Cd} {ci si : Nat} {d : Cd} (hu : UOk cs) (hd : cs[ci]? = some d) : UOk (cutAt cs ci si d) := by
  have hci := (List.getElem?_eq_some_iff.1 hd).1
  have hm : d ∈ cs := List.mem_of_getElem? hd
  refine ⟨by rw [cutAt_length hd]; have := hu.1; omega, fun c hc => ?_⟩
  unfold cutAt at hc
  rcases List.mem_append.1 hc with hc | hc
  · exact hu.2 c (List.mem_of_mem_take hc)
  · simp at hc
    subst hc
    obtain ⟨h1, h2, h3⟩ := hu.2 d hm
    exact ⟨h1, by simp; omega, fun s hs => h3 s (List.mem_of_mem_take hs)⟩
theorem uok_set {cs : List Cd} {ci : Nat} {d : Cd} {ss : List Sd} (hu : UOk cs) (hd : cs[ci]? = some d) (hl : ss.length ≤ 1048577) (hs : ∀ s ∈ ss, SdSmall s ∧ InI64 s.i) : UOk (cs.set ci ⟨d.n, ss⟩) := by
  have hm : d ∈ cs := List.mem_of_getElem? hd
  refine ⟨by rw [List.length_set]; exact hu.1, fun c hc => ?_⟩
  rcases List.mem_or_eq_of_mem_set hc with hc | rfl
  · exact hu.2 c hc
  · exact ⟨(hu.2 d hm).1, hl, hs⟩
theorem uok_fixed {cs : List Cd} {ci si : Nat} {d : Cd} {s : Sd} (hu : UOk cs) (hd : cs[ci]? = some d) (hs : d.ss[si]? = some s) : UOk (cs.set ci ⟨d.n, d.ss.set si (fixed s)⟩) := by
  have hm : d ∈ cs := List.mem_of_getElem? hd
  have hm2 : s ∈ d.ss := List.mem_of_getElem? hs
  obtain ⟨h1, h2, h3⟩ := hu.2 d hm
  refine uok_set hu hd (by simpa using h2) fun x hx => ?_
  rcases List.mem_or_eq_of_mem_set hx with hx | rfl
  · exact h3 x hx
  · exact ⟨by show (fixed s).ns.length ≤ 1048576; simp [fixed], (h3 s hm2).2⟩
end Go.Proofs.Qxb6629213aDoor
