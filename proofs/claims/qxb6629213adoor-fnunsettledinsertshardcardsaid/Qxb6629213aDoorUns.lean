import Derived.Test.Qxb6629213aDoorW7
import Derived.Test.Qxb6629213aDoorW4
import Derived.Test.Qxb6629213aDoorW6
import Derived.Test.Qxb6629213aDoorShelf
import Derived.Lib.AppendIntMem
namespace Go.Proofs.Qxb6629213aDoor
open Go.RowKit
set_option linter.unusedVariables false
set_option linter.unusedSimpArgs false

/-- The names of the unsettled shards of one cluster, of all. -/
def nms (n : ByteArray) (ss : List Sd) : List ByteArray := (ss.filter fun s => !setd s).map fun s => nameOf n s.i
def unset (cs : List Cd) : List ByteArray := cs.flatMap fun c => nms c.n c.ss

theorem nms_snoc (n : ByteArray) (ss : List Sd) (s : Sd) : nms n (ss ++ [s]) = nms n ss ++ if setd s then [] else [nameOf n s.i] := by
  unfold nms
  rw [List.filter_append]
  by_cases h : setd s <;> simp [h]
theorem nms_append (n : ByteArray) (a b : List Sd) : nms n (a ++ b) = nms n a ++ nms n b := by simp [nms]
theorem nms_le (n : ByteArray) (ss : List Sd) : (nms n ss).length ≤ ss.length := by
  unfold nms
  rw [List.length_map]
  exact List.length_filter_le _ _
theorem unset_append (a b : List Cd) : unset (a ++ b) = unset a ++ unset b := by simp [unset]
theorem unset_one (c : Cd) : unset [c] = nms c.n c.ss := by simp [unset]
theorem unset_le {M : Nat} : ∀ (cs : List Cd), (∀ c ∈ cs, c.ss.length ≤ M) → (unset cs).length ≤ cs.length * M
  | [], _ => by simp [unset]
  | c :: cs, h => by
    have ih := unset_le cs fun x hx => h x (List.mem_cons_of_mem _ hx)
    have h1 := h c (List.mem_cons_self ..)
    have h2 := nms_le c.n c.ss
    have e : unset (c :: cs) = nms c.n c.ss ++ unset cs := by simp [unset]
    rw [e, List.length_append, List.length_cons, Nat.add_mul]
    omega

def InI64 (x : Int) : Prop := -9223372036854775808 ≤ x ∧ x ≤ 9223372036854775807
/-- What the listing asks of its clusters. -/
def UOk (cs : List Cd) : Prop := cs.length ≤ 1048577 ∧ ∀ c ∈ cs, c.n.size ≤ 1048576 ∧ c.ss.length ≤ 1048577 ∧ ∀ s ∈ c.ss, SdSmall s ∧ InI64 s.i

theorem below_grow (w : World) (k : Nat) (os : Array Obj) : Below w.heap.size w (Go.Sort.grow (w.drewN k) os) := by
  refine ⟨rfl, rfl, rfl, ?_, fun i hi => ?_⟩
  · show w.heap.size ≤ (w.heap ++ os).size
    simp
  · show (w.heap ++ os)[i]? = _
    rw [Array.getElem?_append_left hi]

theorem itoa_below (n : Int) (h : InI64 n) (w : World) (htab : Lib.TabIs Tryd.prog w tabName .u64 Lib.pow10Tab) :
    Calls Tryd.prog 21 #[.int .i64 n] w fun e w' => e = .returned (.string ⟨(Lib.itoa n).toArray⟩) ∧ Below w.heap.size w w' := by
  refine (Tryd.strconv_Itoa n h.1 h.2 w htab).mono ?_
  rintro e w' ⟨he, k, os, rfl⟩
  exact ⟨he, below_grow w k os⟩

theorem owns_later {w w' : World} {base e size n : Nat} {v : Value} {xs : List Value} (h : w.ownsRow base e size v n xs) (hb : Below w.heap.size w w') : w'.ownsRow base e size v n xs := by
  obtain ⟨h1, h2⟩ := h
  refine ⟨h1, ?_⟩
  rcases h2 with h2 | ⟨g, cap, cur, hv, hg, hh, r⟩
  · exact Or.inl h2
  · exact Or.inr ⟨g, cap, cur, hv, hg, (hb.block g (lt_of_block hh)).trans hh, r⟩
/-- A block of another kind is none that the row lies in. -/
theorem owns_ne {w : World} {base e size n b t : Nat} {v : Value} {xs : List Value} {cs : Array Value} (h : w.ownsRow base e size v n xs) (hb : w.heap[b]? = some (.cells cs t (0, 0))) (hne : e ≠ t) : v.ownBlock ≠ some b := by
  rcases h.2 with ⟨h2, _⟩ | ⟨g, cap, cur, hv, hg, hh, r⟩
  · subst h2; simp [Value.ownBlock]
  · subst hv
    intro e'
    simp [Value.ownBlock] at e'
    subst e'
    rw [hh] at hb
    simp at hb
    exact hne hb.2
/-- What the walk leaves as a list of strings. -/
theorem owns_strs {w : World} {base n : Nat} {v : Value} {xs : List ByteArray} (h : w.ownsRow base 9 1 v n (xs.map Value.string)) : ∃ ao c, v = .slice ao n c ∧ SlOk ao n c ∧ StrsAt w ao xs := by
  rcases h.2 with ⟨rfl, rfl⟩ | ⟨g, cap, cur, rfl, hg, hh, hnc, hm, hs, ht⟩
  · have : xs = [] := by have := h.1; simpa using this
    subst this
    exact ⟨none, 0, rfl, ⟨Nat.le_refl _, by simp, fun _ => ⟨rfl, rfl⟩⟩, fun k s hk => by simp at hk⟩
  · refine ⟨some ⟨g, 0, none⟩, cap, rfl, ⟨hnc, hm, fun h => by cases h⟩, fun k s hk => ⟨g, 0, rfl, ?_⟩⟩
    have := h.cells (g := g) rfl k (.string s) (by simp [hk])
    rw [Addr.add_lit] at this
    exact this

theorem info9 : (Tryd.prog.info? 9).map (fun i => (i.zero, i.size, i.bytes)) = some (some (.string ⟨#[]⟩), 1, 16) := by kernel_rfl
end Go.Proofs.Qxb6629213aDoor
