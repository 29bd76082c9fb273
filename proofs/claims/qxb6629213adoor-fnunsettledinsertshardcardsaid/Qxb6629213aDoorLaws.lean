import Derived.Test.Qxb6629213aDoorUns
import Derived.Test.Qxb6629213aDoorW3
namespace Go.Proofs.Qxb6629213aDoor
open Go.RowKit
set_option linter.unusedVariables false
set_option linter.unusedSimpArgs false

theorem split_at {α : Type} {l : List α} {k : Nat} {d : α} (h : l[k]? = some d) : l = l.take k ++ d :: l.drop (k + 1) := by
  have hk := (List.getElem?_eq_some_iff.1 h).1
  have he := (List.getElem?_eq_some_iff.1 h).2
  rw [← he, List.getElem_cons_drop, List.take_append_drop]
theorem set_split {α : Type} {l : List α} {k : Nat} {d : α} (x : α) (h : l[k]? = some d) : l.set k x = l.take k ++ x :: l.drop (k + 1) := by
  have hk := (List.getElem?_eq_some_iff.1 h).1
  rw [List.set_eq_take_append_cons_drop, if_pos hk]
theorem unset_cons (c : Cd) (cs : List Cd) : unset (c :: cs) = nms c.n c.ss ++ unset cs := by simp [unset]
theorem nms_cons (n : ByteArray) (s : Sd) (ss : List Sd) : nms n (s :: ss) = (if setd s then [] else [nameOf n s.i]) ++ nms n ss := by
  unfold nms
  by_cases h : setd s <;> simp [h]

/-- The names ahead of the place; behind it. -/
def preL (cs : List Cd) (ci si : Nat) (d : Cd) : List ByteArray := unset (cs.take ci) ++ nms d.n (d.ss.take si)
def postL (cs : List Cd) (ci si : Nat) (d : Cd) : List ByteArray := nms d.n (d.ss.drop si) ++ unset (cs.drop (ci + 1))

theorem unset_cut (cs : List Cd) (ci si : Nat) (d : Cd) : unset (cutAt cs ci si d) = preL cs ci si d := by
  unfold cutAt preL
  rw [unset_append, unset_one]
/-- The whole, at a place between two shards. -/
theorem unset_at {cs : List Cd} {ci : Nat} {d : Cd} (si : Nat) (h : cs[ci]? = some d) : unset cs = preL cs ci si d ++ postL cs ci si d := by
  conv => lhs; rw [split_at h, unset_append, unset_cons, ← List.take_append_drop si d.ss, nms_append]
  simp [preL, postL]
/-- The whole, at a shard. -/
theorem unset_on {cs : List Cd} {ci si : Nat} {d : Cd} {s : Sd} (h : cs[ci]? = some d) (hs : d.ss[si]? = some s) : unset cs = preL cs ci si d ++ ((if setd s then [] else [nameOf d.n s.i]) ++ postL cs ci (si + 1) d) := by
  rw [unset_at si h]
  unfold postL
  have : d.ss.drop si = s :: d.ss.drop (si + 1) := by
    have hk := (List.getElem?_eq_some_iff.1 hs).1
    have he := (List.getElem?_eq_some_iff.1 hs).2
    rw [← he, List.getElem_cons_drop]
  rw [this, nms_cons]
  simp
/-- One cluster's shards replaced. -/
theorem unset_set {cs : List Cd} {ci : Nat} {d : Cd} (ss : List Sd) (h : cs[ci]? = some d) : unset (cs.set ci ⟨d.n, ss⟩) = unset (cs.take ci) ++ (nms d.n ss ++ unset (cs.drop (ci + 1))) := by
  rw [set_split _ h, unset_append, unset_cons]

def fixed (s : Sd) : Sd := { s with ns := [⟨⟨#[]⟩, ⟨#[]⟩, ⟨#[109, 97, 115, 116, 101, 114]⟩, ⟨#[]⟩⟩], r := 0 }
theorem setd_fixed (s : Sd) : setd (fixed s) = true := by
  have e : ByteArray.toList ⟨#[109, 97, 115, 116, 101, 114]⟩ = [109, 97, 115, 116, 101, 114] := by rw [ByteArray.toList_eq]
  simp [setd, fixed, good, cM, cL, isM, isL, isR, e]
theorem unset_repair {cs : List Cd} {ci si : Nat} {d : Cd} {s : Sd} (h : cs[ci]? = some d) (hs : d.ss[si]? = some s) : unset (cs.set ci ⟨d.n, d.ss.set si (fixed s)⟩) = preL cs ci si d ++ postL cs ci (si + 1) d := by
  rw [unset_set _ h, set_split _ hs, nms_append, nms_cons, setd_fixed]
  simp [preL, postL]
theorem unset_insert {cs : List Cd} {ci pos : Nat} {d : Cd} (a : Sd) (h : cs[ci]? = some d) : unset (cs.set ci ⟨d.n, d.ss.take pos ++ a :: d.ss.drop pos⟩) = preL cs ci pos d ++ ((if setd a then [] else [nameOf d.n a.i]) ++ postL cs ci pos d) := by
  rw [unset_set _ h, nms_append, nms_cons]
  simp [preL, postL]

/-- One element of a row replaced: said of a later world. -/
theorem SdRow.set_at {w X : World} {g n si : Nat} {ss : List Sd} {s' : Sd} (hr : SdRow w g ss n) (hc : ∀ o v, (o < si * 6 ∨ si * 6 + 6 ≤ o) → w.cell? ⟨g, o, none⟩ = some v → X.cell? ⟨g, o, none⟩ = some v) (hk : Keeps (g + 1) w X) (hnew : SdAt X (g + 1) g (si * 6) s') : SdRow X g (ss.set si s') n := by
  intro j d hj hd
  rw [List.getElem?_set] at hd
  split at hd
  · rename_i e
    subst e
    split at hd
    · obtain rfl := Option.some.inj hd
      exact hnew
    · cases hd
  · exact (hr j d hj hd).move (fun i v hi h => hc _ v (by omega) h) hk
theorem CdRow.set_at {w X : World} {g n ci : Nat} {cs : List Cd} {c' : Cd} (hr : CdRow w g cs n) (hc : ∀ o v, (o < ci * 2 ∨ ci * 2 + 2 ≤ o) → w.cell? ⟨g, o, none⟩ = some v → X.cell? ⟨g, o, none⟩ = some v) (hk : Keeps (g + 1) w X) (hnew : CdAt X (g + 1) g (ci * 2) c') : CdRow X g (cs.set ci c') n := by
  intro j d hj hd
  rw [List.getElem?_set] at hd
  split at hd
  · rename_i e
    subst e
    split at hd
    · obtain rfl := Option.some.inj hd
      exact hnew
    · cases hd
  · exact (hr j d hj hd).move (fun i v hi h => hc _ v (by omega) h) hk
end Go.Proofs.Qxb6629213aDoor
