import Derived.Test.Qxb6629335aRows
import Derived.Test.Qxb6629335aNum
import Derived.WalkKit
import Derived.WalkSpells
import Derived.WalkLawsBesides
import Derived.Laws.BytesArg
import Derived.Deep.AppendLies
import Derived.KernelRfl
namespace Go.Proofs.Qxb6629335a
open Go.RowKit
set_option linter.unusedVariables false
set_option linter.unusedSimpArgs false

theorem hid {p : Prop} (h : p) : Hid p := h
theorem info5 : (Try.prog.info? 5).map (fun i => (i.zero, i.size, i.bytes)) = some (some (.int .u8 0), 1, 1) := by kernel_rfl
def SlOk (ao : Option Addr) (n c : Nat) : Prop := n ≤ c ∧ c ≤ maxLen ∧ (ao = none → n = 0 ∧ c = 0)
def vI (x : Nat) : Value := .int .u8 (x : Int)
/-- Bytes behind a slice. -/
def BsAt (w : World) (ao : Option Addr) (xs : List Nat) : Prop := ∀ (k x : Nat), xs[k]? = some x → ∃ b o, ao = some ⟨b, o, none⟩ ∧ w.cell? ⟨b, o + k, none⟩ = some (.int .u8 (x : Int))
theorem BsAt.keep {w w' : World} {ao : Option Addr} {xs : List Nat} (hb : Below w.heap.size w w') (h : BsAt w ao xs) : BsAt w' ao xs := fun k s hs => by
  obtain ⟨b, o, e, hc⟩ := h k s hs
  exact ⟨b, o, e, cell_later hb hc⟩
theorem get_lt {α : Type} {l : List α} {k : Nat} (h : k < l.length) : ∃ d, l[k]? = some d ∧ d ∈ l := ⟨l[k], List.getElem?_eq_getElem h, List.getElem_mem h⟩
theorem bt {a b c : World} (h : Below a.heap.size a b) (k : Below b.heap.size b c) : Below a.heap.size a c := h.trans (k.mono h.size)
theorem ba (w : World) (o : Obj) : Below w.heap.size w (w.alloc o) := (Below.refl _ _).alloc (Nat.le_refl _) o

/-- Leading zeros. -/
def lz : List Nat → Nat
  | [] => 0
  | x :: l => if x = 0 then lz l + 1 else 0
theorem lz_of : ∀ (xs : List Nat) (z : Nat), (∀ i, i < z → xs[i]? = some 0) → (∀ y, xs[z]? = some y → y ≠ 0) → lz xs = z
  | [], z, h, _ => by
    cases z with
    | zero => rfl
    | succ z => have := h 0 (by omega); simp at this
  | x :: l, z, h, hz => by
    cases z with
    | zero =>
      have := hz x rfl
      simp [lz, this]
    | succ z =>
      have h0 := h 0 (by omega)
      simp at h0
      subst h0
      have := lz_of l z (fun i hi => by have := h (i + 1) (by omega); simpa using this) (fun y hy => hz y (by simpa using hy))
      simp [lz, this]

/-- 'xs[k:]' of bytes. -/
theorem tail_slice (ao : Option Addr) (n c k r : Nat) (hok : SlOk ao n c) (hk : n = k + r) : ∃ ao2 c2, (∀ w : World, (Instr.slice 22 (.slice ao n c) (some (.int .i64 (k : Int))) none none).run Try.prog w = .ok (.slice ao2 r c2) w) ∧ SlOk ao2 r c2 ∧ ∀ (w : World) (L : List Nat), L.length = n → BsAt w ao L → BsAt w ao2 (L.drop k) := by
  obtain ⟨h1, h2, h3⟩ := hok
  refine ⟨if c = k then ao else ao.map (·.add (k * 1)), c - k, fun w => ?_, ⟨by omega, by omega, ?_⟩, ?_⟩
  · rw [run_slice_l (P := Try.prog) w 22 ao n c (by kernel_rfl) .i64 (k : Int) (by omega) (by omega)]
    have he : Try.prog.elem 22 = 5 := by kernel_rfl
    rw [he]
    simp only [go_sem, Try.sizeOf5, sliced, Int.toNat_natCast]
    show Result.ok (Value.slice _ (n - k) (c - k)) w = _
    rw [show n - k = r by omega]
  · intro h
    split at h
    · have := h3 h; omega
    · cases ao with
      | none => have := h3 rfl; omega
      | some a => simp at h
  · intro w L hL hs j x hx
    rw [List.getElem?_drop] at hx
    have hj := (List.getElem?_eq_some_iff.1 hx).1
    obtain ⟨b, o, e, hc⟩ := hs (k + j) x hx
    subst e
    refine ⟨b, o + k, ?_, by rw [Nat.add_assoc]; exact hc⟩
    rw [if_neg (by omega)]
    simp [Addr.add_lit]

/-- 'make([]byte, 0, n)'. -/
theorem make_own {P : Program} {ops : Array Oper} {rest : List Oper} {o : Oper} {a : Act} {w : World} {Q : Exit → Act → World → Prop}
    (hg : o.guard = none) (l c : Operand) (t : TypeId) (hop : o.op = Op.makeSlice t l c) (e : TypeId) (z : Value) (size bytes : Nat) (h1 : P.underlying t = some (.slice e))
    (h2 : (P.info? e).map (fun i => (i.zero, i.size, i.bytes)) = some (some z, size, bytes)) (kl kc : IntKind) (C : Int) (n : Nat) (hl : a.eval l = .int kl 0) (hc : a.eval c = .int kc C) (hC : C = (n : Int))
    (b2 : bytes * n ≤ 281474976710656) (b3 : n ≤ maxLen)
    (hK : ∀ (w' : World), w'.ownsRow w.heap.size e size (.slice (some ⟨w.heap.size, 0, none⟩) 0 n) 0 [] → Below w.heap.size w w' → wpList P ops Q rest (a.put o.dst (.slice (some ⟨w.heap.size, 0, none⟩) 0 n)) w') :
    wpList P ops Q (o :: rest) a w := by
  obtain ⟨i0, hi, hz0, hz1, hz2⟩ := info_parts h2
  refine wpList_make_own w hg l c t hop w.heap.size e i0 z size h1 hi hz0 hz1 kl kc C n hl hc hC (by rw [hz2]; exact b2) b3 (Nat.le_refl _) ?_
  intro w1 hown hgrow
  exact hK w1 hown ((Below.refl _ _).grown hgrow (Nat.le_refl _) (fun k h => by cases h))

/-- The 58 digits' characters. -/
def alphaL : List Nat := [49, 50, 51, 52, 53, 54, 55, 56, 57, 65, 66, 67, 68, 69, 70, 71, 72, 74, 75, 76, 77, 78, 80, 81, 82, 83, 84, 85, 86, 87, 88, 89, 90, 97, 98, 99, 100, 101, 102, 103, 104, 105, 106, 107, 109, 110, 111, 112, 113, 114, 115, 116, 117, 118, 119, 120, 121, 122]
def alpha (d : Nat) : Nat := alphaL.getD d 0
theorem alpha_at (d : Nat) (h : d < 58) : ((⟨#[49, 50, 51, 52, 53, 54, 55, 56, 57, 65, 66, 67, 68, 69, 70, 71, 72, 74, 75, 76, 77, 78, 80, 81, 82, 83, 84, 85, 86, 87, 88, 89, 90, 97, 98, 99, 100, 101, 102, 103, 104, 105, 106, 107, 109, 110, 111, 112, 113, 114, 115, 116, 117, 118, 119, 120, 121, 122]⟩ : ByteArray)[d]'h).toNat = alpha d := by
  have key : ∀ d : Fin 58, ((⟨#[49, 50, 51, 52, 53, 54, 55, 56, 57, 65, 66, 67, 68, 69, 70, 71, 72, 74, 75, 76, 77, 78, 80, 81, 82, 83, 84, 85, 86, 87, 88, 89, 90, 97, 98, 99, 100, 101, 102, 103, 104, 105, 106, 107, 109, 110, 111, 112, 113, 114, 115, 116, 117, 118, 119, 120, 121, 122]⟩ : ByteArray)[d.val]'d.isLt).toNat = alpha d.val := by decide +kernel
  exact key ⟨d, h⟩
/-- The text's characters. -/
def encL (xs : List Nat) : List Nat := List.replicate (lz xs) 49 ++ (D 58 (val 256 (xs.drop (lz xs)))).reverse.map alpha
def encS (xs : List Nat) : ByteArray := strOfNums ((encL xs).map fun (n : Nat) => (n : Int))

theorem encL_zero {xs : List Nat} {k : Nat} (h : k < lz xs) : (encL xs).getD k 0 = 49 := by
  unfold encL
  rw [List.getD_eq_getElem?_getD, List.getElem?_append_left (by simpa using h)]
  simp [h]
theorem encL_digit {xs : List Nat} {k d : Nat} (h : (D 58 (val 256 (xs.drop (lz xs))))[k]? = some d) : (encL xs).getD (lz xs + (D 58 (val 256 (xs.drop (lz xs)))).length - 1 - k) 0 = alpha d := by
  have hk := (List.getElem?_eq_some_iff.1 h).1
  unfold encL
  rw [List.getD_eq_getElem?_getD, List.getElem?_append_right (by simp; omega)]
  simp only [List.length_replicate]
  rw [List.getElem?_map, show lz xs + (D 58 (val 256 (xs.drop (lz xs)))).length - 1 - k - lz xs = (D 58 (val 256 (xs.drop (lz xs)))).length - 1 - k by omega, List.getElem?_reverse (by omega), show (D 58 (val 256 (xs.drop (lz xs)))).length - 1 - ((D 58 (val 256 (xs.drop (lz xs)))).length - 1 - k) = k by omega, h]
  rfl
theorem encL_length (xs : List Nat) : (encL xs).length = lz xs + (D 58 (val 256 (xs.drop (lz xs)))).length := by simp [encL]
theorem row_of_owns {w : World} {base e size g n : Nat} {xs : List Value} (h : w.ownsRow base e size (.slice (some ⟨g, 0, none⟩) n n) n xs) :
    ∃ cur : Array Value, w.heap[g]? = some (.cells cur e (0, 0)) ∧ cur.size = n * size ∧ n ≤ maxLen := by
  rcases h.2 with ⟨h1, _⟩ | ⟨g', cap, cur, hv, _, hg, _, hm, hs, _⟩
  · cases h1
  · injection hv with h1 h2 h3
    injection h1 with h1
    injection h1 with h1
    subst h1 h3
    exact ⟨cur, hg, hs, hm⟩
/-- 'make([]byte, n)'. -/
theorem make_row {P : Program} {ops : Array Oper} {rest : List Oper} {o : Oper} {a : Act} {w : World} {Q : Exit → Act → World → Prop}
    (hg : o.guard = none) (l c : Operand) (t : TypeId) (hop : o.op = Op.makeSlice t l c) (e : TypeId) (z : Value) (size bytes : Nat) (h1 : P.underlying t = some (.slice e))
    (h2 : (P.info? e).map (fun i => (i.zero, i.size, i.bytes)) = some (some z, size, bytes)) (kl kc : IntKind) (L C : Int) (n : Nat) (hl : a.eval l = .int kl L) (hc : a.eval c = .int kc C) (hL : L = (n : Int)) (hC : C = (n : Int))
    (b2 : bytes * n ≤ 281474976710656) (b3 : n ≤ maxLen)
    (hK : ∀ (w' : World) (cur : Array Value), w'.heap[w.heap.size]? = some (.cells cur e (0, 0)) → cur.size = n * size → Below w.heap.size w w' → wpList P ops Q rest (a.put o.dst (.slice (some ⟨w.heap.size, 0, none⟩) n n)) w') :
    wpList P ops Q (o :: rest) a w := by
  obtain ⟨i0, hi, hz0, hz1, hz2⟩ := info_parts h2
  refine wpList_make_full w hg l c t hop w.heap.size e i0 z size h1 hi hz0 hz1 kl kc L C n hl hc hL hC (by rw [hz2]; exact b2) b3 (Nat.le_refl _) ?_
  intro w1 hown hgrow
  obtain ⟨cur, hcur, hcs, _⟩ := row_of_owns hown
  exact hK w1 cur hcur hcs ((Below.refl _ _).grown hgrow (Nat.le_refl _) (fun k h => by cases h))

/-- A row of bytes, as far as P says. -/
def OutAt (w wr : World) (n : Nat) (f : Nat → Nat) (p : Nat → Prop) : Prop :=
  (∃ cur : Array Value, wr.heap[w.heap.size]? = some (.cells cur 5 (0, 0)) ∧ cur.size = n ∧ ∀ j, j < n → p j → cur[j]? = some (.int .u8 (f j : Int))) ∧ Below w.heap.size w wr
theorem OutAt.put {w wr : World} {n j : Nat} {f : Nat → Nat} {p q : Nat → Prop} {x : Int} (h : OutAt w wr n f p) (hx : x = (f j : Int)) (hq : ∀ i, q i → p i ∨ i = j) : OutAt w (wr.setCell ⟨w.heap.size, j, none⟩ (.int .u8 x)) n f q := by
  obtain ⟨⟨cur, h1, h2, h3⟩, hb⟩ := h
  refine ⟨⟨cur.setIfInBounds j (.int .u8 x), heap_setCell_same wr _ j cur 5 _ h1, by simp [h2], fun i hi hqi => ?_⟩, hb.setCell (p := ⟨w.heap.size, j, none⟩) (Nat.le_refl _) _⟩
  rw [Array.getElem?_setIfInBounds]
  by_cases e : j = i
  · subst e; simp [h2, hi, hx]
  · rw [if_neg e]
    rcases hq i hqi with h | h
    · exact h3 i hi h
    · exact absurd h.symm e
theorem OutAt.there {w wr : World} {n j : Nat} {f : Nat → Nat} {p : Nat → Prop} (h : OutAt w wr n f p) (hj : j < n) : ∃ v, wr.cell? ⟨w.heap.size, j, none⟩ = some v := by
  obtain ⟨⟨cur, h1, h2, h3⟩, hb⟩ := h
  exact ⟨cur[j], by rw [cell_of_row _ _ _ _ _ _ h1]; exact Array.getElem?_eq_getElem (by omega)⟩
theorem OutAt.frozen {w wr : World} {n : Nat} {f : Nat → Nat} {p : Nat → Prop} (h : OutAt w wr n f p) : ∀ o, wr.frozen? ⟨w.heap.size, o, none⟩ = false := by
  obtain ⟨⟨cur, h1, h2, h3⟩, hb⟩ := h
  exact fun o => frozen_of_row wr _ o _ _ h1

theorem OutAt.conv {w wr : World} {n : Nat} {p : Nat → Prop} {xs : List Nat} {f : Nat → Nat} (hf : f = fun j => (encL xs).getD j 0) (h : OutAt w wr n f p) (hp : ∀ j, j < n → p j) (hn : (encL xs).length = n) :
    (convert 22 9 (.slice (some ⟨w.heap.size, 0, none⟩) n n)).run Try.prog wr = .ok (.string (encS xs)) wr := by
  obtain ⟨⟨cur, h1, h2, h3⟩, hb⟩ := h
  refine run_convert_bytes_arg wr 22 5 Try.underlying22 Try.underlying5 w.heap.size 0 n n _ (by simpa using hn) ?_ 9 Try.underlying9
  intro i hi
  rw [cell_of_row _ _ _ _ _ _ h1, Nat.zero_add, h3 i hi (hp i hi), hf]
  simp only [List.getD_eq_getElem?_getD, List.getElem?_map, List.getElem?_eq_getElem (show i < (encL xs).length by omega), Option.map_some, Option.getD_some]

/-- 'append(ds, y)', ds a row of the call's own. -/
theorem app1 {ops : Array Oper} {rest : List Oper} {o : Oper} {a : Act} {w : World} {Q : Exit → Act → World → Prop} (hgd : o.guard = none) (s x : Operand)
    (ho : o.op = .call { callee := .builtin .append, args := #[s, x], argTypes := #[22, 22] }) (base g cap n : Nat) (xs : List Value) (y : Value) (hy : y.oneCell' = true)
    (hs : a.eval s = .slice (some ⟨g, 0, none⟩) n cap) (hown : w.ownsRow base 5 1 (.slice (some ⟨g, 0, none⟩) n cap) n xs)
    (hx : a.eval x = .slice (some ⟨w.heap.size, 0, none⟩) 1 1) (hlen : n ≤ 1000000) (hbase : base ≤ w.heap.size)
    (h : ∀ g2 cap2 w', w'.ownsRow base 5 1 (.slice (some ⟨g2, 0, none⟩) (n + 1) cap2) (n + 1) (xs ++ [y]) → Below base w w' → (∀ k, k < w.heap.size → k ≠ g → w'.heap[k]? = w.heap[k]?) → (g2 = g ∨ g2 = w.heap.size + 1) → wpList Try.prog ops Q rest (a.put o.dst (.slice (some ⟨g2, 0, none⟩) (n + 1) cap2)) w') :
    wpList Try.prog ops Q (o :: rest) a (w.alloc (.cells #[y] 5)) := by
  obtain ⟨i0, hi, hz0, hz1, hz2⟩ := info_parts info5
  have hbg : base ≤ g := (hown.lt g rfl).1
  refine wpList_append_lies _ hgd s x 22 ho base 5 i0 _ 1 1 Try.underlying22 hi hz0 hz1 hz2 rfl (by omega) _ n xs hs (hown.alloc _) ⟨w.heap.size, 0, none⟩ 1 1 [y] hx rfl (World.news_of_block (cs := #[y]) (t := 5) (fr := (0, 0)) (heap_alloc_new w _)) (by simpa using hy) (by omega) (by unfold maxLen; omega) (by omega) (by simp; omega) (w.heap.size + 1) (by simp) ?_
  intro g2 cap2 w' hown2 hgrow hat hlt
  refine h g2 cap2 w' hown2 (((Below.refl _ _).alloc hbase _).grown hgrow (by simp; omega) (fun k hk => ?_)) (fun k hk hne => ?_) ?_
  · simp [Value.ownBlock] at hk
    omega
  · rw [hgrow.block k (by simp; omega) (by simp [Value.ownBlock]; exact fun e => hne e), Below.heap_alloc _ _ _ hk]
  · rcases hat with h | h
    · simp [Value.ownBlock] at h
      exact Or.inl h.symm
    · exact Or.inr h
theorem ownsG {w : World} {base e size g n cap : Nat} {xs : List Value} (h : w.ownsRow base e size (.slice (some ⟨g, 0, none⟩) n cap) n xs) : base ≤ g ∧ g < w.heap.size := h.lt g rfl

set_option maxHeartbeats 2000000 in
theorem encode_any (xs : List Nat) (ao : Option Addr) (c : Nat) (w : World) (hok : SlOk ao xs.length c) (hb : BsAt w ao xs) (hlt : ∀ x ∈ xs, x < 256) (hlen : xs.length ≤ 4097) :
    Calls Try.prog 6 #[.slice ao xs.length c] w fun e w' => e = .returned (.string (encS xs)) ∧ Below w.heap.size w w' := by
  have HOK := hid hok
  obtain ⟨ho1, ho2, ho3⟩ := hok
  unfold maxLen at ho2
  go_enter Try.func6, Try.ntmps6
  go_wp2_with fail
  go_loop [3] (fun i => ∃ z : Nat, z ≤ xs.length ∧ i = .int .i64 z ∧ ∀ i, i < z → xs[i]? = some 0) (fun i => xs.length - (intOf i).toNat)
  case atStart => exact ⟨0, Nat.zero_le _, rfl, fun i hi => absurd hi (Nat.not_lt_zero _)⟩
  case round =>
    obtain ⟨z, hz, rfl, hall⟩ := hrel
    have HAL := hid hall
    clear hall
    have key : (∃ x, xs[z]? = some x ∧ x = 0) ∨ (∀ y, xs[z]? = some y → y ≠ 0) := by
      cases h : xs[z]? with
      | none => exact Or.inr fun y hy => by cases hy
      | some x =>
        by_cases h0 : x = 0
        · exact Or.inl ⟨x, rfl, h0⟩
        · exact Or.inr fun y hy => by cases hy; exact h0
    rcases key with ⟨x, hx, rfl⟩ | hno
    · have hzl : z < xs.length := (List.getElem?_eq_some_iff.1 hx).1
      obtain ⟨b, o, he, hc⟩ := hb z 0 hx
      cases he
      have HX := hid hx
      clear hx
      go_wp2_with fail
      go_round
      case rel => exact ⟨z + 1, by omega, by go_num, fun i hi => by
        rcases Nat.lt_succ_iff_lt_or_eq.1 hi with h | rfl
        · exact HAL.out i h
        · exact HX.out⟩
      case measure => simp [intOf]; omega
    · have HZ := hid (lz_of xs z HAL.out hno)
      have hcase : (z < xs.length ∧ ∃ b o x, ao = some ⟨b, o, none⟩ ∧ w.cell? ⟨b, o + z, none⟩ = some (.int .u8 (x : Int)) ∧ ((x : Int) == 0) = false) ∨ ¬ z < xs.length := by
        by_cases h : z < xs.length
        · obtain ⟨x, hx, _⟩ := get_lt h
          obtain ⟨b, o, he, hc⟩ := hb z x hx
          exact Or.inl ⟨h, b, o, x, he, hc, by rw [beq_eq_false_iff_ne]; have := hno x hx; omega⟩
        · exact Or.inr h
      obtain ⟨ao2, c2, hsl, hok2, hb2⟩ := tail_slice ao xs.length c z (xs.length - z) HOK.out (by omega)
      have HB2 := hid (hb2 w xs rfl hb)
      have HO2 := hid hok2
      clear hb2 hno hok2
      rcases hcase with ⟨hzl, b, o, x, rfl, hc, hx0⟩ | hzl
      · go_wp2_with (at_make; refine make_own rfl _ _ 22 rfl 5 _ 1 1 Try.underlying22 info5 _ _ _ ((xs.length - z) * 137 / 100 + 1) rfl rfl ?b0P ?b1P ?b2P ?_)
        case b0P => omega
        case b1P => omega
        case b2P => unfold maxLen; omega
        intro w1 hown hbel
        obtain ⟨i0, hi0, hz0, hz1, hz2⟩ := info_parts info5
        go_wp2_with fail
        go_loopw [38, 4] (fun i v wr => ∃ (k g cap : Nat) (ds : List Nat), k ≤ xs.length - z ∧ i = .int .i64 k ∧ v = .slice (some ⟨g, 0, none⟩) ds.length cap ∧ wr.ownsRow w.heap.size 5 1 (.slice (some ⟨g, 0, none⟩) ds.length cap) ds.length (ds.map vI) ∧ ds = D 58 (val 256 ((xs.drop z).take k)) ∧ Below w.heap.size w wr)
          (fun i _ _ => (xs.length - z) - (intOf i).toNat)
        case atStart => exact ⟨0, w.heap.size, _, [], Nat.zero_le _, rfl, rfl, hown, rfl, hbel⟩
        case round =>
          obtain ⟨k, g, cap, ds, hk, rfl, rfl, hown, hds, hbl⟩ := hrel
          have HDS := hid hds
          have HDL := hid (show ∀ d ∈ ds, d < 58 by rw [hds]; exact D_lt (by omega) _)
          clear hds
          by_cases hkl : k < xs.length - z
          · obtain ⟨y, hy, hym⟩ := get_lt (show k < (xs.drop z).length by simp; omega)
            have hy256 : y < 256 := hlt y (List.mem_of_mem_drop hym)
            obtain ⟨b2, o2, he2, hc2⟩ := HB2.out k y hy
            cases he2
            have g2 := cell_later hbl hc2
            have HT := hid (show mul 58 256 ds y = D 58 (val 256 ((xs.drop z).take (k + 1))) by
              rw [HDS.out, mul_D (by omega) (by omega), List.take_add_one, hy, Option.toList_some, val_snoc])
            have hdl : ds.length ≤ 8194 := by
              have h1 : val 256 ((xs.drop z).take k) < 256 ^ ((xs.drop z).take k).length := val_lt (by omega) _ fun d hd => hlt d (List.mem_of_mem_drop (List.mem_of_mem_take hd))
              have h2 := D_length h1
              rw [← HDS.out, List.length_take, List.length_drop] at h2
              omega
            have HTL := hid (show (mul 58 256 ds y).length ≤ 8194 by
              rw [HT.out]
              have h1 : val 256 ((xs.drop z).take (k + 1)) < 256 ^ ((xs.drop z).take (k + 1)).length := val_lt (by omega) _ fun d hd => hlt d (List.mem_of_mem_drop (List.mem_of_mem_take hd))
              have h2 := D_length h1
              rw [List.length_take, List.length_drop] at h2
              omega)
            clear hy
            go_wp2_with fail
            go_loopw [46, 7] (fun i t wr => ∃ (j c : Nat) (new : List Nat), j ≤ ds.length ∧ new.length = j ∧ i = .int .i64 j ∧ t = .int .i64 c ∧ c < 256 ∧ wr.ownsRow w.heap.size 5 1 (.slice (some ⟨g, 0, none⟩) ds.length cap) ds.length ((new ++ ds.drop j).map vI) ∧ new ++ mul 58 256 (ds.drop j) c = mul 58 256 ds y ∧ Below w.heap.size w wr)
              (fun i _ _ => ds.length - (intOf i).toNat)
            case atStart => exact ⟨0, y, [], Nat.zero_le _, rfl, rfl, rfl, hy256, by simpa using hown, by simp, hbl⟩
            case round =>
              obtain ⟨j, c', new, hj, hnl, rfl, rfl, hc256, hown2, heq, hbl2⟩ := hrel
              have HEQ := hid heq
              have HNL := hid hnl
              clear heq hnl
              by_cases hjl : j < ds.length
              · obtain ⟨dd, hdd, hdm⟩ := get_lt hjl
                have hd58 : dd < 58 := HDL.out dd hdm
                have hdrop : ds.drop j = dd :: ds.drop (j + 1) := by
                  have he := (List.getElem?_eq_some_iff.1 hdd).2
                  rw [← he, List.getElem_cons_drop]
                have hcell : wr.cell? ⟨g, j, none⟩ = some (.int .u8 (dd : Int)) := by
                  rw [hown2.cellAt j (by omega), hdrop]
                  rw [List.getElem?_map, List.getElem?_append_right (by have := HNL.out; omega), show j - new.length = 0 by have := HNL.out; omega]
                  rfl
                have hfr := fun o => hown2.frozenAt o
                have HST := hid (hown2.stored j (vI ((c' + dd * 256) % 58)))
                have HDR := hid hdrop
                clear hdrop hdd
                go_wp2_with fail
                go_wp2_with fail
                go_roundw
                case rel =>
                  refine ⟨j + 1, (c' + dd * 256) / 58, new ++ [(c' + dd * 256) % 58], by omega, by simp [HNL.out], by go_num, by go_num, by omega, ?_, ?_, hbl2.setCell (p := ⟨g, j, none⟩) (ownsG hown2).1 _⟩
                  · have h1 := HST.out.1
                    have e1 : ((new ++ ds.drop j).map vI).set j (vI ((c' + dd * 256) % 58)) = ((new ++ [(c' + dd * 256) % 58]) ++ ds.drop (j + 1)).map vI := by
                      rw [HDR.out, ← HNL.out, List.map_append, List.map_append, List.map_append, List.set_append_right _ _ (by simp)]
                      simp
                    rw [e1] at h1
                    have e2 : (Value.int .u8 (((c' : Int) + (dd : Int) * 256) % 58)) = vI ((c' + dd * 256) % 58) := by simp [vI]
                    rw [e2]
                    exact h1
                  · rw [← HEQ.out, HDR.out, mul]
                    simp
                case measure => simp [intOf]; omega
              · have HJ := hid (show ds.drop j = [] from List.drop_eq_nil_of_le (by omega))
                have HE0 := hid (show new ++ D 58 c' = mul 58 256 ds y by have := HEQ.out; rw [HJ.out, mul] at this; exact this)
                have hown3 := hown2
                rw [HJ.out, List.append_nil] at hown3
                have hnl2 : ds.length = new.length := by have := HNL.out; omega
                have HN2 := hid hnl2
                clear hown2 hnl2
                go_wp2_with fail
                go_loopw [7, 4] (fun t v wr => ∃ (c g cap : Nat) (ds' : List Nat), t = .int .i64 c ∧ v = .slice (some ⟨g, 0, none⟩) ds'.length cap ∧ c < 256 ∧ wr.ownsRow w.heap.size 5 1 (.slice (some ⟨g, 0, none⟩) ds'.length cap) ds'.length (ds'.map vI) ∧ ds' ++ D 58 c = mul 58 256 ds y ∧ Below w.heap.size w wr)
                  (fun t _ _ => (intOf t).toNat)
                case atStart => exact ⟨c', g, cap, new, rfl, by rw [HN2.out], hc256, by rw [← HN2.out]; exact hown3, HE0.out, hbl2⟩
                case round =>
                  obtain ⟨c3, g3, cap3, ds3, rfl, rfl, hc3, hown4, heq3, hbl3⟩ := hrel
                  have hl3 : ds3.length ≤ 8194 := by have := congrArg List.length heq3; rw [List.length_append] at this; have := HTL.out; omega
                  have HE3 := hid heq3
                  clear heq3
                  by_cases hpos : 0 < c3
                  · go_wp2_with (at_builtin; refine app1 rfl _ _ rfl w.heap.size g3 cap3 ds3.length (ds3.map vI) _ rfl rfl hown4 rfl (by omega) hbl3.size ?_; intro g5 cap5 w5 hown5 hbel5 hkeep5 hat5)
                    have HR5 := hid (And.intro hown5 hbel5)
                    clear hown5 hbel5 hkeep5
                    go_wp2_with fail
                    go_roundw
                    case rel =>
                      refine ⟨c3 / 58, g5, cap5, ds3 ++ [c3 % 58], by go_num, by simp, by omega, ?_, ?_, hbl3.trans HR5.out.2⟩
                      · have h1 := HR5.out.1
                        simp only [List.length_append, List.length_cons, List.length_nil, List.map_append, List.map_cons, List.map_nil]
                        have e2 : (Value.int .u8 ((c3 : Int) % 58)) = vI (c3 % 58) := by simp [vI]
                        rw [← e2]
                        exact h1
                      · rw [← HE3.out, D_pos (by omega) hpos]
                        simp
                    case measure => simp [intOf]; omega
                  · have h0 : c3 = 0 := by omega
                    have HF := hid (show ds3 = D 58 (val 256 ((xs.drop z).take (k + 1))) by have := HE3.out; rw [h0, D_zero, List.append_nil] at this; rw [this, HT.out])
                    clear h0
                    go_wp2_with fail
                    go_roundw
                    case rel => exact ⟨k + 1, g3, cap3, ds3, by omega, by go_num, rfl, hown4, HF.out, hbl3⟩
                    case measure => simp [intOf]; omega
          · have HK := hid (show (xs.drop z).take k = xs.drop z from List.take_of_length_le (by simp; omega))
            have HD2 := hid (show ds = D 58 (val 256 (xs.drop z)) by rw [HDS.out, HK.out])
            have hdl : ds.length ≤ 8194 := by
              have h1 : val 256 (xs.drop z) < 256 ^ (xs.drop z).length := val_lt (by omega) _ fun d hd => hlt d (List.mem_of_mem_drop hd)
              have h2 := D_length h1
              rw [← HD2.out, List.length_drop] at h2
              omega
            obtain ⟨tg, HTG⟩ : ∃ f : Nat → Nat, Hid (f = fun j => (encL xs).getD j 0) := ⟨_, rfl⟩
            have HT0 := hid (show ∀ k, k < z → tg k = 49 from fun k hk => by rw [HTG.out]; exact encL_zero (by rw [HZ.out]; exact hk))
            have HT1 := hid (show ∀ k d, ds[k]? = some d → tg (z + ds.length - 1 - k) = alpha d from fun k d hd => by
              have h1 := encL_digit (xs := xs) (k := k) (d := d) (by rw [HZ.out, ← HD2.out]; exact hd)
              rw [HZ.out, ← HD2.out] at h1
              rw [HTG.out]
              exact h1)
            obtain ⟨w5, rfl⟩ : ∃ x, x = wr := ⟨wr, rfl⟩
            go_wp2_with (at_make; refine make_row rfl _ _ 22 rfl 5 _ 1 1 Try.underlying22 info5 _ _ _ _ (z + ds.length) rfl rfl ?d0P ?d1P ?d2P ?d3P ?_)
            case d0P => omega
            case d1P => omega
            case d2P => omega
            case d3P => unfold maxLen; omega
            intro w6 cur6 hcur6 hcs6 hb6
            have HO6 : Hid (OutAt w5 w6 (z + ds.length) tg (fun j => j < 0)) := ⟨⟨cur6, hcur6, by omega, fun j _ h => absurd h (Nat.not_lt_zero _)⟩, hb6⟩
            clear hcur6 hcs6 hb6
            go_wp2_with fail
            go_loopw [10] (fun i wr => ∃ k : Nat, k ≤ z ∧ i = .int .i64 k ∧ OutAt w5 wr (z + ds.length) tg (fun j => j < k)) (fun i _ => z - (intOf i).toNat)
            case atStart => exact ⟨0, Nat.zero_le _, rfl, HO6.out⟩
            case round =>
              obtain ⟨k5, hk5, rfl, ho5⟩ := hrel
              have HO5 := hid ho5
              have hfr5 := ho5.frozen
              by_cases hkz : k5 < z
              · obtain ⟨v5, hv5⟩ := ho5.there (j := k5) (by omega)
                clear ho5
                go_wp2_with fail
                go_roundw
                case rel => exact ⟨k5 + 1, by omega, by go_num, HO5.out.put (by rw [HT0.out k5 hkz]; rfl) (fun i hi => by omega)⟩
                case measure => simp [intOf]; omega
              · clear ho5
                have HO7 : Hid (OutAt w5 wr (z + ds.length) tg (fun j => j < z ∨ z + ds.length - 0 ≤ j)) := by
                  obtain ⟨⟨cur, a1, a2, a3⟩, a4⟩ := HO5.out
                  exact ⟨⟨cur, a1, a2, fun j hj hp => a3 j hj (by omega)⟩, a4⟩
                clear hfr5
                go_wp2_with fail
                go_loopw [93] (fun i wr => ∃ k : Nat, k ≤ ds.length ∧ i = .int .i64 k ∧ OutAt w5 wr (z + ds.length) tg (fun j => j < z ∨ z + ds.length - k ≤ j)) (fun i _ => ds.length - (intOf i).toNat)
                case atStart => exact ⟨0, Nat.zero_le _, rfl, HO7.out⟩
                case round =>
                  obtain ⟨k6, hk6, rfl, ho6⟩ := hrel
                  have HO8 := hid ho6
                  have hfr6 := ho6.frozen
                  by_cases hkd : k6 < ds.length
                  · obtain ⟨dd, hdd, hdm⟩ := get_lt hkd
                    have hd58 : dd < 58 := HDL.out dd hdm
                    have hcell : wr.cell? ⟨g, k6, none⟩ = some (.int .u8 (dd : Int)) := by
                      rw [ho6.2.cell (p := ⟨g, k6, none⟩) (ownsG hown).2, hown.cellAt k6 (by omega), List.getElem?_map, hdd]
                      rfl
                    obtain ⟨v6, hv6⟩ := ho6.there (j := z + ds.length - 1 - k6) (by omega)
                    have HP6 := hid (HT1.out k6 dd hdd)
                    clear ho6 hdd
                    go_wp2_with fail
                    go_roundw
                    case rel => exact ⟨k6 + 1, by omega, by go_num, HO8.out.put (by rw [HP6.out]; exact congrArg (fun n : Nat => (n : Int)) (alpha_at dd hd58)) (fun i hi => by omega)⟩
                    case measure => simp [intOf]; omega
                  · clear ho6
                    have hcv := HO8.out.conv HTG.out (fun j hj => by omega) (by rw [encL_length, HZ.out, ← HD2.out])
                    go_wp2_with fail
                    go_ret
                    exact ⟨rfl, bt hbl HO8.out.2⟩
      · go_wp2_with (at_make; refine make_own rfl _ _ 22 rfl 5 _ 1 1 Try.underlying22 info5 _ _ _ ((xs.length - z) * 137 / 100 + 1) rfl rfl ?b0N ?b1N ?b2N ?_)
        case b0N => omega
        case b1N => omega
        case b2N => unfold maxLen; omega
        intro w1 hown hbel
        obtain ⟨i0, hi0, hz0, hz1, hz2⟩ := info_parts info5
        go_wp2_with fail
        go_loopw [38, 4] (fun i v wr => ∃ (k g cap : Nat) (ds : List Nat), k ≤ xs.length - z ∧ i = .int .i64 k ∧ v = .slice (some ⟨g, 0, none⟩) ds.length cap ∧ wr.ownsRow w.heap.size 5 1 (.slice (some ⟨g, 0, none⟩) ds.length cap) ds.length (ds.map vI) ∧ ds = D 58 (val 256 ((xs.drop z).take k)) ∧ Below w.heap.size w wr)
          (fun i _ _ => (xs.length - z) - (intOf i).toNat)
        case atStart => exact ⟨0, w.heap.size, _, [], Nat.zero_le _, rfl, rfl, hown, rfl, hbel⟩
        case round =>
          obtain ⟨k, g, cap, ds, hk, rfl, rfl, hown, hds, hbl⟩ := hrel
          have HDS := hid hds
          have HDL := hid (show ∀ d ∈ ds, d < 58 by rw [hds]; exact D_lt (by omega) _)
          clear hds
          by_cases hkl : k < xs.length - z
          · exact absurd hkl (by omega)
          · have HK := hid (show (xs.drop z).take k = xs.drop z from List.take_of_length_le (by simp; omega))
            have HD2 := hid (show ds = D 58 (val 256 (xs.drop z)) by rw [HDS.out, HK.out])
            have hdl : ds.length ≤ 8194 := by
              have h1 : val 256 (xs.drop z) < 256 ^ (xs.drop z).length := val_lt (by omega) _ fun d hd => hlt d (List.mem_of_mem_drop hd)
              have h2 := D_length h1
              rw [← HD2.out, List.length_drop] at h2
              omega
            obtain ⟨tg, HTG⟩ : ∃ f : Nat → Nat, Hid (f = fun j => (encL xs).getD j 0) := ⟨_, rfl⟩
            have HT0 := hid (show ∀ k, k < z → tg k = 49 from fun k hk => by rw [HTG.out]; exact encL_zero (by rw [HZ.out]; exact hk))
            have HT1 := hid (show ∀ k d, ds[k]? = some d → tg (z + ds.length - 1 - k) = alpha d from fun k d hd => by
              have h1 := encL_digit (xs := xs) (k := k) (d := d) (by rw [HZ.out, ← HD2.out]; exact hd)
              rw [HZ.out, ← HD2.out] at h1
              rw [HTG.out]
              exact h1)
            obtain ⟨w5, rfl⟩ : ∃ x, x = wr := ⟨wr, rfl⟩
            go_wp2_with (at_make; refine make_row rfl _ _ 22 rfl 5 _ 1 1 Try.underlying22 info5 _ _ _ _ (z + ds.length) rfl rfl ?d0N ?d1N ?d2N ?d3N ?_)
            case d0N => omega
            case d1N => omega
            case d2N => omega
            case d3N => unfold maxLen; omega
            intro w6 cur6 hcur6 hcs6 hb6
            have HO6 : Hid (OutAt w5 w6 (z + ds.length) tg (fun j => j < 0)) := ⟨⟨cur6, hcur6, by omega, fun j _ h => absurd h (Nat.not_lt_zero _)⟩, hb6⟩
            clear hcur6 hcs6 hb6
            go_wp2_with fail
            go_loopw [10] (fun i wr => ∃ k : Nat, k ≤ z ∧ i = .int .i64 k ∧ OutAt w5 wr (z + ds.length) tg (fun j => j < k)) (fun i _ => z - (intOf i).toNat)
            case atStart => exact ⟨0, Nat.zero_le _, rfl, HO6.out⟩
            case round =>
              obtain ⟨k5, hk5, rfl, ho5⟩ := hrel
              have HO5 := hid ho5
              have hfr5 := ho5.frozen
              by_cases hkz : k5 < z
              · obtain ⟨v5, hv5⟩ := ho5.there (j := k5) (by omega)
                clear ho5
                go_wp2_with fail
                go_roundw
                case rel => exact ⟨k5 + 1, by omega, by go_num, HO5.out.put (by rw [HT0.out k5 hkz]; rfl) (fun i hi => by omega)⟩
                case measure => simp [intOf]; omega
              · clear ho5
                have HO7 : Hid (OutAt w5 wr (z + ds.length) tg (fun j => j < z ∨ z + ds.length - 0 ≤ j)) := by
                  obtain ⟨⟨cur, a1, a2, a3⟩, a4⟩ := HO5.out
                  exact ⟨⟨cur, a1, a2, fun j hj hp => a3 j hj (by omega)⟩, a4⟩
                clear hfr5
                go_wp2_with fail
                go_loopw [93] (fun i wr => ∃ k : Nat, k ≤ ds.length ∧ i = .int .i64 k ∧ OutAt w5 wr (z + ds.length) tg (fun j => j < z ∨ z + ds.length - k ≤ j)) (fun i _ => ds.length - (intOf i).toNat)
                case atStart => exact ⟨0, Nat.zero_le _, rfl, HO7.out⟩
                case round =>
                  obtain ⟨k6, hk6, rfl, ho6⟩ := hrel
                  have HO8 := hid ho6
                  have hfr6 := ho6.frozen
                  by_cases hkd : k6 < ds.length
                  · obtain ⟨dd, hdd, hdm⟩ := get_lt hkd
                    have hd58 : dd < 58 := HDL.out dd hdm
                    have hcell : wr.cell? ⟨g, k6, none⟩ = some (.int .u8 (dd : Int)) := by
                      rw [ho6.2.cell (p := ⟨g, k6, none⟩) (ownsG hown).2, hown.cellAt k6 (by omega), List.getElem?_map, hdd]
                      rfl
                    obtain ⟨v6, hv6⟩ := ho6.there (j := z + ds.length - 1 - k6) (by omega)
                    have HN6 := hid (HT1.out k6 dd hdd)
                    clear ho6 hdd
                    go_wp2_with fail
                    go_roundw
                    case rel => exact ⟨k6 + 1, by omega, by go_num, HO8.out.put (by rw [HN6.out]; exact congrArg (fun n : Nat => (n : Int)) (alpha_at dd hd58)) (fun i hi => by omega)⟩
                    case measure => simp [intOf]; omega
                  · clear ho6
                    have hcv := HO8.out.conv HTG.out (fun j hj => by omega) (by rw [encL_length, HZ.out, ← HD2.out])
                    go_wp2_with fail
                    go_ret
                    exact ⟨rfl, bt hbl HO8.out.2⟩
end Go.Proofs.Qxb6629335a
