import Derived.Test.Qxb6629213aDoorUns
import Derived.Test.Qxb6629213aDoorW3
import Derived.Deep.RegionHeld3
import Derived.Deep.AppendLies
namespace Go.Proofs.Qxb6629213aDoor
open Go.RowKit
set_option linter.unusedVariables false
set_option linter.unusedSimpArgs false

theorem below_alloc (w : World) (o : Obj) : Below w.heap.size w (w.alloc o) := (Below.refl _ _).alloc (Nat.le_refl _) o

theorem rel_push {w : World} {B : Nat} {v : Value} {L : List ByteArray} {x : ByteArray} (h : w.ownsRow B 9 1 v (L.length + 1) (L.map Value.string ++ [.string x])) : w.ownsRow B 9 1 v (L ++ [x]).length ((L ++ [x]).map Value.string) := by
  simpa using h

set_option maxRecDepth 100000 in
set_option maxHeartbeats 3200000 in
theorem unsettled_any (cs : List Cd) (lo b : Nat) (w : World) (h : StAt w lo b cs) (hu : UOk cs) (htab : Lib.TabIs Tryd.prog w tabName .u64 Lib.pow10Tab) :
    Calls Tryd.prog 10 #[.pointer (some ⟨b, 0, none⟩)] w fun e w' => ∃ ao c, e = .returned (.slice ao (unset cs).length c) ∧ SlOk ao (unset cs).length c ∧ StrsAt w' ao (unset cs) ∧ Below w.heap.size w w' := by
  obtain ⟨-, ao, c, h1, ⟨ho1, ho2, ho3⟩, hcs⟩ := h
  obtain ⟨hu1, hu2⟩ := hu
  unfold maxLen at ho2
  have HT := hid (Lib.tabBelow_of_tabIs htab)
  clear htab
  obtain ⟨i0, hi0, hz0, hz1, hz2⟩ := info_parts info9
  go_enter Tryd.func10, Tryd.ntmps10
  go_wp2_with fail
  go_loopw [12, 3] (fun i v wr => ∃ k : Nat, k ≤ cs.length ∧ i = .int .i64 k ∧ wr.ownsRow w.heap.size 9 1 v (unset (cs.take k)).length ((unset (cs.take k)).map Value.string) ∧ Below w.heap.size w wr)
    (fun i _ _ => cs.length - (intOf i).toNat)
  case atStart => exact ⟨0, Nat.zero_le _, rfl, World.ownsRow_nil _ _ _ _, Below.refl _ _⟩
  case round =>
    obtain ⟨k, hk, rfl, hown, hbl⟩ := hrel
    obtain ⟨w1, rfl⟩ : ∃ w1, w1 = wr := ⟨wr, rfl⟩
    by_cases hlt : k < cs.length
    · obtain ⟨d, hd, hmem⟩ := get_lt hlt
      obtain ⟨cb, co, he, -, q1, sao, sc, q2, ⟨qo1, qo2, qo3⟩, hss⟩ := hcs k d hd
      cases he
      obtain ⟨hn1, hn2, hn3⟩ := hu2 d hmem
      have g1 := cell_later hbl q1
      have g2 := cell_later hbl q2
      have HN := hid (show unset (cs.take (k + 1)) = unset (cs.take k) ++ nms d.n d.ss by rw [take_snoc hd, unset_append, unset_one])
      have hle : (unset (cs.take k)).length ≤ k * 1048577 := by
        have := unset_le (M := 1048577) (cs.take k) fun x hx => (hu2 x (List.mem_of_mem_take hx)).2.1
        rwa [List.length_take, Nat.min_eq_left hk] at this
      unfold maxLen at qo2
      clear hd
      go_wp2_with fail
      go_loopw [19, 3] (fun i v wx => ∃ j : Nat, j ≤ d.ss.length ∧ i = .int .i64 j ∧ wx.ownsRow w.heap.size 9 1 v (unset (cs.take k) ++ nms d.n (d.ss.take j)).length ((unset (cs.take k) ++ nms d.n (d.ss.take j)).map Value.string) ∧ wx.heap[w1.heap.size]? = some (.cells #[.string d.n, .slice sao d.ss.length sc] 44 (0, 0)) ∧ Below w.heap.size w wx)
        (fun i _ _ => d.ss.length - (intOf i).toNat)
      case atStart => exact ⟨0, Nat.zero_le _, rfl, by simpa [nms] using hown.alloc _, heap_alloc_new w1 _, hbl.alloc hbl.size _⟩
      case round =>
        obtain ⟨j, hj, rfl, hown2, hbox, hblx⟩ := hrel
        have c0 : wr.cell? ⟨w1.heap.size, 0, none⟩ = some (.string d.n) := by rw [cell_of_row _ _ _ _ _ _ hbox]; rfl
        have c1 : wr.cell? ⟨w1.heap.size, 1, none⟩ = some (.slice sao d.ss.length sc) := by rw [cell_of_row _ _ _ _ _ _ hbox]; rfl
        by_cases hjl : j < d.ss.length
        · obtain ⟨s, hs, hsm⟩ := get_lt hjl
          obtain ⟨sb, so, he, hslo, hsat⟩ := hss j s hs
          cases he
          obtain ⟨hs1, hs2⟩ := hn3 s hsm
          have HSN := hid (show nms d.n (d.ss.take (j + 1)) = nms d.n (d.ss.take j) ++ if setd s then [] else [nameOf d.n s.i] by rw [take_snoc hs, nms_snoc])
          have hsat' := hsat.keep (Keeps.of_below hblx) hslo
          have qi := hsat'.1
          have hlej := nms_le d.n (d.ss.take j)
          rw [List.length_take, Nat.min_eq_left hj] at hlej
          have hall : (unset (cs.take k) ++ nms d.n (d.ss.take j)).length ≤ 1048577 * 1048577 := by
            rw [List.length_append]
            have : k * 1048577 + 1048577 ≤ 1048577 * 1048577 := by omega
            omega
          clear hs
          by_cases hset : setd s = true
          · go_wp2_with fail
            refine (settled_any s lo sb (so + j * 6) wr hsat' hs1).mono ?_
            rintro e w2 ⟨rfl, hb2⟩
            go_wp2_with fail
            go_roundw
            case rel =>
              refine ⟨j + 1, by omega, by go_num, ?_, (hb2.block _ (lt_of_block hbox)).trans hbox, hblx.trans (hb2.mono hblx.size)⟩
              rw [HSN.out, if_pos hset, List.append_nil]
              exact owns_later hown2 hb2
            case measure => simp [intOf]; omega
          · have hset' : setd s = false := by simpa using hset
            clear hset
            obtain ⟨t, HTT, ht⟩ : ∃ t : ByteArray, Hid (t = ⟨(Lib.itoa s.i).toArray⟩) ∧ t.size ≤ 21 := ⟨_, rfl, by show (Lib.itoa s.i).toArray.size ≤ 21; simpa using Lib.itoa_length_le s.i hs2.1 hs2.2⟩
            have HI : Hid (∀ wx, Below w.heap.size w wx → Calls Tryd.prog 21 #[.int .i64 s.i] wx fun e w' => e = .returned (.string t) ∧ Below wx.heap.size wx w') := fun wx hbx => by
              rw [HTT.out]
              exact itoa_below s.i hs2 wx (HT.out wx hbx)
            go_wp2_with fail
            refine (settled_any s lo sb (so + j * 6) wr hsat' hs1).mono ?_
            rintro e w2 ⟨rfl, hb2⟩
            have hbw2 := hblx.trans (hb2.mono hblx.size)
            have hown3 := owns_later hown2 hb2
            have hbox2 := (hb2.block _ (lt_of_block hbox)).trans hbox
            have c0' := cell_later hb2 c0
            have c1' := cell_later hb2 c1
            have qi' := cell_later hb2 qi
            have hsz1 : (d.n ++ (⟨#[47]⟩ : ByteArray)).size = d.n.size + 1 := by simp [ByteArray.size_append]; rfl
            have hs3 : (d.n ++ (⟨#[47]⟩ : ByteArray)).size + t.size ≤ 9223372036854775807 := by omega
            have hj0 : (0 : Int) ≤ (j : Int) := Int.natCast_nonneg _
            have hj1 : (j : Int) < (d.ss.length : Int) := by omega
            have hne1 : some w1.heap.size ≠ u3.ownBlock := (owns_ne hown3 hbox2 (by decide)).symm
            have hsbw : sb < w.heap.size := World.block_lt_of_cell? w _ hsat.1
            have hne2 : some sb ≠ u3.ownBlock := fun e => by have := (hown3.lt sb e.symm).1; omega
            have hns1 : ¬ 9223372036854775807 < d.n.size + 1 := by omega
            have hns2 : ¬ 9223372036854775807 < d.n.size + 1 + t.size := by omega
            clear c0 c1 qi hown2 hbox hsat hsat'
            go_wp2_with fail
            go_region_held3 (fun w' => w'.cell? ⟨w1.heap.size, 0, none⟩ = some (.string d.n) ∧ w'.cell? ⟨w1.heap.size, 1, none⟩ = some (.slice (some ⟨sb, so, none⟩) d.ss.length sc) ∧ w'.cell? ⟨sb, so + j * 6, none⟩ = some (.int .i64 s.i))
              (first | go_keep | (exact ⟨cell_later hb4 c0', cell_later hb4 c1', cell_later hb4 qi'⟩) | (exact ⟨hgrow.cell (cell_later (below_alloc _ _) (cell_later hb4 c0')) hne1, hgrow.cell (cell_later (below_alloc _ _) (cell_later hb4 c1')) hne1, hgrow.cell (cell_later (below_alloc _ _) (cell_later hb4 qi')) hne2⟩))
              (first
                | (go_at_call 21; refine (HI.out _ (by exact hbw2.drew)).mono ?_; rintro e w3 ⟨rfl, hb3⟩; have hb4 := below_undrew hb3; have hown4 := owns_later hown3 hb4)
                | (refine step_append_lies _ (by rfl) _ _ _ (by rfl) w.heap.size 9 i0 _ 1 16 Tryd.underlying45 hi0 hz0 hz1 hz2 rfl (by omega) u3 _ _ (by rfl) (hown4.alloc _) ⟨w3.heap.size, 0, none⟩ 1 1 [.string ((d.n ++ ⟨#[47]⟩) ++ t)] (by rfl) (by rfl) (World.news_of_block (cs := #[.string ((d.n ++ ⟨#[47]⟩) ++ t)]) (t := 9) (fr := (0, 0)) (heap_alloc_new w3 _)) (by simp [Value.oneCell']) (by omega) (by unfold maxLen; omega) (by omega) (by have := hbw2.size; have := hb4.size; simp; omega) (w3.heap.size + 1) (by simp) ?_; intro gg cap w5 hown5 hgrow hat hlt5))
            have hblk := hgrow.block w1.heap.size (by have := lt_of_block hbox2; have := hb4.size; simp; omega) hne1
            have hbox5 : w5.heap[w1.heap.size]? = some (.cells #[.string d.n, .slice (some ⟨sb, so, none⟩) d.ss.length sc] 44 (0, 0)) := by
              rw [hblk, (below_alloc w3 _).block _ (by have := lt_of_block hbox2; have := hb4.size; omega), hb4.block _ (lt_of_block hbox2)]
              exact hbox2
            have hbl5 : Below w.heap.size w w5 := ((hbw2.trans (hb4.mono hbw2.size)).alloc (by have := hbw2.size; have := hb4.size; omega) _).grown hgrow (by have := hbw2.size; have := hb4.size; simp; omega) (fun x hx => (hown4.lt x hx).1)
            have R := rel_push hown5
            have HR := hid R
            have HB5 := hid hbox5
            have HL5 := hid hbl5
            clear hbox5 hbl5 hown5 hgrow R hblk
            go_wp2_with fail
            go_roundw
            case rel =>
              refine ⟨j + 1, by omega, by go_num, ?_, HB5.out, HL5.out⟩
              have e : nms d.n (d.ss.take (j + 1)) = nms d.n (d.ss.take j) ++ [(d.n ++ ⟨#[47]⟩) ++ t] := by
                rw [HSN.out, hset']
                simp [nameOf, HTT.out]
              rw [e, ← List.append_assoc]
              have R := HR.out
              simp only [List.length_append, List.length_cons, List.length_nil] at R ⊢
              exact R
            case measure => simp [intOf]; omega
        · have HK := hid (show d.ss.take j = d.ss from List.take_of_length_le (by omega))
          go_wp2_with fail
          go_roundw
          case rel =>
            refine ⟨k + 1, by omega, by go_num, ?_, hblx⟩
            rw [HN.out]
            have := hown2
            rw [HK.out] at this
            exact this
          case measure => simp [intOf]; omega
    · have HK := hid (show cs.take k = cs from List.take_of_length_le (by omega))
      go_wp2_with fail
      rw [HK.out] at hown
      obtain ⟨ao', c', rfl, hok', hst⟩ := owns_strs hown
      go_ret
      exact ⟨ao', c', rfl, hok', hst, hbl⟩

theorem unsettled_as (cs : List Cd) (L : List ByteArray) (n lo b : Nat) (w : World) (hL : unset cs = L) (hn : L.length = n) (h : StAt w lo b cs) (hu : UOk cs) (htab : Lib.TabIs Tryd.prog w tabName .u64 Lib.pow10Tab) :
    Calls Tryd.prog 10 #[.pointer (some ⟨b, 0, none⟩)] w fun e w' => ∃ ao c, e = .returned (.slice ao n c) ∧ SlOk ao n c ∧ StrsAt w' ao L ∧ Below w.heap.size w w' := by
  subst hL
  subst hn
  exact unsettled_any cs lo b w h hu htab
end Go.Proofs.Qxb6629213aDoor
