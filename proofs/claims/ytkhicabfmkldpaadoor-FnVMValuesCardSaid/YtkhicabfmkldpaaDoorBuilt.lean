/-
  impl.program: the program of instructions as rows of its own.
-/
import Derived.Test.YtkhicabfmkldpaaDoorRun0
set_option linter.unusedSimpArgs false
set_option linter.unusedVariables false
namespace Go.Proofs.YtkhicabfmkldpaaDoor
open Go Go.RowKit

/-- Instructions as cells. -/
def insCells (l : List (Nat × Int)) : List Value := l.flatMap fun i => [.int .i64 (i.1 : Int), .int .i64 i.2]

/-- A slice of instructions reads as a list. -/
def InAt (w : World) (v : Value) (l : List (Nat × Int)) : Prop :=
  ∃ b off cap, v = .slice (some ⟨b, off, none⟩) l.length cap ∧ ∀ (k op : Nat) (x : Int), l[k]? = some (op, x) → w.cell? ⟨b, off + k * 2, none⟩ = some (.int .i64 (op : Int)) ∧ w.cell? ⟨b, off + k * 2 + 1, none⟩ = some (.int .i64 x)

theorem Tryd.row116 : (Tryd.prog.info? 116).map (fun i => (i.zero, i.size, i.bytes)) = some (some (.agg #[.int .i64 0, .int .i64 0]), 2, 16) := by kernel_rfl

theorem insCells_size : ∀ l, (insCells l).length = l.length * 2
  | [] => rfl
  | i :: r => by show ([_, _] ++ insCells r).length = _; rw [List.length_append, insCells_size r]; simp; omega

theorem insCells_snoc (l : List (Nat × Int)) (i : Nat × Int) : insCells (l ++ [i]) = insCells l ++ [.int .i64 (i.1 : Int), .int .i64 i.2] := by
  unfold insCells
  rw [List.flatMap_append, List.flatMap_singleton]

set_option maxHeartbeats 4000000 in
set_option maxRecDepth 100000 in
theorem program_any (ins : List (Nat × Int)) (hn : 0 < ins.length) (hn2 : ins.length ≤ 100000) (iv ev : Value) (hev : ∃ a n c, ev = .slice a n c) (w : World) (hI : InAt w iv ins) :
    Calls Tryd.prog 27 #[iv, ev] w fun e w' => ∃ gI cap, e = .returned (.pointer (some ⟨w.heap.size, 0, none⟩)) ∧ blk w' w.heap.size #[.slice (some ⟨gI, 0, none⟩) ins.length cap, ev, .int .i64 0, .int .i64 0] 110 ∧
      w'.ownsRow w.heap.size 116 2 (.slice (some ⟨gI, 0, none⟩) ins.length cap) ins.length (insCells ins) ∧ gI ≠ w.heap.size ∧ Chg (fun _ => False) w w' := by
  obtain ⟨b, off, cap0, rfl, hcells⟩ := hI
  obtain ⟨ea, en, ec, rfl⟩ := hev
  obtain ⟨i0, hi, hz0, hz1, hz2⟩ := info_parts Tryd.row116
  obtain ⟨n, hnn⟩ : ∃ n, ins.length = n := ⟨_, rfl⟩
  rw [hnn] at hn hn2 ⊢
  have Hnn := hid hnn
  have Hc := hid hcells
  clear hcells hnn
  go_enter Tryd.func27, Tryd.ntmps27
  go_wp2
  go_loopg [13] n (fun k v13 wr => ∃ (i : Nat) (v : Value), v13 = .int .i64 i ∧ i + k = n ∧ Hid (blk wr w.heap.size #[v, .slice ea en ec, .int .i64 0, .int .i64 0] 110 ∧ wr.ownsRow w.heap.size 116 2 v i (insCells (ins.take i)) ∧ v.ownBlock ≠ some w.heap.size ∧ Chg (fun _ => False) w wr))
  case atStart =>
    refine ⟨0, .slice none 0 0, rfl, by omega, blk_new w _ _, ?_, by simp [Value.ownBlock], chg_alloc w _⟩
    exact ⟨by simp [insCells], .inl ⟨rfl, rfl⟩⟩
  case round =>
    obtain ⟨i, v, rfl, hik, HH⟩ := hrel
    by_cases hlt : i < n
    · obtain ⟨⟨op, x⟩, hox⟩ : ∃ o, ins[i]? = some o := ⟨_, List.getElem?_eq_getElem (by rw [Hnn.out]; exact hlt)⟩
      have hc0 := Hc.out i op x hox
      have hbl := World.block_lt_of_cell? w _ hc0.1
      have cb0 : wr.cell? ⟨b, off + i * 2, none⟩ = some (.int .i64 (op : Int)) := by rw [cell_of (HH.out.2.2.2.block b hbl (fun e => e))]; exact hc0.1
      have cb1 : wr.cell? ⟨b, off + i * 2 + 1, none⟩ = some (.int .i64 x) := by rw [cell_of (HH.out.2.2.2.block b hbl (fun e => e))]; exact hc0.2
      have cG : wr.cell? ⟨w.heap.size, 0, none⟩ = some v := HH.out.1.cell 0 rfl
      have lG : w.heap.size < wr.heap.size := HH.out.1.lt
      have lb : b < wr.heap.size := Nat.lt_of_lt_of_le hbl HH.out.2.2.2.size
      have Hox := hid hox
      have an : v.ownBlock ≠ some w.heap.size := HH.out.2.2.1
      have ab : v.ownBlock ≠ some wr.heap.size := fun e => by have := (HH.out.2.1.lt _ e).2; omega
      clear hc0 hbl hox
      go_wp2
      obtain ⟨wl, hwl⟩ : ∃ wl, (wr.alloc (.cells #[.int .i64 (op : Int), .int .i64 x] 42)) = wl := ⟨_, rfl⟩
      rw [hwl]
      obtain ⟨L, hL⟩ : ∃ L, wr.heap.size = L := ⟨_, rfl⟩
      rw [hL]
      have hszl : wl.heap.size = L + 1 := by rw [← hwl, ← hL]; simp
      have hGl : blk wl w.heap.size #[v, .slice ea en ec, .int .i64 0, .int .i64 0] 110 := hwl ▸ HH.out.1.alloc _
      have hLl : blk wl L #[.int .i64 (op : Int), .int .i64 x] 42 := by rw [← hwl]; exact blk_new' hL.symm _ _
      have cG' : wl.cell? ⟨w.heap.size, 0, none⟩ = some v := hGl.cell 0 rfl
      have cL0 : wl.cell? ⟨L, 0, none⟩ = some (.int .i64 (op : Int)) := hLl.cell 0 rfl
      have cL1 : wl.cell? ⟨L, 1, none⟩ = some (.int .i64 x) := hLl.cell 1 rfl
      have hown := hid (show wl.ownsRow w.heap.size 116 2 v i (insCells (ins.take i)) from hwl ▸ HH.out.2.1.alloc _)
      have hch := hid (show Chg (fun _ => False) w wl from hwl ▸ HH.out.2.2.2.alloc _)
      have HGl := hid hGl
      have abL : v.ownBlock ≠ some L := hL ▸ ab
      have lGL : w.heap.size < L := hL ▸ lG
      have Hv := hid an
      have HvL := hid abL
      clear HH cb0 cb1 cG lG lb hwl hL ab hGl hLl an abL
      refine wp_region_till (fun w' => w'.cell? ⟨w.heap.size, 0, none⟩ = some v ∧ w'.cell? ⟨L, 0, none⟩ = some (.int .i64 (op : Int)) ∧ w'.cell? ⟨L, 1, none⟩ = some (.int .i64 x)) 12 (by kernel_rfl) ?_
      refine wpTill_reads 5 [0, 1, 2, 3, 4, 5, 6, 7, 8, 9] (by kernel_rfl) ?_ ?_ ?_
      · intro c a d v w h; cases d <;> exact h
      · exact ⟨cG', cL0, cL1⟩
      iterate 10 (refine wpReads_cons (v := ?_) rfl (yieldsIf_yes rfl fun w' hw => ?_) ?_; rotate_left; (obtain ⟨h1, h2, h3⟩ := hw; first | (go_simp; done) | (go_simp; exact rfl)); simp only [Act.put, List.setIfInBounds_toArray, List.set_cons_zero, List.set_cons_succ, List.getElem_toArray, List.getElem_cons_zero, List.getElem_cons_succ])
      refine wpReads_nil ?_
      simp only [listAll]
      refine wpTill_one (i := 10) (by kernel_rfl) rfl rfl ?_
      intro K hK
      go_step
      obtain ⟨wm, hwm⟩ : ∃ wm, (wl.alloc (.cells #[.int .i64 (op : Int), .int .i64 x] 116)).drew = wm := ⟨_, rfl⟩
      rw [hwm]
      have hGm : blk wm w.heap.size #[v, .slice ea en ec, .int .i64 0, .int .i64 0] 110 := hwm ▸ (HGl.out.alloc _).drew
      have m0 : wm.cell? ⟨w.heap.size, 0, none⟩ = some v := hGm.cell 0 rfl
      have hLm : wm.cell? ⟨L, 0, none⟩ = some (.int .i64 (op : Int)) ∧ wm.cell? ⟨L, 1, none⟩ = some (.int .i64 x) := by
        have hc := ((Chg.refl (fun _ => False) wl).alloc (.cells #[.int .i64 (op : Int), .int .i64 x] 116)).drew
        rw [hwm] at hc
        have hb := hc.block L (World.block_lt_of_cell? wl _ cL0) (fun e => e)
        rw [cell_of hb, cell_of hb]
        exact ⟨cL0, cL1⟩
      have hnew : blk wm (L + 1) #[.int .i64 (op : Int), .int .i64 x] 116 := by rw [← hwm]; exact (blk_new' hszl.symm _ _).drew
      have hszm : wm.heap.size = L + 2 := by rw [← hwm]; simp; omega
      have hom := hid (show wm.ownsRow w.heap.size 116 2 v i (insCells (ins.take i)) from hwm ▸ (hown.out.alloc _).drew)
      have hcm := hid (show Chg (fun _ => False) w wm from hwm ▸ (hch.out.alloc _).drew)
      refine hK _ _ ⟨fun _ => ⟨m0, hLm.1, hLm.2⟩, ?_⟩
      clear hK K hwm hown hch cG' cL0 cL1
      refine wpTill_one (i := 11) (by kernel_rfl) rfl rfl ?_
      intro K hK
      refine wp_append_lies _ _ _ _ (by rfl) w.heap.size 116 i0 _ 2 16 (by kernel_rfl) hi hz0 hz1 hz2 rfl (by omega) v i (insCells (ins.take i)) (by rfl) hom.out
        ⟨L + 1, 0, none⟩ 1 1 [.int .i64 (op : Int), .int .i64 x] (by rfl) (by rfl) (World.news_of_block (cs := #[.int .i64 (op : Int), .int .i64 x]) (t := 116) (fr := (0, 0)) hnew) (by simp [Value.oneCell'])
        (by omega) (by unfold maxLen; omega) (by omega) (by rw [hszm]; omega) (L + 2) hszm ?_
      intro g cap w1 hown1 hgrow hat hlt1
      have hG1 : blk w1 w.heap.size #[v, .slice ea en ec, .int .i64 0, .int .i64 0] 110 := by
        unfold blk at hGm ⊢
        rw [hgrow.block w.heap.size (by rw [hszm]; omega) (Ne.symm Hv.out)]
        exact hGm
      have n0 : w1.cell? ⟨w.heap.size, 0, none⟩ = some v := hG1.cell 0 rfl
      have nf : w1.frozen? ⟨w.heap.size, 0, none⟩ = false := hG1.free 0
      have nL : w1.cell? ⟨L, 0, none⟩ = some (.int .i64 (op : Int)) ∧ w1.cell? ⟨L, 1, none⟩ = some (.int .i64 x) := by
        have hb := hgrow.block L (by rw [hszm]; omega) (Ne.symm HvL.out)
        rw [cell_of hb, cell_of hb]
        exact hLm
      have hgne : g ≠ w.heap.size := by
        rcases hat with e | e
        · intro e2; exact Hv.out (e2 ▸ e)
        · omega
      have hc1 := hid (show Chg (fun k => v.ownBlock = some k) w w1 from (hcm.out.mono (fun _ _ e => e.elim)).trans ⟨hgrow.os, hgrow.tape, hgrow.output, hgrow.size, fun k hk hn => hgrow.block k hk (fun e => hn e.symm)⟩ (fun _ _ e => e))
      have Hown := hid hown1
      have HG1 := hid hG1
      have Hvlt := hid (show ∀ k, v.ownBlock = some k → w.heap.size ≤ k from fun k e => (hom.out.lt _ e).1)
      refine hK _ _ ⟨fun _ => ⟨n0, nL.1, nL.2⟩, ?_⟩
      clear hK K hown1 hGm m0 hLm hnew hG1 hgrow hat
      refine wpTill_one (i := 12) (by kernel_rfl) rfl rfl ?_
      intro K hK
      go_step
      refine hK _ _ ⟨fun h => absurd h (by decide), ?_⟩
      clear hK K
      refine wpTill_one (i := 13) (by kernel_rfl) rfl rfl ?_
      intro K hK
      go_step
      refine hK _ _ ⟨fun h => absurd h (by decide), ?_⟩
      clear hK K
      refine wpTill_one (i := 14) (by kernel_rfl) rfl rfl ?_
      intro K hK
      go_step
      refine hK _ _ ⟨fun h => absurd h (by decide), ?_⟩
      clear hK K
      refine wpTill_done (by kernel_rfl) ?_ _
      go_wp2
      go_roundg (n - (i + 1))
      case measure => omega
      case rel =>
        refine ⟨i + 1, .slice (some ⟨g, 0, none⟩) (i + 1) cap, rfl, by omega, HG1.out.set 0 _, ?_, by simp [Value.ownBlock, hgne], ?_⟩
        · rw [show ins.take (i + 1) = ins.take i ++ [(op, x)] by rw [List.take_add_one, Hox.out]; rfl, insCells_snoc]
          exact World.ownsRow.chg Hown.out ((Chg.refl (fun k => k = w.heap.size) w1).setCell (fun _ => rfl) _) (fun g' hg' e => by simp [Value.ownBlock] at hg'; omega)
        · exact (hc1.out.mono (S' := fun _ => False) (fun k hk e => absurd (Hvlt.out k e) (by omega))).setCell (fun h => absurd h (Nat.lt_irrefl _)) _
    · go_wp2
      go_ret
      have hi : i = n := by omega
      subst hi
      obtain ⟨h1, h2, h3, h4⟩ := HH.out
      rw [List.take_of_length_le (by rw [Hnn.out]; exact Nat.le_refl _)] at h2
      rcases h2.2 with ⟨_, h0⟩ | ⟨g, cap, cur, rfl, _⟩
      · omega
      · exact ⟨g, cap, rfl, h1, h2, fun e => h3 (by simp [Value.ownBlock, e]), h4⟩
end Go.Proofs.YtkhicabfmkldpaaDoor
