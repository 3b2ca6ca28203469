/-
  io.ReadAtLeast and io.ReadFull over the readers of impl.
-/
import Derived.Test.YtkhicabfmkldpaaDoorRead2
set_option linter.unusedSimpArgs false
set_option linter.unusedVariables false
namespace Go.Proofs.YtkhicabfmkldpaaDoor
open Go.RowKit

theorem nil_slow (R : Nat) (w : World) : (nilAhead 306 75 (.pointer (some ⟨R, 0, none⟩)) "Read").run Tryd.prog w = .ok (some false) w := by kernel_rfl
theorem nil_fast (R : Nat) (w : World) : (nilAhead 306 78 (.pointer (some ⟨R, 0, none⟩)) "Read").run Tryd.prog w = .ok (some false) w := by kernel_rfl

set_option maxRecDepth 100000 in
theorem atleast_all (B R U o m cap' : Nat) (cs : Array Value) (sl : Bool) (dv : Value) (data rest : List UInt8) (w : World) (h : RdAt w B R sl dv data rest) (hne : m ≤ rest.length)
    (hU : blk w U cs 5) (ho : o + m ≤ cs.size) (hm : 0 < m) (hm2 : m ≤ 1000000) (hcap : m ≤ cap') (hUR : U ≠ R) (hUB : B ≤ U) :
    Calls Tryd.prog 77 #[rdV sl R, .slice (some ⟨U, o, none⟩) m cap', .int .i64 m] w fun e w' => e = .returned (.tuple #[.int .i64 m, .nilIface]) ∧
      RdAt w' B R sl dv data (rest.drop m) ∧ blk w' U (spl cs o ((rest.take m).map byteV)) 5 ∧ Chg (fun k => k = R ∨ k = U) w w' := by
  have H := hid h
  have HU := hid hU
  have Hlen := hid (show (rest.take m).length = m by rw [List.length_take]; omega)
  clear h hU
  have n1 := nil_slow R
  have n2 := nil_fast R
  cases sl
  all_goals
    simp only [rdV, if_true, if_false, Bool.false_eq_true]
    go_enter Tryd.func77, Tryd.ntmps77
    go_wp2
    refine wp_loop_rounds 2 ?_
    rw [rounds_succ]
    go_wp2
    refine wp_region_till (fun _ => True) 100 (by kernel_rfl) ?_
    refine wpTill_reads 6 [0, 1, 2, 3, 4, 5, 6] (by kernel_rfl) ?_ ?_ ?_
    · intro c a d v w h; cases d <;> exact h
    · trivial
    iterate 7 (refine wpReads_cons (v := ?_) rfl (yieldsIf_yes rfl fun w' hw => ?_) ?_; rotate_left; (first | (go_simp; done) | (go_simp; exact rfl)); simp only [Act.put, List.setIfInBounds_toArray, List.set_cons_zero, List.set_cons_succ, List.getElem_toArray, List.getElem_cons_zero, List.getElem_cons_succ])
    refine wpReads_nil ?_
    simp only [listAll]
    refine wpTill_one (i := 7) (by kernel_rfl) rfl rfl ?_
    intro K hK
    go_step
    go_upon
    refine (read_some B R U o m cap' cs _ dv data rest _ (H.out.chg ((Chg.refl (fun _ => False) w).drew) (fun e => e) (fun _ e => e.elim)) (by omega) HU.out ho hm hm2 hUR hUB).mono ?_
    rintro e w1 ⟨rfl, hr, hu, hc⟩
    rw [Hlen.out]
    have HR := hid hr
    have HUu := hid hu
    have HC := hid hc
    clear hr hu hc
    refine hK _ _ ⟨fun _ => trivial, ?_⟩
    clear hK K
    refine wpTill_reads 0 [8, 9, 10, 11, 12] (by kernel_rfl) ?_ trivial ?_
    · intro c a d v w h; cases d <;> exact h
    iterate 5 (refine wpReads_cons (v := ?_) rfl (yieldsIf_yes rfl fun w' hw => ?_) ?_; rotate_left; (first | (go_simp; done) | (go_simp; exact rfl)); simp only [Act.put, List.setIfInBounds_toArray, List.set_cons_zero, List.set_cons_succ, List.getElem_toArray, List.getElem_cons_zero, List.getElem_cons_succ])
    refine wpReads_nil ?_
    simp only [listAll]
    refine wpTill_done (by kernel_rfl) ?_ _
    go_wp2
    rw [rounds_succ]
    go_wp2
    go_ret2
    exact ⟨rfl, HR.out, HUu.out, ((Chg.refl _ w).drew).trans HC.out (fun _ _ e => e)⟩

set_option maxRecDepth 100000 in
theorem atleast_none (B R U o m cap' : Nat) (sl : Bool) (dv : Value) (data : List UInt8) (e0 e1 : Addr) (w : World) (h : RdAt w B R sl dv data []) (he : Eofs w B e0 e1) (hm : 0 < m) (hm2 : m ≤ 1000000) (hcap : m ≤ cap') :
    Calls Tryd.prog 77 #[rdV sl R, .slice (some ⟨U, o, none⟩) m cap', .int .i64 m] w fun e w' => e = .returned (.tuple #[.int .i64 0, .iface 185 (.pointer (some e0))]) ∧ ∃ k, w' = w.drewN k := by
  have H := hid h
  have He := hid he
  clear h he
  have n1 := nil_slow R
  have n2 := nil_fast R
  cases sl
  all_goals
    simp only [rdV, if_true, if_false, Bool.false_eq_true]
    go_enter Tryd.func77, Tryd.ntmps77
    go_wp2
    refine wp_loop_rounds 2 ?_
    rw [rounds_succ]
    go_wp2
    refine wp_region_till (fun _ => True) 100 (by kernel_rfl) ?_
    refine wpTill_reads 6 [0, 1, 2, 3, 4, 5, 6] (by kernel_rfl) ?_ ?_ ?_
    · intro c a d v w h; cases d <;> exact h
    · trivial
    iterate 7 (refine wpReads_cons (v := ?_) rfl (yieldsIf_yes rfl fun w' hw => ?_) ?_; rotate_left; (first | (go_simp; done) | (go_simp; exact rfl)); simp only [Act.put, List.setIfInBounds_toArray, List.set_cons_zero, List.set_cons_succ, List.getElem_toArray, List.getElem_cons_zero, List.getElem_cons_succ])
    refine wpReads_nil ?_
    simp only [listAll]
    refine wpTill_one (i := 7) (by kernel_rfl) rfl rfl ?_
    intro K hK
    go_step
    go_upon
    refine (read_end B R _ dv data e0 e1 _ _ (H.out.chg ((Chg.refl (fun _ => False) w).drew) (fun e => e) (fun _ e => e.elim)) (He.out.chg ((Chg.refl (fun _ => False) w).drew) (fun _ e => e.elim))).mono ?_
    rintro e w1 ⟨rfl, k, rfl⟩
    refine hK _ _ ⟨fun _ => trivial, ?_⟩
    clear hK K
    refine wpTill_reads 0 [8, 9, 10, 11, 12] (by kernel_rfl) ?_ trivial ?_
    · intro c a d v w h; cases d <;> exact h
    iterate 5 (refine wpReads_cons (v := ?_) rfl (yieldsIf_yes rfl fun w' hw => ?_) ?_; rotate_left; (first | (go_simp; done) | (go_simp; exact rfl)); simp only [Act.put, List.setIfInBounds_toArray, List.set_cons_zero, List.set_cons_succ, List.getElem_toArray, List.getElem_cons_zero, List.getElem_cons_succ])
    refine wpReads_nil ?_
    simp only [listAll]
    refine wpTill_done (by kernel_rfl) ?_ _
    go_wp2
    rw [rounds_succ]
    go_wp2
    go_ret2
    exact ⟨rfl, 1 + k, rfl⟩
end Go.Proofs.YtkhicabfmkldpaaDoor
