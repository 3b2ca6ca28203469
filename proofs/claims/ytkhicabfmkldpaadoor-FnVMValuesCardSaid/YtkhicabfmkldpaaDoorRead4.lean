/-
  io.ReadAtLeast and io.ReadFull over the readers of impl.
-/
import Derived.Test.YtkhicabfmkldpaaDoorRead3
import Derived.LaidEql
set_option linter.unusedSimpArgs false
set_option linter.unusedVariables false
namespace Go.Proofs.YtkhicabfmkldpaaDoor
open Go.RowKit

theorem eof_same (a : Addr) (w : World) : (binOp .eql 82 (.iface 185 (.pointer (some a))) (.iface 185 (.pointer (some a)))).run Tryd.prog w = .ok (.bool true) w :=
  run_eql_iface_ptr_same (ti := 82) (tp := 185) (te := Tryd.prog.pointee 185) (ms := Tryd.prog.methodsAt 82) (i := Tryd.t185) (j := (Tryd.prog.info? (Tryd.prog.pointee 185)).getD Tryd.t185) w a (by kernel_rfl) (by kernel_rfl) (by kernel_rfl) (by kernel_rfl) (by kernel_rfl)

set_option maxHeartbeats 1000000 in
set_option maxRecDepth 100000 in
theorem atleast_part (B R U o m cap' : Nat) (cs : Array Value) (sl : Bool) (dv : Value) (data rest : List UInt8) (e0 e1 : Addr) (w : World) (h : RdAt w B R sl dv data rest) (he : Eofs w B e0 e1) (h0 : 0 < rest.length) (hne : rest.length < m)
    (hU : blk w U cs 5) (ho : o + m ≤ cs.size) (hm2 : m ≤ 1000000) (hcap : m ≤ cap') (hUR : U ≠ R) (hUB : B ≤ U) :
    Calls Tryd.prog 77 #[rdV sl R, .slice (some ⟨U, o, none⟩) m cap', .int .i64 m] w fun e w' => e = .returned (.tuple #[.int .i64 rest.length, .iface 185 (.pointer (some e1))]) ∧
      RdAt w' B R sl dv data [] ∧ blk w' U (spl cs o (rest.map byteV)) 5 ∧ Chg (fun k => k = R ∨ k = U) w w' := by
  have H := hid h
  have HU := hid hU
  have He := hid he
  have Hlen := hid (show (rest.take m) = rest by rw [List.take_of_length_le (by omega)])
  have Hdr := hid (show (rest.drop m) = [] by rw [List.drop_eq_nil_of_le (by omega)])
  obtain ⟨n, hn⟩ : ∃ n, rest.length = n := ⟨_, rfl⟩
  have Hn := hid hn
  rw [hn] at h0 hne
  clear h hU he hn
  have eq0 := eof_same e0
  have n1 := nil_slow R
  have n2 := nil_fast R
  have hmc : ¬ cap' = n := by omega
  have hnm : n ≤ m := by omega
  cases sl
  all_goals
    simp only [rdV, if_true, if_false, Bool.false_eq_true]
    go_enter Tryd.func77, Tryd.ntmps77
    go_wp2
    refine wp_loop_rounds 3 ?_
    rw [rounds_succ]
    go_wp2
    refine wp_region_till (fun _ => True) 100 (by kernel_rfl) ?_
    refine wpTill_reads 6 [0, 1, 2, 3, 4, 5, 6] (by kernel_rfl) ?_ ?_ ?_
    · intro c a d v w h; cases d <;> exact h
    · trivial
    iterate 7 (refine wpReads_cons (v := ?_) rfl (yieldsIf_yes rfl fun w' hw => ?_) ?_; rotate_left; (first | (go_simp; done) | (go_simp; exact rfl)); simp only [Act.put, List.setIfInBounds_toArray, List.set_cons_zero, List.set_cons_succ, List.getElem_toArray, List.getElem_cons_zero, List.getElem_cons_succ])
    refine wpReads_nil ?_
    simp only [listAll]
    refine wpTill_one (i := 7) (by kernel_rfl) rfl rfl ?_
    intro K hK
    go_step
    go_upon
    refine (read_some B R U o m cap' cs _ dv data rest _ (H.out.chg ((Chg.refl (fun _ => False) w).drew) (fun e => e) (fun _ e => e.elim)) (by rw [Hn.out]; exact h0) HU.out ho (by omega) hm2 hUR hUB).mono ?_
    rintro e w1 ⟨rfl, hr, hu, hc⟩
    rw [Hlen.out, Hn.out]
    rw [Hlen.out] at hu
    rw [Hdr.out] at hr
    have HR := hid hr
    have HUu := hid hu
    have HC := hid (((Chg.refl _ w).drew).trans hc (fun _ _ e => e))
    have He1 := hid (He.out.chg HC.out (fun i hi => by have := H.out.own; omega))
    clear hr hu hc
    refine hK _ _ ⟨fun _ => trivial, ?_⟩
    clear hK K
    refine wpTill_reads 0 [8, 9, 10, 11, 12] (by kernel_rfl) ?_ trivial ?_
    · intro c a d v w h; cases d <;> exact h
    iterate 5 (refine wpReads_cons (v := ?_) rfl (yieldsIf_yes rfl fun w' hw => ?_) ?_; rotate_left; (first | (go_simp; done) | (go_simp; exact rfl)); simp only [Act.put, List.setIfInBounds_toArray, List.set_cons_zero, List.set_cons_succ, List.getElem_toArray, List.getElem_cons_zero, List.getElem_cons_succ])
    refine wpReads_nil ?_
    simp only [listAll]
    refine wpTill_done (by kernel_rfl) ?_ _
    go_wp2
    rw [rounds_succ]
    go_wp2
    refine wp_region_till (fun _ => True) 100 (by kernel_rfl) ?_
    refine wpTill_reads 6 [0, 1, 2, 3, 4, 5, 6] (by kernel_rfl) ?_ ?_ ?_
    · intro c a d v w h; cases d <;> exact h
    · trivial
    iterate 7 (refine wpReads_cons (v := ?_) rfl (yieldsIf_yes rfl fun w' hw => ?_) ?_; rotate_left; (first | (go_simp; done) | (go_simp; exact rfl)); simp only [Act.put, List.setIfInBounds_toArray, List.set_cons_zero, List.set_cons_succ, List.getElem_toArray, List.getElem_cons_zero, List.getElem_cons_succ])
    refine wpReads_nil ?_
    simp only [listAll]
    refine wpTill_one (i := 7) (by kernel_rfl) rfl rfl ?_
    intro K hK
    go_step
    go_upon
    refine (read_end B R _ dv data e0 e1 _ _ (HR.out.chg ((Chg.refl (fun _ => False) w1).drew) (fun e => e) (fun _ e => e.elim)) (He1.out.chg ((Chg.refl (fun _ => False) w1).drew) (fun _ e => e.elim))).mono ?_
    rintro e w2 ⟨rfl, k, rfl⟩
    refine hK _ _ ⟨fun _ => trivial, ?_⟩
    clear hK K
    refine wpTill_reads 0 [8, 9, 10, 11, 12] (by kernel_rfl) ?_ trivial ?_
    · intro c a d v w h; cases d <;> exact h
    iterate 5 (refine wpReads_cons (v := ?_) rfl (yieldsIf_yes rfl fun w' hw => ?_) ?_; rotate_left; (first | (go_simp; done) | (go_simp; exact rfl)); simp only [Act.put, List.setIfInBounds_toArray, List.set_cons_zero, List.set_cons_succ, List.getElem_toArray, List.getElem_cons_zero, List.getElem_cons_succ])
    refine wpReads_nil ?_
    simp only [listAll]
    refine wpTill_done (by kernel_rfl) ?_ _
    go_wp2
    rw [rounds_succ]
    have g0 : w1.cell? ⟨0, 0, none⟩ = some (.iface 185 (.pointer (some e0))) := He1.out.1
    have g1 : w1.cell? ⟨1, 0, none⟩ = some (.iface 185 (.pointer (some e1))) := He1.out.2.1
    go_wp2
    go_ret2
    refine ⟨by rw [Hn.out]; rfl, HR.out.chg ((Chg.refl (fun _ => False) w1).drewN _) (fun e => e) (fun _ e => e.elim), HUu.out, HC.out.drewN _⟩

theorem full_any {Q : Int → Value → World → Prop} {U o m cap' : Nat} {rv : Value} {w : World} (hm : m ≤ 1000000)
    (h : Calls Tryd.prog 77 #[rv, .slice (some ⟨U, o, none⟩) m cap', .int .i64 m] w fun e w' => ∃ n err, e = .returned (.tuple #[.int .i64 n, err]) ∧ Q n err w') :
    Calls Tryd.prog 71 #[rv, .slice (some ⟨U, o, none⟩) m cap'] w fun e w' => ∃ n err, e = .returned (.tuple #[.int .i64 n, err]) ∧ Q n err w' := by
  have H := hid h
  clear h
  go_enter Tryd.func71, Tryd.ntmps71
  go_wp2_with (go_at_call 77; refine (H.out).mono ?_; rintro e w' ⟨n, err, rfl, h⟩; replace h := hid h)
  go_ret2
  exact ⟨n, err, rfl, h.out⟩

theorem full_ok (B R U o m cap' : Nat) (cs : Array Value) (sl : Bool) (dv : Value) (data rest : List UInt8) (w : World) (h : RdAt w B R sl dv data rest) (hne : m ≤ rest.length)
    (hU : blk w U cs 5) (ho : o + m ≤ cs.size) (hm : 0 < m) (hm2 : m ≤ 1000000) (hcap : m ≤ cap') (hUR : U ≠ R) (hUB : B ≤ U) :
    Calls Tryd.prog 71 #[rdV sl R, .slice (some ⟨U, o, none⟩) m cap'] w fun e w' => e = .returned (.tuple #[.int .i64 m, .nilIface]) ∧
      RdAt w' B R sl dv data (rest.drop m) ∧ blk w' U (spl cs o ((rest.take m).map byteV)) 5 ∧ Chg (fun k => k = R ∨ k = U) w w' := by
  refine (full_any (Q := fun n err w' => n = (m : Int) ∧ err = .nilIface ∧ RdAt w' B R sl dv data (rest.drop m) ∧ blk w' U (spl cs o ((rest.take m).map byteV)) 5 ∧ Chg (fun k => k = R ∨ k = U) w w') hm2
    ((atleast_all B R U o m cap' cs sl dv data rest w h hne hU ho hm hm2 hcap hUR hUB).mono ?_)).mono ?_
  · rintro e w' ⟨rfl, h1⟩; exact ⟨_, _, rfl, rfl, rfl, h1⟩
  · rintro e w' ⟨n, err, rfl, rfl, rfl, h1⟩; exact ⟨rfl, h1⟩

theorem full_eof (B R U o m cap' : Nat) (cs : Array Value) (sl : Bool) (dv : Value) (data rest : List UInt8) (e0 e1 : Addr) (w : World) (h : RdAt w B R sl dv data rest) (he : Eofs w B e0 e1) (hne : rest.length < m)
    (hU : blk w U cs 5) (ho : o + m ≤ cs.size) (hm2 : m ≤ 1000000) (hcap : m ≤ cap') (hUR : U ≠ R) (hUB : B ≤ U) :
    Calls Tryd.prog 71 #[rdV sl R, .slice (some ⟨U, o, none⟩) m cap'] w fun e w' => ∃ n ea, e = .returned (.tuple #[.int .i64 n, .iface 185 (.pointer (some ea))]) ∧ (ea = e0 ∨ ea = e1) ∧
      RdAt w' B R sl dv data [] ∧ (∃ cs', cs'.size = cs.size ∧ blk w' U cs' 5) ∧ Chg (fun k => k = R ∨ k = U) w w' := by
  have key : Calls Tryd.prog 77 #[rdV sl R, .slice (some ⟨U, o, none⟩) m cap', .int .i64 m] w fun e w' => ∃ n err, e = .returned (.tuple #[.int .i64 n, err]) ∧ (∃ ea, err = .iface 185 (.pointer (some ea)) ∧ (ea = e0 ∨ ea = e1) ∧
      RdAt w' B R sl dv data [] ∧ (∃ cs', cs'.size = cs.size ∧ blk w' U cs' 5) ∧ Chg (fun k => k = R ∨ k = U) w w') := by
    by_cases h0 : rest = []
    · subst h0
      refine (atleast_none B R U o m cap' sl dv data e0 e1 w h he hne hm2 hcap).mono ?_
      rintro e w' ⟨rfl, k, rfl⟩
      exact ⟨_, _, rfl, _, rfl, .inl rfl, h.chg ((Chg.refl (fun _ => False) w).drewN _) (fun e => e) (fun _ e => e.elim), ⟨cs, rfl, hU⟩, (Chg.refl _ w).drewN _⟩
    · refine (atleast_part B R U o m cap' cs sl dv data rest e0 e1 w h he (List.length_pos_iff.2 h0) hne hU ho hm2 hcap hUR hUB).mono ?_
      rintro e w' ⟨rfl, h1, h2, h3⟩
      exact ⟨_, _, rfl, _, rfl, .inr rfl, h1, ⟨_, spl_size _ _ _, h2⟩, h3⟩
  refine (full_any (Q := fun _ err w' => ∃ ea, err = .iface 185 (.pointer (some ea)) ∧ (ea = e0 ∨ ea = e1) ∧
      RdAt w' B R sl dv data [] ∧ (∃ cs', cs'.size = cs.size ∧ blk w' U cs' 5) ∧ Chg (fun k => k = R ∨ k = U) w w') hm2 key).mono ?_
  rintro e w' ⟨n, err, rfl, ea, rfl, h1⟩
  exact ⟨n, ea, rfl, h1⟩
end Go.Proofs.YtkhicabfmkldpaaDoor
