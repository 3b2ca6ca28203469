/-
  vmAwake, vmBeside: the machine does what the specification's does.
  What the row's list of variables gives: the sentinels of io; a world for the witness.
-/
import Derived.Test.YtkhicabfmkldpaaDoorMakerI
import Derived.Test.YtkhicabfmkldpaaDoorSpecLevel
import Derived.Test.YtkhicabfmkldpaaDoorNotings
import Derived.Test.YtkhicabfmkldpaaDoorVmruns
import Derived.Test.YtkhicabfmkldpaaDoorCards
import Derived.Test.YtkhicabfmkldpaaDoorTie
import Derived.Deep.DeepHandedRow
import Derived.Deep.DeepWitnessRowRef
import Derived.Lib.LaidIn
import Derived.Stop.LaidErr
import Derived.ProofKit
import Derived.OpenShut
set_option linter.unusedSimpArgs false
set_option linter.unusedVariables false
namespace Go.Proofs.YtkhicabfmkldpaaDoor
open Go Go.RowKit

def awakeIns : List (Nat × Int) := [(2, 2), (0, 3), (1, 3), (3, 0), (10, 0)]
def awakeNotes : List Note := [⟨nmGet, 2, ⟨#[]⟩, 0⟩, ⟨nmSetInt, -3, ⟨#[]⟩, 1⟩, ⟨nmFinalize, 0, ⟨#[]⟩, 1⟩]

theorem awake_lev : lev 9 awakeIns 3000 regs0 0 0 (-1) false false (st0 [5, 9] 3000) = ⟨5, [9], awakeNotes, 1, 2995, 0, false, false⟩ := by kernel_rfl

theorem awake_asked : Asked awakeIns [5, 9] := by
  refine ⟨by show 0 < 5; omega, by show 5 ≤ 100000; omega, ?_, ?_, by decide⟩
  · intro i op x h
    match i, h with
    | 0, h => cases h; omega
    | 1, h => cases h; omega
    | 2, h => cases h; omega
    | 3, h => cases h; omega
    | 4, h => cases h; omega
    | i + 5, h => simp [awakeIns] at h
  · intro i x h
    match i, h with
    | 0, h => cases h
    | 1, h => cases h
    | 2, h => cases h
    | 3, h => cases h
    | 4, h => cases h
    | i + 5, h => simp [awakeIns] at h

theorem awake_halts (i : Nat) (x : Int) (h : awakeIns[i]? = some (10, x)) : 0 ≤ x ∧ x ≤ ([] : List ByteArray).length := by
  match i, h with
  | 0, h => cases h
  | 1, h => cases h
  | 2, h => cases h
  | 3, h => cases h
  | 4, h => cases h; exact ⟨by omega, by show (0 : Int) ≤ 0; omega⟩
  | i + 5, h => simp [awakeIns] at h

theorem rdB_two {w : World} {b : Nat} (x y : UInt8) (h : blk w b #[.int .u8 x.toNat, .int .u8 y.toNat] 5) : RdB w (.slice (some ⟨b, 0, none⟩) 2 2) [x, y] := by
  refine .inr ⟨b, 0, 2, rfl, Nat.le_refl _, by unfold maxLen; omega, fun i hi => ?_⟩
  match i, hi with
  | 0, _ => exact h.cell 0 rfl
  | 1, _ => exact h.cell 1 rfl

theorem Sent.keep {w w' : World} {e0 e1 : Addr} (h : Sent w w.heap.size e0 e1) (hc : Chg (fun _ => False) w w') : Sent w' w'.heap.size e0 e1 := h.up (hc.mono (fun _ _ e => e.elim)) hc.size

set_option maxHeartbeats 1000000 in
set_option maxRecDepth 100000 in
theorem awake_walk (e0 e1 : Addr) (w : World) (hS : Sent w w.heap.size e0 e1) :
    Calls Tryd.prog 12 #[] w fun e w' => e = .returned (.bool true) ∧ Chg (fun _ => False) w w' := by
  have HS := hid hS
  clear hS
  have hL := hid awake_lev
  have hA := hid awake_asked
  have hH := hid awake_halts
  go_enter Tryd.func12, Tryd.ntmps12
  go_wp2_with (first | (go_at_call 14; refine (same_any v' _ _ awakeNotes _ (Hca.out.1.chg ((Chg.refl (fun _ => False) w1).alloc _) (fun _ _ e => e)) (callsAt_blk (blk_new _ _ _) rfl rfl (by show 3 ≤ 1000000; omega)) (by show 3 ≤ 1000000; omega) (by show 3 ≤ 1000000; omega)).mono ?_; rintro e w2 ⟨bb, rfl, hbb, kk, rfl⟩; (have hbt : bb = true := hbb.2 rfl); subst hbt; clear hbb) | (go_at_call 13; refine (vmrun false awakeIns [] [5, 9] _ _ _ e0 e1 9 _ _ hA.out (inAt_blk (cs := #[.int .i64 2, .int .i64 2, .int .i64 0, .int .i64 3, .int .i64 1, .int .i64 3, .int .i64 3, .int .i64 0, .int .i64 10, .int .i64 0]) ((blk_new _ _ _).alloc _) rfl rfl) (.inl ⟨rfl, rfl⟩) (fun q s h => by simp at h) hH.out (rdB_two 5 9 (blk_new' (by simp) _ _)) (fun g hg => by simp [Value.ownBlock] at hg; simp; omega) (HS.out.up (((Chg.refl _ w).alloc _).alloc _) (by simp; omega)) hL.out ⟨rfl, by show 0 < 2995; omega, rfl⟩).mono ?_; rintro e w1 ⟨v', rest', why, rfl, hca, hown, hre, hwhy, hch⟩; (have hr9 : rest' = [9] := hre rfl); subst hr9; (have hw0 : why = ⟨#[]⟩ := hwhy.1 rfl); subst hw0; have Hca := hid (And.intro hca (And.intro hown hch)); clear hca hown hre hwhy hch))
  go_ret
  exact ⟨rfl, (((((Chg.refl (fun _ => False) w).alloc _).alloc _).trans Hca.out.2.2 (fun _ _ e => e)).alloc _).drewN _⟩

theorem InAt.spIn {w : World} {v : Value} {l : List (Nat × Int)} (h : InAt w v l) : SpIn w v l := .inr h

theorem callsOk_of {ins : List (Nat × Int)} {data : List UInt8} (h : Asked ins data) : CallsOk ins := h.calls

set_option maxHeartbeats 1000000 in
set_option maxRecDepth 100000 in
theorem beside (ins : List (Nat × Int)) (data : List UInt8) (sl : Bool) (iv dv : Value) (e0 e1 : Addr) (w : World) (hA : Asked ins data) (hH : ∀ (i : Nat) (x : Int), ins[i]? = some (10, x) → x = 0) (hI : InAt w iv ins) (hIo : ∀ g, iv.ownBlock = some g → g < w.heap.size) (hD : RdB w dv data) (hDo : ∀ g, dv.ownBlock = some g → g < w.heap.size) (hS : Sent w w.heap.size e0 e1)
    (hv : (lev 9 ins 3000 regs0 0 0 (-1) false false (st0 data 3000)).viol = false) (hbad : (lev 9 ins 3000 regs0 0 0 (-1) false false (st0 data 3000)).bad ≤ 1) :
    Calls Tryd.prog 19 #[iv, .slice none 0 0, dv, .bool sl] w fun e w' => e = .returned (.bool true) ∧ Chg (fun _ => False) w w' := by
  obtain ⟨s', hs'⟩ : ∃ s', lev 9 ins 3000 regs0 0 0 (-1) false false (st0 data 3000) = s' := ⟨_, rfl⟩
  rw [hs'] at hv hbad
  have hlat := lev_later 9 ins 3000 regs0 0 0 (-1) false false (st0 data 3000)
  rw [hs'] at hlat
  have hnl : s'.notes.length ≤ 1000000 := by have h1 := hlat.notes; have h2 : (st0 data 3000).notes.length + 3 * (st0 data 3000).left = 9000 := rfl; omega
  have hspec := hid (vmruns ins data iv dv w hI.spIn hIo hD hDo (callsOk_of hA) hA.n2 hA.data s' hs')
  have HS := hid hS
  have HA := hid hA
  have HH := hid hH
  have HI := hid hI
  have HD := hid hD
  have HDo := hid hDo
  have Hs' := hid hs'
  clear hA hH hI hIo hD hDo hS hs' hlat
  by_cases his : s'.odd = false ∧ 0 < s'.left
  · obtain ⟨ho, hl⟩ := his
    have hist : (!s'.odd && decide (0 < s'.left)) = true := by rw [ho]; simp [hl]
    have hG : Good s' := ⟨ho, hl, hv⟩
    have HG := hid hG
    clear hG
    by_cases hb : s'.bad = 0
    · go_enter Tryd.func19, Tryd.ntmps19
      go_wp2_with (first | (go_at_call 12; refine (awake_walk e0 e1 _ ((HS.out.keep Hc1.out).keep ((Hca.out.2).drewN _))).mono ?_; rintro e w4 ⟨rfl, hc4⟩; replace hc4 := hid hc4) | (go_at_call 14; refine (same_any v' nv s'.notes s'.notes _ Hca.out.1 (Hnc.out.chg Hca.out.2 (fun _ _ e => e)) hnl hnl).mono ?_; rintro e w3 ⟨bb, rfl, hbb, kk, rfl⟩; (have hbt : bb = true := hbb.2 rfl); subst hbt; clear hbb) | (go_at_call 13; refine (vmrun sl ins [] data iv _ dv e0 e1 9 s' _ HA.out (HI.out.chg Hc1.out) (.inl ⟨rfl, rfl⟩) (fun q s h => by simp at h) (fun i x h => by rw [HH.out i x h]; exact ⟨Int.le_refl _, Int.le_refl _⟩) (HD.out.chg Hc1.out (fun _ _ _ e => e)) (fun g hg => Nat.lt_of_lt_of_le (HDo.out g hg) Hc1.out.size) (HS.out.keep Hc1.out) Hs'.out HG.out).mono ?_; rintro e w2 ⟨v', rest', why, rfl, hca, hown, hre, hwhy, hch⟩; (have hr9 : rest' = s'.rest := hre hb); subst hr9; (have hw0 : why = ⟨#[]⟩ := hwhy.1 hb); subst hw0; have Hca := hid (And.intro hca hch); have hbt : decide (s'.bad = 0) = true := decide_eq_true hb; rw [hbt]; clear hca hown hre hwhy hch) | (go_at_call 11; refine (hspec.out).mono ?_; rintro e w1 ⟨nv, n, fine, rfl, hnc, hno, hfi, hnr, hc1⟩; (have hf : fine = true := (hfi ho).trans (decide_eq_true hb)); subst hf; (have hn : n = s'.rest.length := hnr ho hb); subst hn; rw [hist]; have Hnc := hid hnc; have Hc1 := hid hc1; clear hnc hno hfi hnr hc1))
      go_ret
      exact ⟨rfl, ((Hc1.out.trans Hca.out.2 (fun _ _ e => e)).drewN _).trans hc4.out (fun _ _ e => e)⟩
    · go_enter Tryd.func19, Tryd.ntmps19
      go_wp2_with (first | (go_at_call 12; refine (awake_walk e0 e1 _ ((HS.out.keep Hc1.out).keep ((Hca.out.2).drewN _))).mono ?_; rintro e w4 ⟨rfl, hc4⟩; replace hc4 := hid hc4) | (go_at_call 14; refine (same_any v' nv s'.notes s'.notes _ Hca.out.1 (Hnc.out.chg Hca.out.2 (fun _ _ e => e)) hnl hnl).mono ?_; rintro e w3 ⟨bb, rfl, hbb, kk, rfl⟩; (have hbt : bb = true := hbb.2 rfl); subst hbt; clear hbb) | (go_at_call 13; refine (vmrun sl ins [] data iv _ dv e0 e1 9 s' _ HA.out (HI.out.chg Hc1.out) (.inl ⟨rfl, rfl⟩) (fun q s h => by simp at h) (fun i x h => by rw [HH.out i x h]; exact ⟨Int.le_refl _, Int.le_refl _⟩) (HD.out.chg Hc1.out (fun _ _ _ e => e)) (fun g hg => Nat.lt_of_lt_of_le (HDo.out g hg) Hc1.out.size) (HS.out.keep Hc1.out) Hs'.out HG.out).mono ?_; rintro e w2 ⟨v', rest', why, rfl, hca, hown, hre, hwhy, hch⟩; (have hw0 : why = ⟨#[101, 111, 102]⟩ := hwhy.2.1 (by omega)); subst hw0; have Hca := hid (And.intro hca hch); have hbt : decide (s'.bad = 0) = false := decide_eq_false hb; rw [hbt]; clear hca hown hre hwhy hch) | (go_at_call 11; refine (hspec.out).mono ?_; rintro e w1 ⟨nv, n, fine, rfl, hnc, hno, hfi, hnr, hc1⟩; (have hf : fine = false := (hfi ho).trans (decide_eq_false hb)); subst hf; rw [hist]; have Hnc := hid hnc; have Hc1 := hid hc1; clear hnc hno hfi hnr hc1))
      go_ret
      exact ⟨rfl, ((Hc1.out.trans Hca.out.2 (fun _ _ e => e)).drewN _).trans hc4.out (fun _ _ e => e)⟩
  · have hist : (!s'.odd && decide (0 < s'.left)) = false := by
      cases ho : s'.odd with
      | true => rfl
      | false =>
        have : ¬ 0 < s'.left := fun h => his ⟨ho, h⟩
        simp [this]
    clear his
    go_enter Tryd.func19, Tryd.ntmps19
    go_wp2_with (first | (go_at_call 12; refine (awake_walk e0 e1 _ (HS.out.keep Hc1.out)).mono ?_; rintro e w4 ⟨rfl, hc4⟩; replace hc4 := hid hc4) | (go_at_call 11; refine (hspec.out).mono ?_; rintro e w1 ⟨nv, n, fine, rfl, hnc, hno, hfi, hnr, hc1⟩; rw [hist]; have Hc1 := hid hc1; clear hnc hno hfi hnr hc1))
    go_ret
    exact ⟨rfl, Hc1.out.trans hc4.out (fun _ _ e => e)⟩

theorem fit_asked {l : List (Nat × Int)} {data : List UInt8} (h : Fit l) (hl : 0 < l.length) (hd : data.length ≤ 100000) : Asked l data :=
  ⟨hl, by have := h.size; omega, fun i op x hi => by have := h.vals i op x hi; omega, fun i x hi => (h.vals i 8 x hi).2.2.2.2 rfl, hd⟩

theorem InAt.lt {w : World} {v : Value} {l : List (Nat × Int)} (h : InAt w v l) (hl : 0 < l.length) : ∀ g, v.ownBlock = some g → g < w.heap.size := by
  obtain ⟨b, off, cap, rfl, h1⟩ := h
  intro g hg
  simp [Value.ownBlock] at hg
  obtain ⟨o, ho⟩ : ∃ o, l[0]? = some o := ⟨_, List.getElem?_eq_getElem hl⟩
  have h2 := (h1 0 o.1 o.2 ho).1
  have h3 := World.block_lt_of_cell? w _ h2
  simp at h3
  omega

set_option maxHeartbeats 1000000 in
set_option maxRecDepth 100000 in
/-- FnVMRuns: the law's walk. -/
theorem runs_walk (a0 : Option Addr) (n0 : Nat) (code : List UInt8) (a1 : Option Addr) (n1 : Nat) (data : List UInt8) (sl : Bool) (e0 e1 : Addr) (w : World) (h0 : RdB w (.slice a0 code.length n0) code) (h0o : ∀ b, (Value.slice a0 code.length n0).ownBlock = some b → b < w.heap.size) (h1 : RdB w (.slice a1 data.length n1) data) (h1o : ∀ b, (Value.slice a1 data.length n1).ownBlock = some b → b < w.heap.size) (hS : Sent w w.heap.size e0 e1) :
    Calls Tryd.prog 7 #[.slice a0 code.length n0, .slice a1 data.length n1, .bool sl] w fun e w' => e = .returned (.bool true) ∧ Chg (fun _ => False) w w' := by
  obtain ⟨ctx, hN, hctx, hF, hpos⟩ := prog_ok code
  have hA := hid (fit_asked (data := data.take 200) hF hpos (by rw [List.length_take]; omega))
  have hH := hid (fun (i : Nat) (x : Int) (h : (progOf code)[i]? = some (10, x)) => (hF.vals i 10 x h).2.2.2.1 rfl)
  have hv := hid (show (lev 9 (progOf code) 3000 regs0 0 0 (-1) false false (st0 (data.take 200) 3000)).viol = false from prog_viol code (data.take 200) 3000 3000)
  have hb := hid (show (lev 9 (progOf code) 3000 regs0 0 0 (-1) false false (st0 (data.take 200) 3000)).bad ≤ 1 from prog_bad code (data.take 200) 3000 3000)
  have hprog := hid (prog_any a0 n0 code w h0 h0o)
  have hfr := hid (rdB_front h1 200)
  have hfo := hid (show ∀ g, (Value.slice a1 (min data.length 200) n1).ownBlock = some g → g < w.heap.size from fun g hg => h1o g (by cases a1 with | none => simp [Value.ownBlock] at hg | some x => exact hg))
  have H1 := hid h1
  have HS := hid hS
  obtain ⟨c0, c0b⟩ := rdB_cap h0
  obtain ⟨c1, c1b⟩ := rdB_cap h1
  obtain ⟨m0, hm0⟩ : ∃ m, code.length = m := ⟨_, rfl⟩
  obtain ⟨m1, hm1⟩ : ∃ m, data.length = m := ⟨_, rfl⟩
  have Hm1 := hid hm1
  have Hpos := hid hpos
  rw [hm1] at hfr hfo
  rw [hm0] at hprog c0 ⊢
  rw [hm1] at c1 ⊢
  clear hN hctx hF hpos h0 h0o h1 h1o hS hm0 hm1 ctx
  by_cases g0 : (2147483647 : Int) < (m0 : Int)
  · go_enter Tryd.func7, Tryd.ntmps7
    go_wp2
    go_ret
    exact ⟨rfl, Chg.refl _ w⟩
  by_cases g1 : (2147483647 : Int) < (m1 : Int)
  · go_enter Tryd.func7, Tryd.ntmps7
    go_wp2
    go_ret
    exact ⟨rfl, Chg.refl _ w⟩
  go_enter Tryd.func7, Tryd.ntmps7
  go_wp2_with (first | (go_at_call 19; refine (beside (progOf code) (data.take 200) sl iv1 _ e0 e1 _ hA.out hH.out r1.out (fun g hg => r2.out g hg) (hfr.out.chg r3.out (fun _ _ _ e => e)) (fun g hg => Nat.lt_of_lt_of_le (hfo.out g hg) r3.out.size) (HS.out.keep r3.out) hv.out hb.out).mono ?_; rintro e w3 ⟨rfl, q⟩; replace q := hid q) | (go_at_call 10; refine ((show Calls Tryd.prog 10 #[.slice a1 m1 n1] w1 _ from Hm1.out ▸ data_any a1 n1 data w1 (H1.out.chg r3.out (fun _ _ _ e => e)))).mono ?_; rintro e w2 ⟨rfl, rfl⟩) | (go_at_call 9; refine (hprog.out).mono ?_; rintro e w1 ⟨iv1, rfl, r1, r2, r3⟩; replace r1 := hid r1; replace r2 := hid (r1.out.lt Hpos.out); replace r3 := hid r3))
  go_ret
  exact ⟨rfl, r3.out.trans q.out (fun _ _ e => e)⟩
end Go.Proofs.YtkhicabfmkldpaaDoor

namespace Go.Proofs.YtkhicabfmkldpaaDoor
open Go Go.RowKit Go.ChangeShapes Go.WideShapes Go.ChangeAt

theorem Tryd.own : ownKnob Tryd.prog.godebug = none := by kernel_rfl
theorem Tryd.laidOut : laidOutB Tryd.prog = true := by kernel_rfl
theorem Tryd.star : "*" ++ "errors.errorString" = "*errors.errorString" := by decide
theorem Tryd.row185 (u : TypeId) (h : Tryd.prog.typeName? 3 u = some "*errors.errorString") : u = 185 :=
  typeName_ptr_named (nm := "errors.errorString") (by rw [Tryd.star]; kernel_rfl) (by kernel_rfl) (by decide) u (by rw [Tryd.star]; exact h)

theorem laid_sentinel2 {P : Program} {n nm : String} {text : List UInt8} {r : List (String × DataW Unit)} {W : World} {g : Nat} {ti tp te ts : TypeId} {ms : Array (String × TypeId)} {f : Field}
    (h : laidMet P ((n, .iface nm (.ptr (.agg [.lit (.string text)]))) :: r) W)
    (hg : P.globalNamed n = some g) (ht : (P.globals[g]?).map (·.type) = some ti) (hi : P.underlying ti = some (.interface ms)) (hrow : ∀ u, P.typeName? 3 u = some nm → u = tp)
    (hp : P.underlying tp = some (.pointer te)) (he : P.underlying te = some (.struct #[f])) (hft : f.type = ts) (hfo : f.offset = 0) (hs : P.underlying ts = some .string) (hc : P.cellsOf te = 1) (hcs : P.cellsOf ts = 1) :
    ∃ (a : Addr) (s : ByteArray), W.cell? ⟨g, 0, none⟩ = some (.iface tp (.pointer (some a))) ∧ W.cell? a = some (.string s) ∧ s.data.toList = text ∧ ∃ c t, W.heap[a.block]? = some (.cells c t (0, 0)) := by
  obtain ⟨ps, ⟨g0, t0, cs0, f0, p0, q0, hg0, ht0, hv0, hd0, _, e0⟩, _, hrows⟩ := h
  obtain rfl := Option.some.inj (hg.symm.trans hg0)
  obtain rfl := Option.some.inj (ht.symm.trans ht0)
  subst e0
  obtain ⟨l0⟩ := cs0
  have ok0 : ∀ u v, l0 = [.iface u v] → Value.okWide P W .any 0 u v := fun u v e => by
    subst e
    exact (hrows g 0 (by simp [MemPlace.row])).2 u v (by simpa using World.var?_cell hg0 hv0 0)
  obtain ⟨a0, s0, rfl, hc0, hs0, hz0, hp0⟩ := errorString_of_trod hi hrow hp he hft hfo hs hc hcs hd0 ok0
  refine ⟨a0, s0, by simpa using World.var?_cell hg0 hv0 0, hc0, hs0, ?_⟩
  subst hp0
  obtain ⟨b, o, sp⟩ := a0
  have hsp : sp = none := World.cell?_spot hc0
  subst hsp
  exact (hrows b o (List.mem_append_left _ (List.mem_append_right _ (MemPlace.mem_row.2 ⟨0, by omega, by simp⟩)))).1

theorem sent_of_laid {W : World} (h : laidMetH Tryd.prog Rows.fnVMLongsRow.laid W) : ∃ e0 e1, Sent W W.heap.size e0 e1 := by
  have h0 : laidMet Tryd.prog [("io.ErrShortBuffer", Rows.laid_io_ErrShortBuffer), ("io.EOF", Rows.laid_io_EOF), ("io.ErrUnexpectedEOF", Rows.laid_io_ErrUnexpectedEOF)] W := h
  obtain ⟨a4, t4, v4, c4, s4, f4⟩ := laid_sentinel2 (g := 4) h0 (by kernel_rfl) (by kernel_rfl) Tryd.underlying82 Tryd.row185 Tryd.underlying185 (Tryd.underlying204) rfl rfl Tryd.underlying9 (by kernel_rfl) (by kernel_rfl)
  obtain ⟨a0, t0, v0, c0, s0, f0⟩ := laid_sentinel2 (g := 0) h0.tail (by kernel_rfl) (by kernel_rfl) Tryd.underlying82 Tryd.row185 Tryd.underlying185 (Tryd.underlying204) rfl rfl Tryd.underlying9 (by kernel_rfl) (by kernel_rfl)
  obtain ⟨a1, t1, v1, c1, s1, f1⟩ := laid_sentinel2 (g := 1) h0.tail.tail (by kernel_rfl) (by kernel_rfl) Tryd.underlying82 Tryd.row185 Tryd.underlying185 (Tryd.underlying204) rfl rfl Tryd.underlying9 (by kernel_rfl) (by kernel_rfl)
  have l4 := World.block_lt_of_cell? W _ v4
  simp only [] at l4
  refine ⟨a0, a1, ⟨v0, v1, l4⟩, ?_, f0, f1, World.block_lt_of_cell? W _ c0, World.block_lt_of_cell? W _ c1⟩
  rintro rfl
  rw [c0] at c1
  cases c1
  rw [s0] at s1
  exact absurd s1 (by decide)

/-- A world for the witness: the three sentinels laid. -/
noncomputable def laidWorld (os : Os) : World :=
  let N := (World.settled Tryd.prog os).heap.size
  let w0 := World.holding Tryd.prog os ⟨#[.cells #[.string ⟨#[115, 104, 111, 114, 116, 32, 98, 117, 102, 102, 101, 114]⟩] 204, .cells #[.string ⟨#[69, 79, 70]⟩] 204, .cells #[.string ⟨#[117, 110, 101, 120, 112, 101, 99, 116, 101, 100, 32, 69, 79, 70]⟩] 204], #[], []⟩
  let put (h : Array Obj) (g : Nat) (cs : Array Value) : Array Obj := h.modify g fun
    | .cells _ t frozen => .cells cs t frozen
    | o => o
  let h1 := put w0.heap 4 #[.iface 185 (.pointer (some ⟨N, 0, none⟩))]
  let h2 := put h1 0 #[.iface 185 (.pointer (some ⟨N + 1, 0, none⟩))]
  let h3 := put h2 1 #[.iface 185 (.pointer (some ⟨N + 2, 0, none⟩))]
  { w0 with heap := h3 }

noncomputable abbrev N0 : Nat := (World.settled Tryd.prog default).heap.size
theorem laid_in (os : Os) (args : Array Value) : LaidIn Tryd.prog ((laidWorld os).forCall (fun _ _ => 0) ⟨#[], args, []⟩).memory [("io.ErrShortBuffer", Rows.laid_io_ErrShortBuffer), ("io.EOF", Rows.laid_io_EOF), ("io.ErrUnexpectedEOF", Rows.laid_io_ErrUnexpectedEOF)] [4, N0, 0, N0 + 1, 1, N0 + 2] :=
  LaidIn.of_run [4, N0, 0, N0 + 1, 1, N0 + 2] 8 (by kernel_rfl) (by kernel_rfl) (by kernel_rfl) (by kernel_rfl)
theorem laid_met (os : Os) (args : Array Value) : laidMet Tryd.prog Rows.fnVMLongsRow.laid ((laidWorld os).forCall (fun _ _ => 0) ⟨#[], args, []⟩).memory := (laid_in os args).met
end Go.Proofs.YtkhicabfmkldpaaDoor
