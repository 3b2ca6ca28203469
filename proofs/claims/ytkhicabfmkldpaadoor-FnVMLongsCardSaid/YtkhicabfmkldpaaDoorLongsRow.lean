/-
  FnVMLongs: for every four numbers of 16 bits the law returns true: its row, and its card.
-/
import Derived.Test.YtkhicabfmkldpaaDoorLongs
import Derived.Test.YtkhicabfmkldpaaDoorLaid
set_option linter.unusedSimpArgs false
set_option linter.unusedVariables false
namespace Go.Proofs.YtkhicabfmkldpaaDoor
open Go Go.RowKit Go.ChangeShapes Go.WideShapes Go.ChangeAt

theorem i16_bounds {a : Int} (h : (Lit.int .i16 a).wf = true) : -32768 ≤ a ∧ a ≤ 32767 := by
  have e1 : IntKind.i16.min = -32768 := rfl
  have e2 : IntKind.i16.max = 32767 := rfl
  simp [Lit.wf, e1, e2] at h
  omega

set_option maxRecDepth 100000 in
theorem longs_contract (H : Type) (enc : TypeId × Value → H) (W : World) (base : Nat) (args : Array Value) (ds gs : List (DataW H)) (before : List MemPlace)
    (hval : ∀ (j : Nat) t v, Tryd.f6.params[j]? = some t → args[j]? = some v → Value.okWide Tryd.prog W .any base t v)
    (hW : DataW.Whole enc Tryd.prog Tryd.f6.params.toList Rows.fnVMLongsSpec.vars false W args.toList ds gs before) (hL : laidMetH Tryd.prog Rows.fnVMLongsRow.laid W) :
    Calls Tryd.prog 6 args W fun e W' => ∃ v, e = .returned v ∧ Rows.fnVMLongsSpec.post enc Tryd.prog Tryd.f6 false true false false W args v W' := by
  have hW' := hW
  obtain ⟨p, q, hA0, hV, rfl, hfz, hnd⟩ := hW
  have hA : DataW.TrodAll enc Tryd.prog W 0 (fun _ => true) true Tryd.f6.params.toList args.toList ds p := hA0
  rw [Tryd.params6] at hA hval
  obtain ⟨v0, vs0, d0, ds0, p0, q0, ha0, rfl, rfl, h0, r0⟩ := trodAll_cons hA
  obtain ⟨v1, vs1, d1, ds1, p1, q1, ha1, rfl, rfl, h1, r1⟩ := trodAll_cons r0
  obtain ⟨v2, vs2, d2, ds2, p2, q2, ha2, rfl, rfl, h2, r2⟩ := trodAll_cons r1
  obtain ⟨v3, vs3, d3, ds3, p3, q3, ha3, rfl, rfl, h3, r3⟩ := trodAll_cons r2
  obtain ⟨rfl, rfl, rfl⟩ := trodAll_nil r3
  obtain rfl : args = #[v0, v1, v2, v3] := by cases args; simp_all
  obtain ⟨rfl, rfl⟩ := trodVars_none hV
  obtain ⟨a, rfl, rfl, rfl, wa⟩ := open_int Tryd.underlying49 (hval 0 49 v0 rfl rfl) h0
  obtain ⟨b, rfl, rfl, rfl, wb⟩ := open_int Tryd.underlying49 (hval 1 49 v1 rfl rfl) h1
  obtain ⟨c, rfl, rfl, rfl, wc⟩ := open_int Tryd.underlying49 (hval 2 49 v2 rfl rfl) h2
  obtain ⟨d, rfl, rfl, rfl, wd⟩ := open_int Tryd.underlying49 (hval 3 49 v3 rfl rfl) h3
  clear hA0
  simp only [List.append_nil] at hW'
  obtain ⟨e0, e1, hS⟩ := sent_of_laid hL
  have ha : -32768 ≤ a ∧ a ≤ 32767 := i16_bounds wa
  have hb : -32768 ≤ b ∧ b ≤ 32767 := i16_bounds wb
  have hc : -32768 ≤ c ∧ c ≤ 32767 := i16_bounds wc
  have hd : -32768 ≤ d ∧ d ≤ 32767 := i16_bounds wd
  refine (longs_walk a b c d ha hb hc hd e0 e1 W hS).mono fun e W' ⟨he, hg⟩ => ?_
  subst he
  have hbel : Below W.heap.size W W' := hg.below (fun _ e => e.elim) (Nat.le_refl _)
  exact ⟨_, rfl, _, _, _, [], _, [], hW', trodAll_mk1 (shut_bool Tryd.underlying4 true), trodAll_cons_mk (shut_int Tryd.underlying49 wa) (trodAll_cons_mk (shut_int Tryd.underlying49 wb) (trodAll_cons_mk (shut_int Tryd.underlying49 wc) (trodAll_cons_mk (shut_int Tryd.underlying49 wd) trodAll_mk0))), rfl, hbel.frame _, fun h => by cases h⟩

theorem longs_reads (os : Os) {H : Type} (enc : TypeId × Value → H) : ∃ places, DataW.whole enc Tryd.prog ((laidWorld os).forCall (fun _ _ => 0) ⟨#[], #[.int .i16 0, .int .i16 0, .int .i16 0, .int .i16 0], []⟩).memory Tryd.f6.params.toList Rows.fnVMLongsSpec.vars false #[Value.int .i16 0, Value.int .i16 0, Value.int .i16 0, Value.int .i16 0].toList 8 = some ([.lit (.int .i16 0), .lit (.int .i16 0), .lit (.int .i16 0), .lit (.int .i16 0)], [], places) :=
  ⟨[], by kernel_rfl⟩

set_option maxRecDepth 100000 in
theorem longs_lifted (os : Os) (started : os.Started) (H : Type) (enc : TypeId × Value → H) (F : Stop.Interp) :
    ReturnsInHanded {} Tryd.checked os 6 .any ((OpenSpec.ofChange Rows.fnVMLongsSpec).preRow enc Tryd.prog Tryd.f6 Rows.fnVMLongsRow.domain false Rows.fnVMLongsRow.laid) (((OpenSpec.ofChange Rows.fnVMLongsSpec).at F).post enc Tryd.prog Tryd.f6 false true false false) := by
  obtain ⟨places, hx⟩ := longs_reads os enc
  refine returnsInHanded_of_row (C := Tryd.checked) (s := OpenSpec.ofChange Rows.fnVMLongsSpec) Tryd.own started (by kernel_rfl) Tryd.func6
    (witness_row_atRef (enc := enc) (C := Tryd.checked) false (laidWorld os) #[.int .i16 0, .int .i16 0, .int .i16 0, .int .i16 0] rfl (by kernel_rfl) (by kernel_rfl) (by kernel_rfl)
      (OpenSpec.preRow_of_cond 8 hx (by kernel_rfl) (fun k hk => by cases hk) (by kernel_rfl) (laid_met os _))) ?_
  intro W base args ds gs before hval hW _ _ _ hL _ _
  exact longs_contract H enc W base args ds gs before hval hW hL

theorem longs_said : Rows.FnVMLongsSaid :=
  OpenClaim.holds_of_cond 6 Tryd.f6 rfl rfl rfl rfl rfl rfl rfl ⟨rfl, rfl, rfl, rfl, rfl⟩ rfl rfl rfl rfl rfl (by kernel_rfl) Tryd.func6 (by kernel_rfl)
    (of_decide_eq_true (by kernel_rfl)) (by unfold Func.isWrapper; first | (rw [if_pos (by decide +kernel)]; kernel_rfl) | (rw [if_neg (by decide +kernel)]; exact ⟨rfl, rfl⟩))
    (fun os started H enc _ F => by rw [OpenClaim.pre_eq_preRow]; exact longs_lifted os started H enc F)

theorem longs_plain (f : FuncId) (fn : Func) (hf : Tryd.pinned.checked.prog.funcNamed "given.example/pub-tinsmith/laws.FnVMLongs" = some f) (hfn : Tryd.pinned.checked.prog.funcs[f]? = some fn) :
    true = Tryd.pinned.checked.prog.looks [] ∧ ∀ (j : Nat) t, fn.params[j]? = some t → Tryd.pinned.checked.prog.wantsStandIn t = false := by
  obtain rfl : f = 6 := Option.some.inj ((show Tryd.prog.funcNamed "given.example/pub-tinsmith/laws.FnVMLongs" = some 6 by kernel_rfl).symm.trans hf) |>.symm
  obtain rfl : fn = Tryd.f6 := (Option.some.inj (Tryd.func6.symm.trans hfn)).symm
  refine ⟨by kernel_rfl, fun j t ht => ?_⟩
  rw [Tryd.params6] at ht
  obtain rfl : t = 49 := by simpa using Array.mem_of_getElem? ht
  exact (show Tryd.prog.wantsStandIn 49 = false by kernel_rfl)

theorem longs_card : Rows.FnVMLongsCardSaid :=
  Claim7.holds_tied_plain_at .later [] _ _ _ _ longs_said (fun _ h => by cases h) (by kernel_rfl) (fun _ h => by cases h) fnVMLongs_row_tie rfl ⟨rfl, rfl⟩ (by kernel_rfl) rfl longs_plain (by kernel_rfl)
end Go.Proofs.YtkhicabfmkldpaaDoor
