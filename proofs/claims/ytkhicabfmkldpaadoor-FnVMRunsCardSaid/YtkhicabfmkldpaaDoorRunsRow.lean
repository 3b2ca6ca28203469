/-
  FnVMRuns: the machine does what a program's operations say, for every program by bytes, all data, either reader: its row, and its card.
-/
import Derived.Test.YtkhicabfmkldpaaDoorLaws
import Derived.ChangeSlices
import Derived.WideShapes
set_option linter.unusedSimpArgs false
set_option linter.unusedVariables false
namespace Go.Proofs.YtkhicabfmkldpaaDoor
open Go Go.RowKit Go.ChangeShapes Go.WideShapes Go.ChangeAt

theorem Tryd.cells5 : Tryd.prog.cellsOf 5 = 1 := by kernel_rfl

set_option maxRecDepth 100000 in
/-- What a slice of bytes that came in gives. -/
theorem open_u8s {H : Type} {enc : TypeId × Value → H} {W : World} {base : Nat} {v : Value} {d : DataW H} {p : List MemPlace} (hval : Value.okWide Tryd.prog W .any base 22 v) (h : DataW.Trod enc Tryd.prog W 0 (fun _ => true) true 22 v d p) :
    ∃ (a : Option Addr) (l : List UInt8) (c : Nat), v = .slice a l.length c ∧ RdB W (.slice a l.length c) l ∧ ∀ b, (Value.slice a l.length c).ownBlock = some b → b < W.heap.size := by
  obtain ⟨a, len, cap, rfl⟩ := okWide_slice Tryd.underlying22 hval
  obtain ⟨fuel, hf⟩ := h
  rcases open_ints Tryd.underlying22 Tryd.underlying5 Tryd.cells5 hf with ⟨hcs, hx⟩ | ⟨a1, len', cap', zs, hcs, _, hl, hm, hz, hx, hcell, hwz⟩
  · simp [Value.cells] at hcs
    obtain ⟨rfl, rfl, rfl⟩ := hcs
    exact ⟨none, [], 0, rfl, .inl ⟨rfl, rfl⟩, fun b hb => by simp [Value.ownBlock] at hb⟩
  · simp [Value.cells] at hcs
    obtain ⟨rfl, rfl, rfl⟩ := hcs
    simp only [if_true] at hz
    have hlen : ((zs.take len).map fun n => UInt8.ofNat n.toNat).length = len := by simp; omega
    have hok : World.has Tryd.prog W .any base a1 5 cap := by
      simp only [Value.okWide, Tryd.underlying22, Cell.okWide, Cell.ok] at hval
      exact hval.2.2
    obtain ⟨_, hspot, row, cells, hsh, _⟩ := hok
    obtain ⟨ab, ao, spot⟩ := a1
    simp only [] at hspot hsh
    subst hspot
    have hab : ab < W.heap.size := by
      rcases Nat.lt_or_ge ab W.heap.size with h | h
      · exact h
      · simp [World.shape?, Array.getElem?_eq_none h] at hsh
    refine ⟨some ⟨ab, ao, none⟩, (zs.take len).map fun n => UInt8.ofNat n.toNat, cap, by rw [hlen], .inr ⟨ab, ao, cap, rfl, by rw [hlen]; exact hl, hm, fun i hi => ?_⟩, fun b hb => by simp [Value.ownBlock] at hb; omega⟩
    rw [hlen] at hi
    have hcj := hcell i (by omega)
    rw [Addr.add_lit] at hcj
    rw [hcj]
    have hb := range_u8 hwz i
    rw [List.getD_eq_getElem?_getD, List.getD_eq_getElem?_getD, List.getElem?_map, List.getElem?_take, if_pos hi]
    obtain ⟨z, hzi⟩ : ∃ z, zs[i]? = some z := ⟨_, List.getElem?_eq_getElem (by omega)⟩
    rw [hzi] at hb ⊢
    simp only [Option.getD_some, Option.map_some] at hb ⊢
    congr 2
    simp only [UInt8.toNat_ofNat']
    omega

set_option maxRecDepth 100000 in
theorem runs_contract (H : Type) (enc : TypeId × Value → H) (W : World) (base : Nat) (args : Array Value) (ds gs : List (DataW H)) (before : List MemPlace)
    (hval : ∀ (j : Nat) t v, Tryd.f7.params[j]? = some t → args[j]? = some v → Value.okWide Tryd.prog W .any base t v)
    (hW : DataW.Whole enc Tryd.prog Tryd.f7.params.toList Rows.fnVMRunsSpec.vars false W args.toList ds gs before) (hL : laidMetH Tryd.prog Rows.fnVMRunsRow.laid W) :
    Calls Tryd.prog 7 args W fun e W' => ∃ v, e = .returned v ∧ Rows.fnVMRunsSpec.post enc Tryd.prog Tryd.f7 false true false false W args v W' := by
  have hW' := hW
  obtain ⟨p, q, hA0, hV, rfl, hfz, hnd⟩ := hW
  have hA : DataW.TrodAll enc Tryd.prog W 0 (fun _ => true) true Tryd.f7.params.toList args.toList ds p := hA0
  rw [Tryd.params7] at hA hval
  obtain ⟨v0, vs0, d0, ds0, p0, q0, ha0, rfl, rfl, h0, r0⟩ := trodAll_cons hA
  obtain ⟨v1, vs1, d1, ds1, p1, q1, ha1, rfl, rfl, h1, r1⟩ := trodAll_cons r0
  obtain ⟨v2, vs2, d2, ds2, p2, q2, ha2, rfl, rfl, h2, r2⟩ := trodAll_cons r1
  obtain ⟨rfl, rfl, rfl⟩ := trodAll_nil r2
  obtain rfl : args = #[v0, v1, v2] := by cases args; simp_all
  obtain ⟨rfl, rfl⟩ := trodVars_none hV
  obtain ⟨a0, l0, c0, rfl, hr0, ho0⟩ := open_u8s (hval 0 22 v0 rfl rfl) h0
  obtain ⟨a1, l1, c1, rfl, hr1, ho1⟩ := open_u8s (hval 1 22 v1 rfl rfl) h1
  obtain ⟨sl, rfl, rfl, rfl⟩ := open_bool Tryd.underlying4 (hval 2 4 v2 rfl rfl) h2
  clear hA0
  simp only [List.append_nil] at hW'
  obtain ⟨e0, e1, hS⟩ := sent_of_laid hL
  have hlt : ∀ x ∈ p0 ++ (p1 ++ []), x.block < W.heap.size := fun x hx => by simpa using hW'.lt x (by simpa using hx)
  refine (runs_walk a0 c0 l0 a1 c1 l1 sl e0 e1 W hr0 ho0 hr1 ho1 hS).mono fun e W' ⟨he, hg⟩ => ?_
  subst he
  have hb : Below W.heap.size W W' := hg.below (fun _ e => e.elim) (Nat.le_refl _)
  refine ⟨_, rfl, _, _, _, [], _, [], hW', trodAll_mk1 (shut_bool Tryd.underlying4 true), trodAll_cons_mk (Below.trod Tryd.laidOut (by kernel_rfl) (of_decide_eq_true (by kernel_rfl)) h0 hb (fun x hx => hlt x (by simp [hx]))) (trodAll_cons_mk (Below.trod Tryd.laidOut (by kernel_rfl) (of_decide_eq_true (by kernel_rfl)) h1 hb (fun x hx => hlt x (by simp [hx]))) (trodAll_cons_mk (shut_bool Tryd.underlying4 sl) trodAll_mk0)), rfl, hb.frame _, fun h => by cases h⟩

theorem runs_reads (os : Os) {H : Type} (enc : TypeId × Value → H) : ∃ places, DataW.whole enc Tryd.prog ((laidWorld os).forCall (fun _ _ => 0) ⟨#[], #[.slice none 0 0, .slice none 0 0, .bool false], []⟩).memory Tryd.f7.params.toList Rows.fnVMRunsSpec.vars false #[Value.slice none 0 0, Value.slice none 0 0, Value.bool false].toList 8 = some ([.nil, .nil, .lit (.bool false)], [], places) :=
  ⟨[], by kernel_rfl⟩

set_option maxRecDepth 100000 in
theorem runs_lifted (os : Os) (started : os.Started) (H : Type) (enc : TypeId × Value → H) (F : Stop.Interp) :
    ReturnsInHanded {} Tryd.checked os 7 .any ((OpenSpec.ofChange Rows.fnVMRunsSpec).preRow enc Tryd.prog Tryd.f7 Rows.fnVMRunsRow.domain false Rows.fnVMRunsRow.laid) (((OpenSpec.ofChange Rows.fnVMRunsSpec).at F).post enc Tryd.prog Tryd.f7 false true false false) := by
  obtain ⟨places, hx⟩ := runs_reads os enc
  refine returnsInHanded_of_row (C := Tryd.checked) (s := OpenSpec.ofChange Rows.fnVMRunsSpec) Tryd.own started (by kernel_rfl) Tryd.func7
    (witness_row_atRef (enc := enc) (C := Tryd.checked) false (laidWorld os) #[.slice none 0 0, .slice none 0 0, .bool false] rfl (by kernel_rfl) (by kernel_rfl) (by kernel_rfl)
      (OpenSpec.preRow_of_cond 8 hx (by kernel_rfl) (fun k hk => by cases hk) (by kernel_rfl) (laid_met os _))) ?_
  intro W base args ds gs before hval hW _ _ _ hL _ _
  exact runs_contract H enc W base args ds gs before hval hW hL

theorem runs_said : Rows.FnVMRunsSaid :=
  OpenClaim.holds_of_cond 7 Tryd.f7 rfl rfl rfl rfl rfl rfl rfl ⟨rfl, rfl, rfl, rfl, rfl⟩ rfl rfl rfl rfl rfl (by kernel_rfl) Tryd.func7 (by kernel_rfl)
    (of_decide_eq_true (by kernel_rfl)) (by unfold Func.isWrapper; first | (rw [if_pos (by decide +kernel)]; kernel_rfl) | (rw [if_neg (by decide +kernel)]; exact ⟨rfl, rfl⟩))
    (fun os started H enc _ F => by rw [OpenClaim.pre_eq_preRow]; exact runs_lifted os started H enc F)

theorem runs_plain (f : FuncId) (fn : Func) (hf : Tryd.pinned.checked.prog.funcNamed "given.example/pub-tinsmith/laws.FnVMRuns" = some f) (hfn : Tryd.pinned.checked.prog.funcs[f]? = some fn) :
    true = Tryd.pinned.checked.prog.looks [] ∧ ∀ (j : Nat) t, fn.params[j]? = some t → Tryd.pinned.checked.prog.wantsStandIn t = false := by
  obtain rfl : f = 7 := Option.some.inj ((show Tryd.prog.funcNamed "given.example/pub-tinsmith/laws.FnVMRuns" = some 7 by kernel_rfl).symm.trans hf) |>.symm
  obtain rfl : fn = Tryd.f7 := (Option.some.inj (Tryd.func7.symm.trans hfn)).symm
  refine ⟨by kernel_rfl, fun j t ht => ?_⟩
  rw [Tryd.params7] at ht
  have ht : t = 22 ∨ t = 4 := by
    have := Array.mem_of_getElem? ht
    simp at this
    omega
  rcases ht with rfl | rfl
  · exact (show Tryd.prog.wantsStandIn 22 = false by kernel_rfl)
  · exact (show Tryd.prog.wantsStandIn 4 = false by kernel_rfl)

theorem runs_card : Rows.FnVMRunsCardSaid :=
  Claim7.holds_tied_plain_at .later [] _ _ _ _ runs_said (fun _ h => by cases h) (by kernel_rfl) (fun _ h => by cases h) fnVMRuns_row_tie rfl ⟨rfl, rfl⟩ (by kernel_rfl) rfl runs_plain (by kernel_rfl)
end Go.Proofs.YtkhicabfmkldpaaDoor
