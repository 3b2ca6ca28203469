/-
  For every name, writer's name and list of aliases 'laws.FnTYField' returns true: a reader's field is filled from a writer's one that has its name or one of its aliases. Conditions: none (the row's own reading of the arguments).
-/
import Derived.Test.YtkhicabfmkldpaaRows
import Derived.Test.YtkhicabfmkldpaaWalks
import Derived.ProofKit
namespace Go.Proofs.Ytkhicabfmkldpaa
open Go.ChangeShapes Go.WideShapes Go.ChangeAt Go.RowKit
open Go.WideMaps Go.WideElems
open Go.ChangeMaps (setBlock shut_map_nil open_string shut_string keptBut_setBlock frozen?_setBlock heap_setBlock_same)

theorem Try.own : ownKnob Try.prog.godebug = none := by kernel_rfl
theorem Try.laidOut : laidOutB Try.prog = true := by kernel_rfl
theorem Try.cells9 : Try.prog.cellsOf 9 = 1 := by kernel_rfl

set_option maxRecDepth 100000 in
theorem field_lifted (os : Os) (started : os.Started) (H : Type) (enc : TypeId × Value → H) :
    ReturnsInHanded {} Try.checked os 3 .any (Rows.fnTYFieldSpec.pre6 enc Try.prog Try.f3 Rows.fnTYFieldRow.domain false) (Rows.fnTYFieldSpec.post enc Try.prog Try.f3 false true false false) := by
  refine returnsInHanded_of_change (C := Try.checked) Try.own started (by kernel_rfl) Try.func3
    (ChangeSpec.witness6 (enc := enc) (C := Try.checked) false ⟨#[], #[.string ByteArray.empty, .string ByteArray.empty, .slice none 0 0], []⟩ 8 (by kernel_rfl) (by kernel_rfl) (by kernel_rfl) (by kernel_rfl)) ?_
  intro W base args ds gs before hval0 hW hcnd _
  have hval : ∀ (j : Nat) t v, Try.f3.params[j]? = some t → args[j]? = some v → Value.okWide Try.prog W .any base t v := hval0
  have hW' := hW
  obtain ⟨p, q, hA0, hV, rfl, hfz, hnd⟩ := hW
  have hA : DataW.TrodAll enc Try.prog W 0 (fun _ => true) true Try.f3.params.toList args.toList ds p := hA0
  rw [Try.params3] at hA hval
  obtain ⟨v0, v1, v2, d0, d1, d2, p0, p1, p2, rfl, rfl, rfl, h0, h1, h2⟩ := trodAll_three hA
  obtain ⟨rfl, rfl⟩ := trodVars_none hV
  obtain ⟨nm, rfl, rfl, rfl, ws0⟩ := open_string Try.underlying9 (hval 0 9 v0 rfl rfl) h0
  obtain ⟨wr, rfl, rfl, rfl, ws1⟩ := open_string Try.underlying9 (hval 1 9 v1 rfl rfl) h1
  obtain ⟨a0, len, cap, rfl⟩ := okWide_slice Try.underlying22 (hval 2 22 v2 rfl rfl)
  have h2k := h2
  obtain ⟨fuel, hf⟩ := h2
  clear hA0 hval0
  simp only [List.append_nil] at hW'
  have hlt : ∀ x ∈ p2, x.block < W.heap.size := fun x hx => by simpa using hW'.lt x (by simp [hx])
  have fin : ∀ (e : Ending) (W' : World), Below W.heap.size W W' ∧ e = .returned (.bool true) →
      ∃ v, e = .returned v ∧ Rows.fnTYFieldSpec.post enc Try.prog Try.f3 false true false false W #[.string nm, .string wr, .slice a0 len cap] v W' := by
    rintro e W' ⟨hb, rfl⟩
    refine ⟨_, rfl, ⟨_, _, _, [], [] ++ ([] ++ p2), [], hW', ?_, ?_, rfl, hb.frame _, fun h => by cases h⟩⟩
    · exact trodAll_mk1 (shut_bool Try.underlying4 true)
    · exact trodAll_mk3 (shut_string Try.underlying9 ws0) (shut_string Try.underlying9 ws1) (Below.trod Try.laidOut (by kernel_rfl) (of_decide_eq_true (by kernel_rfl)) h2k hb hlt)
  rcases open_strings Try.underlying22 Try.underlying9 Try.cells9 hf with ⟨hcs, hx⟩ | ⟨a, len', cap', ss, hcs, _, hl, hm, hz, hx, hcell, hws⟩
  · simp [Value.cells] at hcs
    obtain ⟨rfl, rfl, rfl⟩ := hcs
    exact (law_nil none 0 nm wr W).mono fun e W' h => fin e W' h
  · simp [Value.cells] at hcs
    obtain ⟨rfl, rfl, rfl⟩ := hcs
    simp only [if_true] at hz
    by_cases hl0 : len = 0
    · subst hl0
      exact (law_nil _ _ nm wr W).mono fun e W' h => fin e W' h
    · obtain ⟨b, off, spot⟩ := a
      have hspot : spot = none := by simpa [Addr.add] using World.cell?_spot (hcell 0 (by omega))
      subst hspot
      simp only [Prod.mk.injEq] at hx
      have hbW : b < W.heap.size := hlt (.cell b off) (by rw [hx.2]; exact MemPlace.mem_row.2 ⟨0, by omega, by simp⟩)
      unfold maxLen at hm
      exact (law_any b off len cap ss nm wr W (by omega) (by omega) hws hbW (fun j hj => by rw [← add_plain]; exact hcell j (by omega))).mono fun e W' h => fin e W' h

theorem field_holds : Rows.FnTYFieldSaid :=
  OpenClaim.holds_of_wide 3 Try.f3 rfl rfl rfl rfl rfl rfl rfl ⟨rfl, rfl, rfl, rfl, rfl⟩ rfl rfl rfl rfl rfl (by kernel_rfl) Try.func3 (by kernel_rfl)
    (of_decide_eq_true (by kernel_rfl)) (by unfold Func.isWrapper; first | (rw [if_pos (by decide +kernel)]; kernel_rfl) | (rw [if_neg (by decide +kernel)]; exact ⟨rfl, rfl⟩))
    (fun os started H enc _ => field_lifted os started H enc)
end Go.Proofs.Ytkhicabfmkldpaa
