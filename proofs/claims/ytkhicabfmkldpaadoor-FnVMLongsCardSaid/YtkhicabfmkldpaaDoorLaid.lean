/-
  What the row's list of variables gives: the sentinels of io; a world for the witness.
-/
import Derived.Test.YtkhicabfmkldpaaDoorVmrun
import Derived.Test.YtkhicabfmkldpaaDoorCards
import Derived.Test.YtkhicabfmkldpaaDoorTie
import Derived.Deep.DeepHandedRow
import Derived.Deep.DeepWitnessRowRef
import Derived.Lib.LaidIn
import Derived.Stop.LaidErr
import Derived.ProofKit
import Derived.OpenShut
set_option linter.unusedSimpArgs false
set_option linter.unusedVariables false
namespace Go.Proofs.YtkhicabfmkldpaaDoor
open Go Go.RowKit Go.ChangeShapes Go.WideShapes Go.ChangeAt

theorem Tryd.own : ownKnob Tryd.prog.godebug = none := by kernel_rfl
theorem Tryd.laidOut : laidOutB Tryd.prog = true := by kernel_rfl
theorem Tryd.star : "*" ++ "errors.errorString" = "*errors.errorString" := by decide
theorem Tryd.row185 (u : TypeId) (h : Tryd.prog.typeName? 3 u = some "*errors.errorString") : u = 185 :=
  typeName_ptr_named (nm := "errors.errorString") (by rw [Tryd.star]; kernel_rfl) (by kernel_rfl) (by decide) u (by rw [Tryd.star]; exact h)

theorem laid_sentinel2 {P : Program} {n nm : String} {text : List UInt8} {r : List (String × DataW Unit)} {W : World} {g : Nat} {ti tp te ts : TypeId} {ms : Array (String × TypeId)} {f : Field}
    (h : laidMet P ((n, .iface nm (.ptr (.agg [.lit (.string text)]))) :: r) W)
    (hg : P.globalNamed n = some g) (ht : (P.globals[g]?).map (·.type) = some ti) (hi : P.underlying ti = some (.interface ms)) (hrow : ∀ u, P.typeName? 3 u = some nm → u = tp)
    (hp : P.underlying tp = some (.pointer te)) (he : P.underlying te = some (.struct #[f])) (hft : f.type = ts) (hfo : f.offset = 0) (hs : P.underlying ts = some .string) (hc : P.cellsOf te = 1) (hcs : P.cellsOf ts = 1) :
    ∃ (a : Addr) (s : ByteArray), W.cell? ⟨g, 0, none⟩ = some (.iface tp (.pointer (some a))) ∧ W.cell? a = some (.string s) ∧ s.data.toList = text ∧ ∃ c t, W.heap[a.block]? = some (.cells c t (0, 0)) := by
  obtain ⟨ps, ⟨g0, t0, cs0, f0, p0, q0, hg0, ht0, hv0, hd0, _, e0⟩, _, hrows⟩ := h
  obtain rfl := Option.some.inj (hg.symm.trans hg0)
  obtain rfl := Option.some.inj (ht.symm.trans ht0)
  subst e0
  obtain ⟨l0⟩ := cs0
  have ok0 : ∀ u v, l0 = [.iface u v] → Value.okWide P W .any 0 u v := fun u v e => by
    subst e
    exact (hrows g 0 (by simp [MemPlace.row])).2 u v (by simpa using World.var?_cell hg0 hv0 0)
  obtain ⟨a0, s0, rfl, hc0, hs0, hz0, hp0⟩ := errorString_of_trod hi hrow hp he hft hfo hs hc hcs hd0 ok0
  refine ⟨a0, s0, by simpa using World.var?_cell hg0 hv0 0, hc0, hs0, ?_⟩
  subst hp0
  obtain ⟨b, o, sp⟩ := a0
  have hsp : sp = none := World.cell?_spot hc0
  subst hsp
  exact (hrows b o (List.mem_append_left _ (List.mem_append_right _ (MemPlace.mem_row.2 ⟨0, by omega, by simp⟩)))).1

theorem sent_of_laid {W : World} (h : laidMetH Tryd.prog Rows.fnVMLongsRow.laid W) : ∃ e0 e1, Sent W W.heap.size e0 e1 := by
  have h0 : laidMet Tryd.prog [("io.ErrShortBuffer", Rows.laid_io_ErrShortBuffer), ("io.EOF", Rows.laid_io_EOF), ("io.ErrUnexpectedEOF", Rows.laid_io_ErrUnexpectedEOF)] W := h
  obtain ⟨a4, t4, v4, c4, s4, f4⟩ := laid_sentinel2 (g := 4) h0 (by kernel_rfl) (by kernel_rfl) Tryd.underlying82 Tryd.row185 Tryd.underlying185 (Tryd.underlying204) rfl rfl Tryd.underlying9 (by kernel_rfl) (by kernel_rfl)
  obtain ⟨a0, t0, v0, c0, s0, f0⟩ := laid_sentinel2 (g := 0) h0.tail (by kernel_rfl) (by kernel_rfl) Tryd.underlying82 Tryd.row185 Tryd.underlying185 (Tryd.underlying204) rfl rfl Tryd.underlying9 (by kernel_rfl) (by kernel_rfl)
  obtain ⟨a1, t1, v1, c1, s1, f1⟩ := laid_sentinel2 (g := 1) h0.tail.tail (by kernel_rfl) (by kernel_rfl) Tryd.underlying82 Tryd.row185 Tryd.underlying185 (Tryd.underlying204) rfl rfl Tryd.underlying9 (by kernel_rfl) (by kernel_rfl)
  have l4 := World.block_lt_of_cell? W _ v4
  simp only [] at l4
  refine ⟨a0, a1, ⟨v0, v1, l4⟩, ?_, f0, f1, World.block_lt_of_cell? W _ c0, World.block_lt_of_cell? W _ c1⟩
  rintro rfl
  rw [c0] at c1
  cases c1
  rw [s0] at s1
  exact absurd s1 (by decide)

/-- A world for the witness: the three sentinels laid. -/
noncomputable def laidWorld (os : Os) : World :=
  let N := (World.settled Tryd.prog os).heap.size
  let w0 := World.holding Tryd.prog os ⟨#[.cells #[.string ⟨#[115, 104, 111, 114, 116, 32, 98, 117, 102, 102, 101, 114]⟩] 204, .cells #[.string ⟨#[69, 79, 70]⟩] 204, .cells #[.string ⟨#[117, 110, 101, 120, 112, 101, 99, 116, 101, 100, 32, 69, 79, 70]⟩] 204], #[], []⟩
  let put (h : Array Obj) (g : Nat) (cs : Array Value) : Array Obj := h.modify g fun
    | .cells _ t frozen => .cells cs t frozen
    | o => o
  let h1 := put w0.heap 4 #[.iface 185 (.pointer (some ⟨N, 0, none⟩))]
  let h2 := put h1 0 #[.iface 185 (.pointer (some ⟨N + 1, 0, none⟩))]
  let h3 := put h2 1 #[.iface 185 (.pointer (some ⟨N + 2, 0, none⟩))]
  { w0 with heap := h3 }

noncomputable abbrev N0 : Nat := (World.settled Tryd.prog default).heap.size
theorem laid_in (os : Os) (args : Array Value) : LaidIn Tryd.prog ((laidWorld os).forCall (fun _ _ => 0) ⟨#[], args, []⟩).memory [("io.ErrShortBuffer", Rows.laid_io_ErrShortBuffer), ("io.EOF", Rows.laid_io_EOF), ("io.ErrUnexpectedEOF", Rows.laid_io_ErrUnexpectedEOF)] [4, N0, 0, N0 + 1, 1, N0 + 2] :=
  LaidIn.of_run [4, N0, 0, N0 + 1, 1, N0 + 2] 8 (by kernel_rfl) (by kernel_rfl) (by kernel_rfl) (by kernel_rfl)
theorem laid_met (os : Os) (args : Array Value) : laidMet Tryd.prog Rows.fnVMLongsRow.laid ((laidWorld os).forCall (fun _ _ => 0) ⟨#[], args, []⟩).memory := (laid_in os args).met
end Go.Proofs.YtkhicabfmkldpaaDoor
