/-
  What a call of evalInner hands back, as a relation between the pure state that is meant and the memory.
-/
import Derived.Test.YtkhicabfmkldpaaDoorEv
set_option linter.unusedSimpArgs false
set_option linter.unusedVariables false
namespace Go.Proofs.YtkhicabfmkldpaaDoor
open Go Go.RowKit

/-- The program counter is that one, or both are past the end. -/
def PcR (n : Nat) (pc a : Int) : Prop := 0 ≤ pc ∧ (pc = a ∨ ((n : Int) ≤ pc ∧ (n : Int) ≤ a))

/-- "Runtime error: " -/
def runErr : ByteArray := ⟨#[82, 117, 110, 116, 105, 109, 101, 32, 101, 114, 114, 111, 114, 58, 32]⟩

/-- The error that is handed back, by the number that the state keeps. -/
def ErrAt (E : Env) (w : World) (v : Value) (err : Value) : Nat → Prop
  | 0 => err = .nilIface
  | 1 => err = .iface 185 (.pointer (some E.e0)) ∨ err = .iface 185 (.pointer (some E.e1))
  | 2 => False
  | q + 3 => ∃ b s, err = .iface 129 (.pointer (some ⟨b, 0, none⟩)) ∧ blk w b #[.string (runErr ++ s)] 131 ∧ Apart E v b ∧ E.texts[q]? = some s

theorem ErrAt.isErr {E : Env} {w : World} {v err : Value} : ∀ {b : Nat}, ErrAt E w v err b → b ≠ 0 → ∃ t u, err = .iface t u
  | 0, _, h => absurd rfl h
  | 1, h, _ => by rcases h with h | h <;> exact ⟨_, _, h⟩
  | 2, h, _ => h.elim
  | q + 3, h, _ => by obtain ⟨b, s, h, _⟩ := h; exact ⟨_, _, h⟩

theorem ErrAt.chg {E : Env} {w w' : World} {v v' err : Value} {S : Nat → Prop} (hc : Chg S w w') (hS : ∀ k, S k → k < w.heap.size → E.S v k ∨ k = E.gI) (hf : Fresh w v v') : ∀ {b : Nat}, ErrAt E w v err b → ErrAt E w' v' err b
  | 0, h => h
  | 1, h => h
  | 2, h => h.elim
  | q + 3, h => by
    obtain ⟨b, s, h1, h2, h3, h4⟩ := h
    refine ⟨b, s, h1, h2.chg hc (fun e => ?_), h3.fresh h2.lt hf, h4⟩
    rcases hS b e h2.lt with e | e
    · exact h3.1 e
    · exact h3.2.1 e

/-- What a call of evalInner hands back. -/
def EvalPost (E : Env) (v : Value) (depth : Int) (outer field : Int) (kind : Bool) (s' : St) (w : World) (e : Ending) (w' : World) : Prop :=
  ∃ nul err v' l' rest' pc' steps', e = .returned (.tuple #[.bool nul, err]) ∧ s'.notes = l' ++ (if nul then [⟨nmNullField, field, ⟨#[]⟩, outer⟩] else []) ∧ (nul = true → kind = true ∧ s'.bad = 0) ∧
    Chg (E.S v) w w' ∧ Fresh w v v' ∧ ErrAt E w' v' err s'.bad ∧ Cx E w' v' l' s'.tg rest' pc' steps' depth ∧
    (s'.bad = 0 → rest' = s'.rest ∧ PcR E.ins.length (pc' + 1) s'.pc ∧ 0 ≤ pc' ∧ pc' ≤ 8589934591 - depth ∧ 0 ≤ steps' ∧ steps' + s'.left ≤ 1000000)

/-- The call of evalInner on a target. -/
def CallsEval (E : Env) (tg : Int) (w : World) (Q : Ending → World → Prop) : Prop :=
  Calls Tryd.prog 44 #[rdV E.sl0 E.R, .pointer (some ⟨E.G, 0, none⟩), .iface 87 (.agg #[.pointer (some ⟨E.N, 0, none⟩), .int .i64 tg]), .pointer (some ⟨E.C, 0, none⟩), .slice (some ⟨E.U, 0, none⟩) 8 8] w Q

theorem Fx.keep {E : Env} {w w' : World} {v v' : Value} {A F I : Nat} {r : Regs} {bv : Value} {cs : Array Value} {ty : TypeId} (hf : Fx E w v A F r bv) (hI : blk w I cs ty) (hIa : Apart E v I) (hc : Chg (E.S v) w w') (hn : Fresh w v v') :
    Fx E w' v' A F r bv ∧ blk w' I cs ty ∧ Apart E v' I :=
  ⟨hf.chg hc (fun _ e _ => .inl e) hn, hI.chg hc hIa.1, hIa.fresh hI.lt hn⟩

theorem chg_shared {E : Env} {w w1 w2 : World} {v v1 : Value} {S : Nat → Prop} (hS : ∀ k, E.S v k → S k) (h1 : Chg S w w1) (hf : Fresh w v v1) (h2 : Chg (E.S v1) w1 w2) : Chg S w w2 :=
  h1.trans h2 (fun k hk e => by
    rcases e with e | e | e | e | e | e
    · exact hS k (.inl e)
    · exact hS k (.inr (.inl e))
    · exact hS k (.inr (.inr (.inl e)))
    · exact hS k (.inr (.inr (.inr (.inl e))))
    · exact hS k (.inr (.inr (.inr (.inr (.inl e)))))
    · rcases hf with hf | ⟨g, hf, hg⟩
      · exact hS k (.inr (.inr (.inr (.inr (.inr (hf ▸ e))))))
      · rw [hf] at e
        cases e
        omega)

/-- A register of the level's own may change. -/
theorem ErrAt.chg2 {E : Env} {w : World} {v err : Value} {F : Nat} {r : Regs} {bv : Value} (i : Nat) (x : Value) : ∀ {b : Nat}, ErrAt E w v err b → blk w F (regCells r bv) 135 → ErrAt E (w.setCell ⟨F, i, none⟩ x) v err b
  | 0, h, _ => h
  | 1, h, _ => h
  | 2, h, _ => h.elim
  | q + 3, h, hF => by
    obtain ⟨b, s, h1, h2, h3, h4⟩ := h
    refine ⟨b, s, h1, h2.set_other (p := ⟨F, i, none⟩) (fun e => ?_) x, h3, h4⟩
    subst e
    unfold blk at h2 hF
    rw [hF] at h2
    simp [regCells] at h2
end Go.Proofs.YtkhicabfmkldpaaDoor
