/-
  The loop of evalInner: what is handed from round to round, and what the loop leaves.
-/
import Derived.Test.YtkhicabfmkldpaaDoorEvCall
import Derived.Test.YtkhicabfmkldpaaDoorZig
set_option linter.unusedSimpArgs false
set_option linter.unusedVariables false
namespace Go.Proofs.YtkhicabfmkldpaaDoor
open Go Go.RowKit

/-- A state whose run is to be followed. -/
def Good (s : St) : Prop := s.odd = false ∧ 0 < s.left ∧ s.viol = false

theorem Later.good {s s' : St} (h : Later s s') (hg : Good s') : Good s := ⟨h.odd hg.1, Nat.lt_of_lt_of_le hg.2.1 h.left, h.viol hg.2.2⟩

/-- The bounds at the loop's head. -/
structure HeadOk (E : Env) (s : St) (pc steps depth : Int) : Prop where
  pcr : PcR E.ins.length pc s.pc
  pcm : pc ≤ 8589934592 - depth
  st0 : 0 ≤ steps
  st1 : steps + s.left ≤ 1000000
  d0 : 0 ≤ depth
  d1 : depth + s.left ≤ 9990
  nt : s.notes.length + 3 * s.left ≤ 100000
  t0 : 0 ≤ s.tg
  t1 : s.tg + s.left ≤ 100000

theorem HeadOk.later {E : Env} {s s' : St} {pc pc' steps steps' depth : Int} (h : HeadOk E s pc steps depth) (hl : Later s s') (h1 : PcR E.ins.length pc' s'.pc) (h2 : pc' ≤ 8589934592 - depth) (h3 : 0 ≤ steps') (h4 : steps' + s'.left ≤ 1000000) : HeadOk E s' pc' steps' depth :=
  ⟨h1, h2, h3, h4, h.d0, by have := h.d1; have := hl.left; omega, by have := h.nt; have := hl.notes; omega, by have := h.t0; have := hl.tg2; omega, by have := h.t1; have := hl.tg; omega⟩

theorem HeadOk.deeper {E : Env} {s s' : St} {pc steps depth : Int} (h : HeadOk E s pc steps depth) (hl : Later s s') (hlt : s'.left < s.left) {pc' : Int} (h1 : PcR E.ins.length pc' s'.pc) (h2 : pc' ≤ 4294967296) : HeadOk E s' pc' (steps + 1) (depth + 1) :=
  ⟨h1, by have := h.d1; omega, by have := h.st0; omega, by have := h.st1; omega, by have := h.d0; omega, by have := h.d1; omega, by have := h.nt; have := hl.notes; omega, by have := h.t0; have := hl.tg2; omega, by have := h.t1; have := hl.tg; omega⟩

/-- Where the loop returns. -/
def RetP (E : Env) (A F : Nat) (depth : Int) (wb : World) (vb : Value) (outer field : Int) (kind : Bool) (s' : St) (a : Act) (w' : World) : Prop :=
  ∃ v' l' rest' pc' steps' nul err, Lft E A F depth wb vb a w' v' l' s'.tg rest' pc' steps' nul err ∧ s'.notes = l' ++ (if nul then [⟨nmNullField, field, ⟨#[]⟩, outer⟩] else []) ∧ (nul = true → kind = true ∧ s'.bad = 0) ∧
    ErrAt E w' v' err s'.bad ∧ (s'.bad = 0 → rest' = s'.rest ∧ PcR E.ins.length (pc' + 1) s'.pc ∧ 0 ≤ pc' ∧ pc' ≤ 8589934592 - depth ∧ 0 ≤ steps' ∧ steps' + s'.left ≤ 1000000)

/-- Where the loop is left at the program's end. -/
def ExitP (E : Env) (A F : Nat) (tg depth : Int) (wb : World) (vb : Value) (s' : St) (a : Act) (w' : World) : Prop :=
  ∃ null v' pc' steps', IsFr E A F tg null a ∧ Chg (fun k => E.S vb k ∨ k = F) wb w' ∧ Fresh wb vb v' ∧ Cx E w' v' s'.notes s'.tg s'.rest pc' steps' depth ∧ blk w' A #[.pointer (some ⟨E.G, 0, none⟩)] 84 ∧
    s'.bad = 0 ∧ PcR E.ins.length (pc' + 1) s'.pc ∧ 0 ≤ pc' ∧ pc' ≤ 8589934592 - depth ∧ 0 ≤ steps' ∧ steps' + s'.left ≤ 1000000

/-- What is asked of the operands of calls and halts. -/
structure OpsOk (E : Env) : Prop where
  calls : ∀ (i : Nat) (x : Int), E.ins[i]? = some (8, x) → 0 ≤ x
  halts : ∀ (i : Nat) (x : Int), E.ins[i]? = some (10, x) → 0 ≤ x ∧ x ≤ E.texts.length

/-- The loop does what lev says, with so much fuel. -/
def LoopOk (E : Env) (mx f : Nat) : Prop :=
  ∀ (r : Regs) (tg outer field : Int) (null kind : Bool) (s s' : St) (A F : Nat) (w : World) (v : Value) (pc steps depth : Int) (bv : Value) (t : Array Value) (wb : World) (vb : Value) (Q0 : Exit → Act → World → Prop),
    (∀ c a w, ¬ Q0 (.panic c) a w) → Cx E w v s.notes s.tg s.rest pc steps depth → Fx E w v A F r bv → HeadOk E s pc steps depth → s.bad = 0 → s.odd = false →
    Chg (fun k => E.S vb k ∨ k = F) wb w → Fresh wb vb v → lev mx E.ins f r tg outer field null kind s = s' → Good s' →
    (∀ a w', RetP E A F depth wb vb outer field kind s' a w' → Q0 .ret a w') → (∀ a w', ExitP E A F tg depth wb vb s' a w' → Q0 (.exit 0) a w') →
    Code.rounds Tryd.prog body44 Q0 (f + 1) (fr t E.sl0 E.R E.G E.N E.C E.U A F tg null) w

/-- A call of evalInner does what lev says, with so much fuel. -/
def CallOk (E : Env) (mx f : Nat) : Prop :=
  ∀ (tg outer field : Int) (kind : Bool) (s s' : St) (w : World) (v : Value) (pc steps depth : Int),
    Cx E w v s.notes s.tg s.rest pc steps depth → HeadOk E s pc steps (depth + 1) → s.bad = 0 → s.odd = false →
    lev mx E.ins f regs0 tg outer field false kind s = s' → Good s' → CallsEval E tg w (EvalPost E v depth outer field kind s' w)

theorem chg_shared2 {E : Env} {w w1 w2 : World} {v v1 : Value} {F : Nat} (h1 : Chg (fun k => E.S v k ∨ k = F) w w1) (hf : Fresh w v v1) (h2 : Chg (fun k => E.S v1 k ∨ k = F) w1 w2) : Chg (fun k => E.S v k ∨ k = F) w w2 :=
  h1.trans h2 (fun k hk e => by
    rcases e with (e | e | e | e | e | e) | e
    · exact .inl (.inl e)
    · exact .inl (.inr (.inl e))
    · exact .inl (.inr (.inr (.inl e)))
    · exact .inl (.inr (.inr (.inr (.inl e))))
    · exact .inl (.inr (.inr (.inr (.inr (.inl e)))))
    · rcases hf with hf | ⟨g, hf, hg⟩
      · exact .inl (.inr (.inr (.inr (.inr (.inr (hf ▸ e))))))
      · rw [hf] at e
        cases e
        omega
    · exact .inr e)

theorem Lft.base {E : Env} {A F : Nat} {depth : Int} {w : World} {v : Value} {a : Act} {w' : World} {v' : Value} {l' : List Note} {n' : Int} {rest' : List UInt8} {pc' steps' : Int} {nul : Bool} {err : Value} {wb : World} {vb : Value}
    (h : Lft E A F depth w v a w' v' l' n' rest' pc' steps' nul err) (hc : Chg (fun k => E.S vb k ∨ k = F) wb w) (hf : Fresh wb vb v) : Lft E A F depth wb vb a w' v' l' n' rest' pc' steps' nul err :=
  ⟨h.defers, h.r10, h.r11, chg_shared2 hc hf h.chg, hf.trans h.new hc.size, h.cx, h.a⟩

/-- One step of lev, where there is one. -/
theorem lev_step {mx : Nat} {ins : List (Nat × Int)} {f : Nat} {r : Regs} {tgt outer field : Int} {null kind : Bool} {s : St} {op : Nat} {x : Int} (hb : s.bad = 0) (ho : s.odd = false) (hfe : fetch ins s.pc = some (op, x)) (hl : ¬ s.left ≤ 1) :
    lev mx ins (f + 1) r tgt outer field null kind s = match (generalizing := false) op with
          | 2 => lev mx ins f r tgt outer field null kind (lev mx ins f regs0 (s.tg + 1) tgt x false true (s.tick.enter nmGet tgt x ⟨#[]⟩))
          | 3 => s.tick.leave tgt outer field null kind
          | 4 => lev mx ins f r tgt outer field true kind s.tick
          | 5 => lev mx ins f r tgt outer field null kind (lev mx ins f regs0 (s.tg + 1) tgt (-1) false true (s.tick.enter nmAppendArray tgt 0 ⟨#[]⟩))
          | 6 => lev mx ins f r tgt outer field null kind (lev mx ins f regs0 (s.tg + 1) tgt (-1) false true (s.tick.enter nmAppendMap tgt 0 (strOf r.text)))
          | 8 => lev mx ins f r tgt outer field null kind { lev mx ins f regs0 tgt outer field false false { s.tick with pc := x } with pc := s.pc + 1 }
          | 9 => s.tick
          | 10 => { s.tick with bad := if 0 < x then x.toNat + 2 else 0 }
          | 19 => lev mx ins f r tgt outer field null kind (lev mx ins f regs0 tgt outer field false false s.tick)
          | 20 => s.tick
          | op => lev mx ins f (simple mx op x tgt r s.tick).1 tgt outer field null kind (simple mx op x tgt r s.tick).2 := by
  conv => lhs; unfold lev
  rw [if_pos ⟨hb, ho⟩, hfe]
  show (if s.left ≤ 1 then _ else _) = _
  rw [if_neg hl]
  rfl

theorem lev_none {mx : Nat} {ins : List (Nat × Int)} {f : Nat} {r : Regs} {tgt outer field : Int} {null kind : Bool} {s : St} (hb : s.bad = 0) (ho : s.odd = false) (hfe : fetch ins s.pc = none) : lev mx ins (f + 1) r tgt outer field null kind s = s := by
  unfold lev
  rw [if_pos ⟨hb, ho⟩, hfe]

theorem lev_stop {mx : Nat} {ins : List (Nat × Int)} {f : Nat} {r : Regs} {tgt outer field : Int} {null kind : Bool} {s : St} {op : Nat} {x : Int} (hb : s.bad = 0) (ho : s.odd = false) (hfe : fetch ins s.pc = some (op, x)) (hl : s.left ≤ 1) : (lev mx ins (f + 1) r tgt outer field null kind s).left = 0 := by
  unfold lev
  rw [if_pos ⟨hb, ho⟩, hfe]
  simp only []
  rw [if_pos hl]
end Go.Proofs.YtkhicabfmkldpaaDoor
