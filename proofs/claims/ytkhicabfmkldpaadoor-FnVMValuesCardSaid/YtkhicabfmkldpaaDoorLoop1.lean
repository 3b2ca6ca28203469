/-
  One round of the loop is one step of lev.
-/
import Derived.Test.YtkhicabfmkldpaaDoorRnd0
import Derived.Test.YtkhicabfmkldpaaDoorRnd1
import Derived.Test.YtkhicabfmkldpaaDoorRnd2
import Derived.Test.YtkhicabfmkldpaaDoorRnd3
import Derived.Test.YtkhicabfmkldpaaDoorRnd4
import Derived.Test.YtkhicabfmkldpaaDoorRnd5
import Derived.Test.YtkhicabfmkldpaaDoorRnd6
import Derived.Test.YtkhicabfmkldpaaDoorRnd7
import Derived.Test.YtkhicabfmkldpaaDoorRnd8
import Derived.Test.YtkhicabfmkldpaaDoorRnd9
import Derived.Test.YtkhicabfmkldpaaDoorRnd10
import Derived.Test.YtkhicabfmkldpaaDoorRnd11
import Derived.Test.YtkhicabfmkldpaaDoorRnd12
import Derived.Test.YtkhicabfmkldpaaDoorRnd13
import Derived.Test.YtkhicabfmkldpaaDoorRnd14
import Derived.Test.YtkhicabfmkldpaaDoorLoop0
set_option linter.unusedSimpArgs false
set_option linter.unusedVariables false
namespace Go.Proofs.YtkhicabfmkldpaaDoor
open Go Go.RowKit

theorem loop_zero (E : Env) (mx : Nat) : LoopOk E mx 0 := by
  intro r tg outer field null kind s s' A F w v pc steps depth bv t wb vb Q0 hp0 hc hf hh hb ho hchg hfr hs' hg
  unfold lev at hs'
  subst hs'
  exact absurd hg.2.1 (Nat.lt_irrefl 0)

theorem regs_eta (r : Regs) : ({ r with num := r.num } : Regs) = r := rfl

theorem noted_later {s s' : St} (h2 : ¬ s.left ≤ 1) {nm : ByteArray} {tgt n : Int} {t : ByteArray} (h : s' = s.tick.note nm tgt n t) : Later s s' := by
  subst h
  exact tick_later h2 rfl (by simp [St.note, St.tick]) (by simp [St.note, St.tick] <;> omega) (by simp [St.note, St.tick]) id id
theorem jump_later {s : St} {x : Int} (h2 : ¬ s.left ≤ 1) : Later s (s.tick.jump x) :=
  tick_later h2 rfl (by simp [St.jump, St.tick]) (by simp [St.jump, St.tick] <;> omega) (by simp [St.jump, St.tick]) (fun h => by simp [St.jump, St.tick] at h; exact h.1) id
theorem rest_later {s : St} {t : List UInt8} (h2 : ¬ s.left ≤ 1) : Later s { s.tick with rest := t } :=
  tick_later h2 rfl (by simp [St.tick]) (by simp [St.tick] <;> omega) (by simp [St.tick]) id id
theorem pc_later {s s' : St} (h2 : ¬ s.left ≤ 1) (x : Int) (h : s' = { s.tick with pc := x }) : Later s s' := by
  subst h
  exact tick_later h2 rfl (by simp [St.tick]) (by simp [St.tick] <;> omega) (by simp [St.tick]) id id

set_option maxHeartbeats 4000000 in
theorem loop_step (E : Env) (hE : E.ok) (hO : OpsOk E) (mx f : Nat) (ih : LoopOk E mx f) (ihc : CallOk E mx f) : LoopOk E mx (f + 1) := by
  intro r tg outer field null kind s s' A F w v pc steps depth bv t wb vb Q0 hp0 hc hf hh hb ho hchg hfr hs' hg hret hexit
  show body44.wp Tryd.prog (Exit.then (Code.rounds Tryd.prog body44 Q0 (f + 1)) Q0) _ w
  have hs0 := hh.st0
  have hs1 : steps < 1000000 := by
    have h1 := hh.st1
    have h2 := (lev_later mx E.ins (f + 1) r tg outer field null kind s).left
    rw [hs'] at h2
    have h3 := hg.2.1
    omega
  cases hfe : fetch E.ins s.pc with
  | none =>
    rw [lev_none hb ho hfe] at hs'
    subst hs'
    have hpn : (E.ins.length : Int) ≤ pc := by
      rcases hh.pcr.2 with h | h
      · have h0 := hh.pcr.1
        unfold fetch at hfe
        rw [if_pos (by omega)] at hfe
        have := List.getElem?_eq_none_iff.1 hfe
        omega
      · exact h.1
    have hpn2 : (E.ins.length : Int) ≤ s.pc := by
      rcases hh.pcr.2 with h | h
      · omega
      · exact h.2
    exact case_end E hE t A F tg null _ Q0 hp0 w v s.notes s.tg s.rest pc steps depth r bv hc hf hpn (fun a n hfrm => hexit a _ ⟨null, v, pc, steps, hfrm, hchg.drewN n, hfr, hc.same hE ((Chg.refl _ w).drewN n), hf.a.drewN n, hb, ⟨by have := hh.pcr.1; omega, .inr ⟨by omega, hpn2⟩⟩, hh.pcr.1, hh.pcm, hh.st0, hh.st1⟩)
  | some ox =>
    obtain ⟨op, x⟩ := ox
    have h0 : 0 ≤ s.pc := by
      unfold fetch at hfe
      by_cases h : 0 ≤ s.pc
      · exact h
      · rw [if_neg h] at hfe; cases hfe
    obtain ⟨p, hp⟩ : ∃ p : Nat, s.pc = p := ⟨s.pc.toNat, by omega⟩
    have hop : E.ins[p]? = some (op, x) := by
      unfold fetch at hfe
      rw [if_pos h0, hp] at hfe
      exact hfe
    have hpl := (List.getElem?_eq_some_iff.1 hop).1
    have hn2 := hE.n2
    have hpc : pc = (p : Int) := by
      rcases hh.pcr.2 with h | h
      · omega
      · omega
    subst hpc
    by_cases hl : s.left ≤ 1
    · exact absurd hg.2.1 (by rw [← hs', lev_stop hb ho hfe hl]; exact Nat.lt_irrefl 0)
    have hst := lev_step (mx := mx) (f := f) (r := r) (tgt := tg) (outer := outer) (field := field) (null := null) (kind := kind) hb ho hfe hl
    rw [hs'] at hst
    have hoo := hE.ops p op x hop
    have htk : Later s s.tick := step_later hl
    have hln : s.notes.length ≤ 100000 := by have := hh.nt; omega
    have hlt : s.tick.left = s.left - 1 := rfl
    -- the next round
    have go : ∀ a w' v' bv' r' null' (s1 : St) pc1 steps1, Nxt E A F tg null' depth w v a w' v' s1.notes s1.tg s1.rest pc1 steps1 r' bv' → Later s s1 → s1.bad = 0 → PcR E.ins.length pc1 s1.pc → pc1 ≤ 8589934592 - depth → 0 ≤ steps1 → steps1 + s1.left ≤ 1000000 →
        s' = lev mx E.ins f r' tg outer field null' kind s1 → Code.rounds Tryd.prog body44 Q0 (f + 1) a w' := by
      intro a w' v' bv' r' null' s1 pc1 steps1 hn hlat hb1 hpr hpm hst0 hst1 he
      rw [hn.fr]
      have hlat2 := lev_later mx E.ins f r' tg outer field null' kind s1
      rw [← he] at hlat2
      exact ih r' tg outer field null' kind s1 s' A F w' v' pc1 steps1 depth bv' a.tmps wb vb Q0 hp0 hn.cx hn.fx (hh.later hlat hpr hpm hst0 hst1) hb1 (hlat2.odd hg.1) (chg_shared2 hchg hfr hn.chg) (hfr.trans hn.new hchg.size) he.symm hg hret hexit
    -- the next round behind a plain operation
    have go1 : ∀ a w' v' bv' r' null' (s1 : St), Nxt E A F tg null' depth w v a w' v' s1.notes s1.tg s1.rest (p + 1) (steps + 1) r' bv' → Later s s1 → s1.bad = 0 → s1.pc = p + 1 → s1.left = s.left - 1 →
        s' = lev mx E.ins f r' tg outer field null' kind s1 → Code.rounds Tryd.prog body44 Q0 (f + 1) a w' := by
      intro a w' v' bv' r' null' s1 hn hlat hb1 hpr hle he
      exact go a w' v' bv' r' null' s1 _ _ hn hlat hb1 ⟨by omega, .inl hpr.symm⟩ (by have := hh.d1; omega) (by omega) (by have := hh.st1; omega) he
    -- a return without an error
    have ret : ∀ a w' v' l' nul, Lft E A F depth w v a w' v' l' s'.tg s'.rest p (steps + 1) nul .nilIface → s'.notes = l' ++ (if nul then [⟨nmNullField, field, ⟨#[]⟩, outer⟩] else []) → (nul = true → kind = true) → s'.bad = 0 → s'.pc = p + 1 → s'.left = s.left - 1 → Q0 .ret a w' := by
      intro a w' v' l' nul hL hn hk hb1 hpr hle
      exact hret a w' ⟨v', l', _, _, _, nul, _, hL.base hchg hfr, hn, fun e => ⟨hk e, hb1⟩, by rw [hb1]; rfl, fun _ => ⟨rfl, ⟨by omega, .inl hpr.symm⟩, by omega, by have := hh.d1; omega, by omega, by have := hh.st1; omega⟩⟩
    -- a return with an error
    have retb : ∀ a w' v' rest' pc' steps' err, Lft E A F depth w v a w' v' s'.notes s'.tg rest' pc' steps' false err → ErrAt E w' v' err s'.bad → s'.bad ≠ 0 → Q0 .ret a w' := by
      intro a w' v' rest' pc' steps' err hL he hb1
      exact hret a w' ⟨v', _, _, _, _, false, err, hL.base hchg hfr, (List.append_nil _).symm, fun e => absurd e (by decide), he, fun e => absurd e hb1⟩
    -- the data ends
    have eof : ∀ (s1 : St) r', s' = lev mx E.ins f r' tg outer field null kind s1 → s1 = { s.tick with bad := 1 } → ∀ a w' v' ea rest', (ea = E.e0 ∨ ea = E.e1) → Lft E A F depth w v a w' v' s.notes s.tg rest' p (steps + 1) false (.iface 185 (.pointer (some ea))) → Q0 .ret a w' := by
      intro s1 r' he h1 a w' v' ea rest' hea hL
      have hf0 : f ≠ 0 := by
        rintro rfl
        unfold lev at he
        rw [he] at hg
        exact absurd hg.2.1 (Nat.lt_irrefl 0)
      rw [lev_bad (by rw [h1]; simp) f hf0] at he
      subst h1
      subst he
      refine retb a w' v' rest' _ _ _ hL ?_ (by simp)
      rcases hea with rfl | rfl
      · exact .inl rfl
      · exact .inr rfl
    -- a nested level
    have nest : ∀ (s0 s1 : St) tgt outer' field' kind', s1 = lev mx E.ins f regs0 tgt outer' field' false kind' s0 → Later s s0 → s0.left = s.left - 1 → s0.bad = 0 → s0.odd = false → Good s1 → ∀ pc0, PcR E.ins.length pc0 s0.pc → pc0 ≤ 4294967296 →
        ∀ w1 v1, Cx E w1 v1 s0.notes s0.tg s0.rest pc0 (steps + 1) depth → CallsEval E tgt w1 (EvalPost E v1 depth outer' field' kind' s1 w1) := by
      intro s0 s1 tgt outer' field' kind' h1 hlat hle hb1 ho1 hg1 pc0 hpr hpm w1 v1 hcx
      exact ihc tgt outer' field' kind' s0 s1 w1 v1 pc0 (steps + 1) depth hcx (hh.deeper hlat (by omega) hpr hpm) hb1 ho1 h1.symm hg1
    have hf0 : f ≠ 0 ∨ f = 0 := by omega
    clear hfe
    revert hop hoo hst
    match op with
    | 0 =>
      intro hop hst hoo
      replace hst : s' = lev mx E.ins f (rd mx x r s.tick).1 tg outer field null kind (rd mx x r s.tick).2 := hst
      have hodd : ∀ r', s' = lev mx E.ins f r' tg outer field null kind { s.tick with odd := true } → False := by
        intro r' he
        have h1 := (lev_later mx E.ins f r' tg outer field null kind { s.tick with odd := true }).odd (by rw [← he]; exact hg.1)
        exact absurd h1 (by simp)
      by_cases hx1 : x = 1
      · subst hx1
        exact case_read_1 E hE t A F tg null _ Q0 hp0 w v s.notes s.tg s.rest p steps depth r bv hc hf hop hs0 hs1 (fun a w' v' bv' h => go1 a w' v' bv' r null s.tick h htk hb (by show s.pc + 1 = _; omega) rfl hst)
      by_cases hx2 : x = 2
      · subst hx2
        cases hr : s.rest with
        | nil =>
          have h1 : rd mx 2 r s.tick = (r, { s.tick with odd := true }) := by show (match s.rest with | [] => _ | b :: t => _) = _; rw [hr]
          rw [h1] at hst
          exact (hodd _ hst).elim
        | cons b tt =>
          have h1 : rd mx 2 r s.tick = ({ r with truth := (b.toNat : Int) == 1 }, { s.tick with rest := tt }) := by show (match s.rest with | [] => _ | b :: t => _) = _; rw [hr]
          rw [h1] at hst
          exact case_read_bool E hE t A F tg null _ Q0 hp0 w v s.notes s.tg s.rest p steps depth r bv hc hf hop hs0 hs1 b tt hr (fun a w' v' bv' h => go1 a w' v' bv' ({ r with truth := (b.toNat : Int) == 1 }) null { s.tick with rest := tt } h (rest_later hl) hb (by show s.pc + 1 = _; omega) rfl hst)
      by_cases hx3 : x = 3
      · subst hx3
        cases hr : lg mx 0 0 s.rest with
        | odd =>
          have h1 : rd mx 3 r s.tick = (r, { s.tick with odd := true }) := by show (match lg mx 0 0 s.rest with | .ok u t => _ | .eof => _ | .odd => _) = _; rw [hr]
          rw [h1] at hst
          exact (hodd _ hst).elim
        | eof =>
          have h1 : rd mx 3 r s.tick = (r, if s.rest.length ≤ 5 then { s.tick with bad := 1 } else { s.tick with odd := true }) := by show (match lg mx 0 0 s.rest with | .ok u t => _ | .eof => _ | .odd => _) = _; rw [hr]; rfl
          rw [h1] at hst
          by_cases h5 : s.rest.length ≤ 5
          · rw [if_pos h5] at hst
            exact case_read_int_eof E hE t A F tg null _ Q0 hp0 w v s.notes s.tg s.rest p steps depth r bv hc hf hop hs0 hs1 (vl_none (lg_eof hr)) (eof _ _ hst rfl)
          · rw [if_neg h5] at hst
            exact (hodd _ hst).elim
        | ok u tt =>
          have h1 : rd mx 3 r s.tick = if zig u ≤ 2147483647 ∧ -2147483648 ≤ zig u ∧ s.rest.length ≤ tt.length + 5 then ({ r with num := zig u }, { s.tick with rest := tt }) else (r, { s.tick with odd := true }) := by show (match lg mx 0 0 s.rest with | .ok u t => _ | .eof => _ | .odd => _) = _; rw [hr]; rfl
          rw [h1] at hst
          by_cases h5 : zig u ≤ 2147483647 ∧ -2147483648 ≤ zig u ∧ s.rest.length ≤ tt.length + 5
          · rw [if_pos h5] at hst
            obtain ⟨g1, g2, g3⟩ := vl_int (lg_ok hr) (by omega) (by decide) (by decide)
            have g4 := zig32_eq u g2 g3 h5.1 h5.2.1
            refine case_read_int E hE t A F tg null _ Q0 hp0 w v s.notes s.tg s.rest p steps depth r bv hc hf hop hs0 hs1 u tt g1 (by rw [g4]; exact ⟨h5.2.1, h5.1⟩) ?_
            rw [g4]
            exact (fun a w' v' bv' h => go1 a w' v' bv' ({ r with num := zig u }) null { s.tick with rest := tt } h (rest_later hl) hb (by show s.pc + 1 = _; omega) rfl hst)
          · rw [if_neg h5] at hst
            exact (hodd _ hst).elim
      by_cases hx10 : x = 10
      · subst hx10
        cases hr : lg mx 0 0 s.rest with
        | odd =>
          have h1 : rd mx 10 r s.tick = (r, { s.tick with odd := true }) := by show (match lg mx 0 0 s.rest with | .ok u t => _ | .eof => _ | .odd => _) = _; rw [hr]
          rw [h1] at hst
          exact (hodd _ hst).elim
        | eof =>
          have h1 : rd mx 10 r s.tick = (r, { s.tick with bad := 1 }) := by show (match lg mx 0 0 s.rest with | .ok u t => _ | .eof => _ | .odd => _) = _; rw [hr]
          rw [h1] at hst
          exact case_read_unused_eof E hE t A F tg null _ Q0 hp0 w v s.notes s.tg s.rest p steps depth r bv hc hf hop hs0 hs1 (lg_eof hr) (eof _ _ hst rfl)
        | ok u tt =>
          have h1 : rd mx 10 r s.tick = (r, { s.tick with rest := tt }) := by show (match lg mx 0 0 s.rest with | .ok u t => _ | .eof => _ | .odd => _) = _; rw [hr]
          rw [h1] at hst
          exact case_read_unused E hE t A F tg null _ Q0 hp0 w v s.notes s.tg s.rest p steps depth r bv hc hf hop hs0 hs1 u tt (lg_ok hr) (fun a w' v' bv' h => go1 a w' v' bv' (r) null { s.tick with rest := tt } h (rest_later hl) hb (by show s.pc + 1 = _; omega) rfl hst)
      by_cases hx4 : x = 4
      · subst hx4
        cases hr : lg mx 0 0 s.rest with
        | odd =>
          have h1 : rd mx 4 r s.tick = (r, { s.tick with odd := true }) := by show (match lg mx 0 0 s.rest with | .ok u t => _ | .eof => _ | .odd => _) = _; rw [hr]
          rw [h1] at hst
          exact (hodd _ hst).elim
        | eof =>
          have h1 : rd mx 4 r s.tick = (r, { s.tick with bad := 1 }) := by show (match lg mx 0 0 s.rest with | .ok u t => _ | .eof => _ | .odd => _) = _; rw [hr]
          rw [h1] at hst
          exact case_read_long_eof E hE t A F tg null _ Q0 hp0 w v s.notes s.tg s.rest p steps depth r bv hc hf hop hs0 hs1 (lg_eof hr) (eof _ _ hst rfl)
        | ok u tt =>
          have h1 : rd mx 4 r s.tick = ({ r with long := zig u }, { s.tick with rest := tt }) := by show (match lg mx 0 0 s.rest with | .ok u t => _ | .eof => _ | .odd => _) = _; rw [hr]
          rw [h1] at hst
          exact case_read_long E hE t A F tg null _ Q0 hp0 w v s.notes s.tg s.rest p steps depth r bv hc hf hop hs0 hs1 u tt (lg_ok hr) (zig_range (vl_range (lg_ok hr))) (fun a w' v' bv' h => go1 a w' v' bv' ({ r with long := zig u }) null { s.tick with rest := tt } h (rest_later hl) hb (by show s.pc + 1 = _; omega) rfl hst)
      by_cases hx5 : x = 5
      · subst hx5
        have h1 : rd mx 5 r s.tick = if s.rest.length < 4 then (r, { s.tick with bad := 1 }) else ({ r with float := leN (s.rest.take 4) }, { s.tick with rest := s.rest.drop 4 }) := rfl
        rw [h1] at hst
        by_cases h5 : s.rest.length < 4
        · rw [if_pos h5] at hst
          exact case_read_float_eof E hE t A F tg null _ Q0 hp0 w v s.notes s.tg s.rest p steps depth r bv hc hf hop hs0 hs1 h5 (eof _ _ hst rfl)
        · rw [if_neg h5] at hst
          exact case_read_float E hE t A F tg null _ Q0 hp0 w v s.notes s.tg s.rest p steps depth r bv hc hf hop hs0 hs1 (by omega) (fun a w' v' bv' h => go1 a w' v' bv' ({ r with float := leN (s.rest.take 4) }) null { s.tick with rest := s.rest.drop 4 } h (rest_later hl) hb (by show s.pc + 1 = _; omega) rfl hst)
      by_cases hx6 : x = 6
      · subst hx6
        have h1 : rd mx 6 r s.tick = if s.rest.length < 8 then (r, { s.tick with bad := 1 }) else ({ r with double := leN (s.rest.take 8) }, { s.tick with rest := s.rest.drop 8 }) := rfl
        rw [h1] at hst
        by_cases h5 : s.rest.length < 8
        · rw [if_pos h5] at hst
          exact case_read_double_eof E hE t A F tg null _ Q0 hp0 w v s.notes s.tg s.rest p steps depth r bv hc hf hop hs0 hs1 h5 (eof _ _ hst rfl)
        · rw [if_neg h5] at hst
          exact case_read_double E hE t A F tg null _ Q0 hp0 w v s.notes s.tg s.rest p steps depth r bv hc hf hop hs0 hs1 (by omega) (fun a w' v' bv' h => go1 a w' v' bv' ({ r with double := leN (s.rest.take 8) }) null { s.tick with rest := s.rest.drop 8 } h (rest_later hl) hb (by show s.pc + 1 = _; omega) rfl hst)
      by_cases hx7 : x = 7
      · subst hx7
        cases hr : lg mx 0 0 s.rest with
        | odd =>
          have h1 : rd mx 7 r s.tick = (r, { s.tick with odd := true }) := by show (match lg mx 0 0 s.rest with | .ok u t => _ | .eof => _ | .odd => _) = _; rw [hr]
          rw [h1] at hst
          exact (hodd _ hst).elim
        | eof =>
          have h1 : rd mx 7 r s.tick = (r, { s.tick with bad := 1 }) := by show (match lg mx 0 0 s.rest with | .ok u t => _ | .eof => _ | .odd => _) = _; rw [hr]
          rw [h1] at hst
          exact case_read_bytes_eof E hE t A F tg null _ Q0 hp0 w v s.notes s.tg s.rest p steps depth r bv hc hf hop hs0 hs1 (.inl (lg_eof hr)) (eof _ _ hst rfl)
        | ok u tt =>
          have h1 : rd mx 7 r s.tick = if zig u < 0 ∨ 1000 < zig u then (r, { s.tick with odd := true }) else if (tt.length : Int) < zig u then (r, { s.tick with bad := 1 }) else ({ r with bytes := tt.take (zig u).toNat }, { s.tick with rest := tt.drop (zig u).toNat }) := by show (match lg mx 0 0 s.rest with | .ok u t => _ | .eof => _ | .odd => _) = _; rw [hr]; rfl
          rw [h1] at hst
          by_cases h5 : zig u < 0 ∨ 1000 < zig u
          · rw [if_pos h5] at hst
            exact (hodd _ hst).elim
          · rw [if_neg h5] at hst
            by_cases h6 : (tt.length : Int) < zig u
            · rw [if_pos h6] at hst
              exact case_read_bytes_eof E hE t A F tg null _ Q0 hp0 w v s.notes s.tg s.rest p steps depth r bv hc hf hop hs0 hs1 (.inr ⟨u, tt, lg_ok hr, by omega, by omega, h6⟩) (eof _ _ hst rfl)
            · rw [if_neg h6] at hst
              exact case_read_bytes E hE t A F tg null _ Q0 hp0 w v s.notes s.tg s.rest p steps depth r bv hc hf hop hs0 hs1 u tt (zig u).toNat (lg_ok hr) (by omega) (by omega) (fun a w' v' bv' h => go1 a w' v' bv' ({ r with bytes := tt.take (zig u).toNat }) null { s.tick with rest := tt.drop (zig u).toNat } h (rest_later hl) hb (by show s.pc + 1 = _; omega) rfl hst)
      by_cases hx8 : x = 8
      · subst hx8
        cases hr : lg mx 0 0 s.rest with
        | odd =>
          have h1 : rd mx 8 r s.tick = (r, { s.tick with odd := true }) := by show (match lg mx 0 0 s.rest with | .ok u t => _ | .eof => _ | .odd => _) = _; rw [hr]
          rw [h1] at hst
          exact (hodd _ hst).elim
        | eof =>
          have h1 : rd mx 8 r s.tick = (r, { s.tick with bad := 1 }) := by show (match lg mx 0 0 s.rest with | .ok u t => _ | .eof => _ | .odd => _) = _; rw [hr]
          rw [h1] at hst
          exact case_read_string_eof E hE t A F tg null _ Q0 hp0 w v s.notes s.tg s.rest p steps depth r bv hc hf hop hs0 hs1 (.inl (lg_eof hr)) (eof _ _ hst rfl)
        | ok u tt =>
          have h1 : rd mx 8 r s.tick = if zig u < 0 ∨ 1000 < zig u then (r, { s.tick with odd := true }) else if (tt.length : Int) < zig u then (r, { s.tick with bad := 1 }) else ({ r with text := tt.take (zig u).toNat }, { s.tick with rest := tt.drop (zig u).toNat }) := by show (match lg mx 0 0 s.rest with | .ok u t => _ | .eof => _ | .odd => _) = _; rw [hr]; rfl
          rw [h1] at hst
          by_cases h5 : zig u < 0 ∨ 1000 < zig u
          · rw [if_pos h5] at hst
            exact (hodd _ hst).elim
          · rw [if_neg h5] at hst
            by_cases h6 : (tt.length : Int) < zig u
            · rw [if_pos h6] at hst
              exact case_read_string_eof E hE t A F tg null _ Q0 hp0 w v s.notes s.tg s.rest p steps depth r bv hc hf hop hs0 hs1 (.inr ⟨u, tt, lg_ok hr, by omega, by omega, h6⟩) (eof _ _ hst rfl)
            · rw [if_neg h6] at hst
              exact case_read_string E hE t A F tg null _ Q0 hp0 w v s.notes s.tg s.rest p steps depth r bv hc hf hop hs0 hs1 u tt (zig u).toNat (lg_ok hr) (by omega) (by omega) (fun a w' v' bv' h => go1 a w' v' bv' ({ r with text := tt.take (zig u).toNat }) null { s.tick with rest := tt.drop (zig u).toNat } h (rest_later hl) hb (by show s.pc + 1 = _; omega) rfl hst)
      by_cases hx11 : 11 ≤ x ∧ x < 1011
      · have h1 : rd mx x r s.tick = if (s.rest.length : Int) < x - 11 then (r, { s.tick with bad := 1 }) else ({ r with bytes := s.rest.take (x - 11).toNat }, { s.tick with rest := s.rest.drop (x - 11).toNat }) := by
          unfold rd
          rw [if_neg hx1, if_neg hx2, if_neg hx3, if_neg hx10, if_neg hx4, if_neg hx5, if_neg hx6, if_neg (by omega), if_pos hx11]
          rfl
        rw [h1] at hst
        obtain ⟨m, hm⟩ : ∃ m : Nat, x - 11 = m := ⟨(x - 11).toNat, by omega⟩
        rw [hm, Int.toNat_natCast] at hst
        by_cases h5 : (s.rest.length : Int) < m
        · rw [if_pos h5] at hst
          exact case_read_fixed_eof E hE t A F tg null _ Q0 hp0 w v s.notes s.tg s.rest p steps depth r bv x m hc hf hop hs0 hs1 hm hx11.1 (by omega) (by omega) (eof _ _ hst rfl)
        · rw [if_neg h5] at hst
          by_cases hm0 : m = 0
          · subst hm0
            have hxe : x = 11 := by omega
            subst hxe
            exact case_read_fixed0 E hE t A F tg null _ Q0 hp0 w v s.notes s.tg s.rest p steps depth r bv hc hf hop hs0 hs1 (fun a w' v' bv' h => go1 a w' v' bv' ({ r with bytes := [] }) null { s.tick with rest := s.rest } h (rest_later hl) hb (by show s.pc + 1 = _; omega) rfl hst)
          · exact case_read_fixed E hE t A F tg null _ Q0 hp0 w v s.notes s.tg s.rest p steps depth r bv x m hc hf hop hs0 hs1 hm hx11.1 (by omega) (by omega) (by omega) (fun a w' v' bv' h => go1 a w' v' bv' ({ r with bytes := s.rest.take m }) null { s.tick with rest := s.rest.drop m } h (rest_later hl) hb (by show s.pc + 1 = _; omega) rfl hst)
      · have h1 : rd mx x r s.tick = (r, { s.tick with odd := true }) := by
          unfold rd
          rw [if_neg hx1, if_neg hx2, if_neg hx3, if_neg hx10, if_neg hx4, if_neg hx5, if_neg hx6, if_neg (by omega), if_neg hx11]
        rw [h1] at hst
        exact (hodd _ hst).elim
    | 1 =>
      intro hop hst hoo
      replace hst : s' = lev mx E.ins f r tg outer field null kind (st x tg r s.tick) := hst
      by_cases hx2 : x = 2
      · subst hx2
        exact case_set_bool E hE t A F tg null _ Q0 hp0 w v s.notes s.tg s.rest p steps depth r bv hc hf hop hs0 hs1 hln (fun a w' v' bv' h => go1 a w' v' bv' r null (s.tick.note nmSetBoolean tg (if r.truth then 1 else 0) ⟨#[]⟩) h (noted_later hl rfl) hb (by show s.pc + 1 = _; omega) rfl hst)
      by_cases hx3 : x = 3
      · subst hx3
        exact case_set_int E hE t A F tg null _ Q0 hp0 w v s.notes s.tg s.rest p steps depth r bv hc hf hop hs0 hs1 hln (fun a w' v' bv' h => go1 a w' v' bv' r null (s.tick.note nmSetInt tg r.num ⟨#[]⟩) h (noted_later hl rfl) hb (by show s.pc + 1 = _; omega) rfl hst)
      by_cases hx4 : x = 4
      · subst hx4
        exact case_set_long E hE t A F tg null _ Q0 hp0 w v s.notes s.tg s.rest p steps depth r bv hc hf hop hs0 hs1 hln (fun a w' v' bv' h => go1 a w' v' bv' r null (s.tick.note nmSetLong tg r.long ⟨#[]⟩) h (noted_later hl rfl) hb (by show s.pc + 1 = _; omega) rfl hst)
      by_cases hx5 : x = 5
      · subst hx5
        exact case_set_float E hE t A F tg null _ Q0 hp0 w v s.notes s.tg s.rest p steps depth r bv hc hf hop hs0 hs1 hln (fun a w' v' bv' h => go1 a w' v' bv' r null (s.tick.note nmSetFloat tg (asLong112 r.float) ⟨#[]⟩) h (noted_later hl rfl) hb (by show s.pc + 1 = _; omega) rfl hst)
      by_cases hx6 : x = 6
      · subst hx6
        exact case_set_double E hE t A F tg null _ Q0 hp0 w v s.notes s.tg s.rest p steps depth r bv hc hf hop hs0 hs1 hln (fun a w' v' bv' h => go1 a w' v' bv' r null (s.tick.note nmSetDouble tg (asLong111 r.double) ⟨#[]⟩) h (noted_later hl rfl) hb (by show s.pc + 1 = _; omega) rfl hst)
      by_cases hx7 : x = 7
      · subst hx7
        exact case_set_bytes E hE t A F tg null _ Q0 hp0 w v s.notes s.tg s.rest p steps depth r bv hc hf hop hs0 hs1 hln (fun a w' v' bv' h => go1 a w' v' bv' r null (s.tick.note nmSetBytes tg 0 (strOf r.bytes)) h (noted_later hl rfl) hb (by show s.pc + 1 = _; omega) rfl hst)
      by_cases hx8 : x = 8
      · subst hx8
        exact case_set_string E hE t A F tg null _ Q0 hp0 w v s.notes s.tg s.rest p steps depth r bv hc hf hop hs0 hs1 hln (fun a w' v' bv' h => go1 a w' v' bv' r null (s.tick.note nmSetString tg 0 (strOf r.text)) h (noted_later hl rfl) hb (by show s.pc + 1 = _; omega) rfl hst)
      have hsame : st x tg r s.tick = s.tick := by unfold st; simp [hx2, hx3, hx4, hx5, hx6, hx7, hx8]
      rw [hsame] at hst
      by_cases hx1 : x = 1
      · subst hx1
        exact case_set_1 E hE t A F tg null _ Q0 hp0 w v s.notes s.tg s.rest p steps depth r bv hc hf hop hs0 hs1 (fun a w' v' bv' h => go1 a w' v' bv' r null s.tick h htk hb (by show s.pc + 1 = _; omega) rfl hst)
      · by_cases hx0 : x ≤ 0
        · exact case_set_0 E hE t A F tg null _ Q0 hp0 w v s.notes s.tg s.rest p steps depth r bv x hc hf hop hs0 hs1 hx0 (fun a w' v' bv' h => go1 a w' v' bv' r null s.tick h htk hb (by show s.pc + 1 = _; omega) rfl hst)
        · exact case_set_9 E hE t A F tg null _ Q0 hp0 w v s.notes s.tg s.rest p steps depth r bv x hc hf hop hs0 hs1 (by omega) (fun a w' v' bv' h => go1 a w' v' bv' r null s.tick h htk hb (by show s.pc + 1 = _; omega) rfl hst)
    | 2 =>
      intro hop hst hoo
      obtain ⟨s0, h0⟩ : ∃ s0, s0 = s.tick.enter nmGet tg x ⟨#[]⟩ := ⟨_, rfl⟩
      obtain ⟨s1, h1⟩ : ∃ s1, s1 = lev mx E.ins f regs0 (s.tg + 1) tg x false true s0 := ⟨_, rfl⟩
      replace hst : s' = lev mx E.ins f r tg outer field null kind s1 := by rw [h1, h0]; exact hst
      have hl0 : Later s s0 := h0 ▸ enter_later hl _ _ _ _
      have hl1 : Later s0 s1 := h1 ▸ lev_later mx E.ins f _ _ _ _ _ _ _
      have hl2 : Later s1 s' := hst ▸ lev_later mx E.ins f _ _ _ _ _ _ _
      have hg1 := hl2.good hg
      have hcall := nest s0 s1 (s.tg + 1) tg x true h1 hl0 (by rw [h0]; rfl) (by rw [h0]; exact hb) (by rw [h0]; exact ho) hg1 (p + 1) (by rw [h0]; exact ⟨by omega, .inl (by show _ = s.pc + 1; omega)⟩) (by omega)
      have hnl : s1.notes.length ≤ 100000 := by have := hl0.notes; have := hl1.notes; have := hh.nt; omega
      have htg : s.tg ≤ 100000 := by have := hh.t1; omega
      have hcall' : ∀ w1 v1, Cx E w1 v1 (s.notes ++ [⟨nmGet, x, ⟨#[]⟩, tg⟩]) (s.tg + 1) s.rest (p + 1) (steps + 1) depth → CallsEval E (s.tg + 1) w1 (EvalPost E v1 depth tg x true s1 w1) := by
        rw [h0] at hcall
        exact hcall
      by_cases hb1 : s1.bad = 0
      · exact case_enter E hE t A F tg null _ Q0 hp0 w v s.notes s.tg s.rest p steps depth r bv x hc hf hop hs0 hs1 hln hh.t0 htg hh.d0 s1 hb1 hnl hcall' (fun a w' v' bv' pc2 steps2 k1 k2 k3 k4 h => go a w' v' bv' r null s1 pc2 steps2 h (hl0.trans hl1) hb1 k1 k2 k3 k4 hst)
      · have hf1 : f ≠ 0 := by
          rintro rfl
          unfold lev at hst
          rw [hst] at hg
          exact absurd hg.2.1 (Nat.lt_irrefl 0)
        rw [lev_bad hb1 f hf1] at hst
        subst hst
        exact case_enter_bad E hE t A F tg null _ Q0 hp0 w v s.notes s.tg s.rest p steps depth r bv x hc hf hop hs0 hs1 hln hh.t0 htg hh.d0 s' hb1 hnl hcall' (fun a w' v' err rest' pc' steps' he h => retb a w' v' rest' pc' steps' err h he hb1)
    | 3 =>
      intro hop hst hoo
      replace hst : s' = s.tick.leave tg outer field null kind := hst
      refine case_exit E hE t A F tg null _ Q0 hp0 w v s.notes s.tg s.rest p steps depth r bv x hc hf hop hs0 hs1 hln (fun a w' v' h => ?_)
      cases null with
      | false =>
        have h' : s' = s.tick.note nmFinalize tg 0 ⟨#[]⟩ := hst
        subst h'
        exact ret a w' v' _ false h (List.append_nil _).symm (fun e => absurd e (by decide)) hb (by show s.pc + 1 = _; omega) rfl
      | true =>
        have h' : s' = { (s.tick.note nmFinalize tg 0 ⟨#[]⟩).note nmNullField outer field ⟨#[]⟩ with viol := s.tick.viol || !kind } := hst
        have hk : kind = true := by
          have h3 := hg.2.2
          rw [h'] at h3
          simp at h3
          exact h3.2
        subst h'
        exact ret a w' v' _ true h rfl (fun _ => hk) hb (by show s.pc + 1 = _; omega) rfl
    | 4 =>
      intro hop hst hoo
      exact case_null E hE t A F tg null _ Q0 hp0 w v s.notes s.tg s.rest p steps depth r bv x hc hf hop hs0 hs1 (fun a w' v' bv' h => go1 a w' v' bv' r true s.tick h htk hb (by show s.pc + 1 = _; omega) rfl hst)
    | 5 =>
      intro hop hst hoo
      obtain ⟨s0, h0⟩ : ∃ s0, s0 = s.tick.enter nmAppendArray tg 0 ⟨#[]⟩ := ⟨_, rfl⟩
      obtain ⟨s1, h1⟩ : ∃ s1, s1 = lev mx E.ins f regs0 (s.tg + 1) tg (-1) false true s0 := ⟨_, rfl⟩
      replace hst : s' = lev mx E.ins f r tg outer field null kind s1 := by rw [h1, h0]; exact hst
      have hl0 : Later s s0 := h0 ▸ enter_later hl _ _ _ _
      have hl1 : Later s0 s1 := h1 ▸ lev_later mx E.ins f _ _ _ _ _ _ _
      have hl2 : Later s1 s' := hst ▸ lev_later mx E.ins f _ _ _ _ _ _ _
      have hg1 := hl2.good hg
      have hcall := nest s0 s1 (s.tg + 1) tg (-1) true h1 hl0 (by rw [h0]; rfl) (by rw [h0]; exact hb) (by rw [h0]; exact ho) hg1 (p + 1) (by rw [h0]; exact ⟨by omega, .inl (by show _ = s.pc + 1; omega)⟩) (by omega)
      have hnl : s1.notes.length ≤ 100000 := by have := hl0.notes; have := hl1.notes; have := hh.nt; omega
      have htg : s.tg ≤ 100000 := by have := hh.t1; omega
      have hcall' : ∀ w1 v1, Cx E w1 v1 (s.notes ++ [⟨nmAppendArray, 0, ⟨#[]⟩, tg⟩]) (s.tg + 1) s.rest (p + 1) (steps + 1) depth → CallsEval E (s.tg + 1) w1 (EvalPost E v1 depth tg (-1) true s1 w1) := by
        rw [h0] at hcall
        exact hcall
      by_cases hb1 : s1.bad = 0
      · exact case_array E hE t A F tg null _ Q0 hp0 w v s.notes s.tg s.rest p steps depth r bv x hc hf hop hs0 hs1 hln hh.t0 htg hh.d0 s1 hb1 hnl hcall' (fun a w' v' bv' pc2 steps2 k1 k2 k3 k4 h => go a w' v' bv' r null s1 pc2 steps2 h (hl0.trans hl1) hb1 k1 k2 k3 k4 hst)
      · have hf1 : f ≠ 0 := by
          rintro rfl
          unfold lev at hst
          rw [hst] at hg
          exact absurd hg.2.1 (Nat.lt_irrefl 0)
        rw [lev_bad hb1 f hf1] at hst
        subst hst
        exact case_array_bad E hE t A F tg null _ Q0 hp0 w v s.notes s.tg s.rest p steps depth r bv x hc hf hop hs0 hs1 hln hh.t0 htg hh.d0 s' hb1 hnl hcall' (fun a w' v' err rest' pc' steps' he h => retb a w' v' rest' pc' steps' err h he hb1)
    | 6 =>
      intro hop hst hoo
      obtain ⟨s0, h0⟩ : ∃ s0, s0 = s.tick.enter nmAppendMap tg 0 (strOf r.text) := ⟨_, rfl⟩
      obtain ⟨s1, h1⟩ : ∃ s1, s1 = lev mx E.ins f regs0 (s.tg + 1) tg (-1) false true s0 := ⟨_, rfl⟩
      replace hst : s' = lev mx E.ins f r tg outer field null kind s1 := by rw [h1, h0]; exact hst
      have hl0 : Later s s0 := h0 ▸ enter_later hl _ _ _ _
      have hl1 : Later s0 s1 := h1 ▸ lev_later mx E.ins f _ _ _ _ _ _ _
      have hl2 : Later s1 s' := hst ▸ lev_later mx E.ins f _ _ _ _ _ _ _
      have hg1 := hl2.good hg
      have hcall := nest s0 s1 (s.tg + 1) tg (-1) true h1 hl0 (by rw [h0]; rfl) (by rw [h0]; exact hb) (by rw [h0]; exact ho) hg1 (p + 1) (by rw [h0]; exact ⟨by omega, .inl (by show _ = s.pc + 1; omega)⟩) (by omega)
      have hnl : s1.notes.length ≤ 100000 := by have := hl0.notes; have := hl1.notes; have := hh.nt; omega
      have htg : s.tg ≤ 100000 := by have := hh.t1; omega
      have hcall' : ∀ w1 v1, Cx E w1 v1 (s.notes ++ [⟨nmAppendMap, 0, (strOf r.text), tg⟩]) (s.tg + 1) s.rest (p + 1) (steps + 1) depth → CallsEval E (s.tg + 1) w1 (EvalPost E v1 depth tg (-1) true s1 w1) := by
        rw [h0] at hcall
        exact hcall
      by_cases hb1 : s1.bad = 0
      · exact case_map E hE t A F tg null _ Q0 hp0 w v s.notes s.tg s.rest p steps depth r bv x hc hf hop hs0 hs1 hln hh.t0 htg hh.d0 s1 hb1 hnl hcall' (fun a w' v' bv' pc2 steps2 k1 k2 k3 k4 h => go a w' v' bv' r null s1 pc2 steps2 h (hl0.trans hl1) hb1 k1 k2 k3 k4 hst)
      · have hf1 : f ≠ 0 := by
          rintro rfl
          unfold lev at hst
          rw [hst] at hg
          exact absurd hg.2.1 (Nat.lt_irrefl 0)
        rw [lev_bad hb1 f hf1] at hst
        subst hst
        exact case_map_bad E hE t A F tg null _ Q0 hp0 w v s.notes s.tg s.rest p steps depth r bv x hc hf hop hs0 hs1 hln hh.t0 htg hh.d0 s' hb1 hnl hcall' (fun a w' v' err rest' pc' steps' he h => retb a w' v' rest' pc' steps' err h he hb1)
    | 7 =>
      intro hop hst hoo
      exact case_default E hE t A F tg null _ Q0 hp0 w v s.notes s.tg s.rest p steps depth r bv x hc hf hop hs0 hs1 hln (fun a w' v' bv' h => go1 a w' v' bv' (r) null (s.tick.note nmSetDefault tg x ⟨#[]⟩) h (noted_later hl rfl) hb (by show s.pc + 1 = _; omega) rfl hst)
    | 8 =>
      intro hop hst hoo
      obtain ⟨s0, h0⟩ : ∃ s0, s0 = { s.tick with pc := x } := ⟨_, rfl⟩
      obtain ⟨s1, h1⟩ : ∃ s1, s1 = lev mx E.ins f regs0 tg outer field false false s0 := ⟨_, rfl⟩
      replace hst : s' = lev mx E.ins f r tg outer field null kind { s1 with pc := s.pc + 1 } := by rw [h1, h0]; exact hst
      have hl0 : Later s s0 := h0 ▸ pc_later hl x rfl
      have hl1 : Later s0 s1 := h1 ▸ lev_later mx E.ins f _ _ _ _ _ _ _
      have hl3 : Later s0 { s1 with pc := s.pc + 1 } := ⟨hl1.left, hl1.notes, hl1.tg, hl1.tg2, hl1.odd, hl1.viol⟩
      have hl2 : Later { s1 with pc := s.pc + 1 } s' := hst ▸ lev_later mx E.ins f _ _ _ _ _ _ _
      have hg2 := hl2.good hg
      have hg1 : Good s1 := ⟨hg2.1, hg2.2.1, hg2.2.2⟩
      have hxc := hO.calls p x hop
      have hcall := nest s0 s1 tg outer field false h1 hl0 (by rw [h0]; rfl) (by rw [h0]; exact hb) (by rw [h0]; exact ho) hg1 x (by rw [h0]; exact ⟨hxc, .inl rfl⟩) (by omega)
      have hnl : s1.notes.length ≤ 100000 := by have := hl0.notes; have := hl1.notes; have := hh.nt; omega
      have hcall' : ∀ w1 v1, Cx E w1 v1 s.notes s.tg s.rest x (steps + 1) depth → CallsEval E tg w1 (EvalPost E v1 depth outer field false s1 w1) := by
        rw [h0] at hcall
        exact hcall
      by_cases hb1 : s1.bad = 0
      · exact case_call E hE t A F tg null _ Q0 hp0 w v s.notes s.tg s.rest p steps depth r bv x hc hf hop hs0 hs1 hln hh.d0 outer field s1 hb1 hnl hcall' (fun a w' v' bv' pc2 steps2 k1 k2 k3 k4 h => go a w' v' bv' r null { s1 with pc := s.pc + 1 } _ steps2 h (hl0.trans hl3) hb1 ⟨by omega, .inl (by show _ = s.pc + 1; omega)⟩ (by have := hh.d1; omega) k3 k4 hst)
      · have hf1 : f ≠ 0 := by
          rintro rfl
          unfold lev at hst
          rw [hst] at hg
          exact absurd hg.2.1 (Nat.lt_irrefl 0)
        rw [lev_bad (by exact hb1) f hf1] at hst
        subst hst
        exact case_call_bad E hE t A F tg null _ Q0 hp0 w v s.notes s.tg s.rest p steps depth r bv x hc hf hop hs0 hs1 hln hh.d0 outer field s1 hb1 hnl hcall' (fun a w' v' err rest' pc' steps' he h => retb a w' v' rest' pc' steps' err h he hb1)
    | 9 =>
      intro hop hst hoo
      replace hst : s' = s.tick := hst
      subst hst
      exact case_return E hE t A F tg null _ Q0 hp0 w v s.notes s.tg s.rest p steps depth r bv x hc hf hop hs0 hs1 (fun a w' v' h => ret a w' v' _ false h (List.append_nil _).symm (fun e => absurd e (by decide)) hb (by show s.pc + 1 = _; omega) rfl)
    | 10 =>
      intro hop hst hoo
      replace hst : s' = { s.tick with bad := if 0 < x then x.toNat + 2 else 0 } := hst
      obtain ⟨hx0, hx1⟩ := hO.halts p x hop
      by_cases hx : x = 0
      · subst hx
        have h' : s' = s.tick := by rw [hst, if_neg (by decide)]; show _ = s.tick; unfold St.tick; simp [hb]
        subst h'
        exact case_halt0 E hE t A F tg null _ Q0 hp0 w v s.notes s.tg s.rest p steps depth r bv hc hf hop hs0 hs1 (fun a w' v' h => ret a w' v' _ false h (List.append_nil _).symm (fun e => absurd e (by decide)) hb (by show s.pc + 1 = _; omega) rfl)
      · obtain ⟨q, hq⟩ : ∃ q : Nat, x - 1 = q := ⟨(x - 1).toNat, by omega⟩
        have hql : q < E.texts.length := by omega
        have hbad : (if 0 < x then x.toNat + 2 else 0) = q + 3 := by rw [if_pos (by omega)]; omega
        rw [hbad] at hst
        subst hst
        exact case_halt E hE t A F tg null _ Q0 hp0 w v s.notes s.tg s.rest p steps depth r bv x hc hf hop hs0 hs1 q E.texts[q] hq (by omega) (List.getElem?_eq_getElem hql) (fun a w' v' err he h => retb a w' v' _ _ _ err h he (by simp))
    | 11 =>
      intro hop hst hoo
      replace hst : s' = lev mx E.ins f r tg outer field null kind (s.tick.jump x) := hst
      have hx0 : 0 ≤ x := by
        have h1 := (lev_later mx E.ins f r tg outer field null kind (s.tick.jump x)).odd (by rw [← hst]; exact hg.1)
        simp [St.jump] at h1
        exact h1.2
      exact case_jump E hE t A F tg null _ Q0 hp0 w v s.notes s.tg s.rest p steps depth r bv x hc hf hop hs0 hs1 (fun a w' v' bv' h => go a w' v' bv' r null (s.tick.jump x) x (steps + 1) h (jump_later hl) hb ⟨hx0, .inl rfl⟩ (by have := hh.d1; omega) (by omega) (by show steps + 1 + ((s.left - 1 : Nat) : Int) ≤ 1000000; have := hh.st1; omega) hst)
    | 12 =>
      intro hop hst hoo
      exact case_equal E hE t A F tg null _ Q0 hp0 w v s.notes s.tg s.rest p steps depth r bv x hc hf hop hs0 hs1 (fun a w' v' bv' h => go1 a w' v' bv' ({ r with cond := r.long == x }) null (s.tick) h (htk) hb (by show s.pc + 1 = _; omega) rfl hst)
    | 13 =>
      intro hop hst hoo
      exact case_greater E hE t A F tg null _ Q0 hp0 w v s.notes s.tg s.rest p steps depth r bv x hc hf hop hs0 hs1 (fun a w' v' bv' h => go1 a w' v' bv' ({ r with cond := decide (x < r.long) }) null (s.tick) h (htk) hb (by show s.pc + 1 = _; omega) rfl hst)
    | 14 =>
      intro hop hst hoo
      by_cases hcd : r.cond = true
      · replace hst : s' = lev mx E.ins f r tg outer field null kind (s.tick.jump x) := by
          have h : s' = lev mx E.ins f r tg outer field null kind (if r.cond then s.tick.jump x else s.tick) := hst
          rw [if_pos hcd] at h; exact h
        have hx0 : 0 ≤ x := by
          have h1 := (lev_later mx E.ins f r tg outer field null kind (s.tick.jump x)).odd (by rw [← hst]; exact hg.1)
          simp [St.jump] at h1
          exact h1.2
        exact case_cond E hE t A F tg null _ Q0 hp0 w v s.notes s.tg s.rest p steps depth r bv x hc hf hop hs0 hs1 hcd (fun a w' v' bv' h => go a w' v' bv' r null (s.tick.jump x) x (steps + 1) h (jump_later hl) hb ⟨hx0, .inl rfl⟩ (by have := hh.d1; omega) (by omega) (by show steps + 1 + ((s.left - 1 : Nat) : Int) ≤ 1000000; have := hh.st1; omega) hst)
      · replace hst : s' = lev mx E.ins f r tg outer field null kind s.tick := by
          have h : s' = lev mx E.ins f r tg outer field null kind (if r.cond then s.tick.jump x else s.tick) := hst
          rw [if_neg hcd] at h; exact h
        exact case_nocond E hE t A F tg null _ Q0 hp0 w v s.notes s.tg s.rest p steps depth r bv x hc hf hop hs0 hs1 (by simpa using hcd) (fun a w' v' bv' h => go1 a w' v' bv' r null s.tick h htk hb (by show s.pc + 1 = _; omega) rfl hst)
    | 15 =>
      intro hop hst hoo
      exact case_setlong E hE t A F tg null _ Q0 hp0 w v s.notes s.tg s.rest p steps depth r bv x hc hf hop hs0 hs1 (fun a w' v' bv' h => go1 a w' v' bv' ({ r with long := x }) null (s.tick) h (htk) hb (by show s.pc + 1 = _; omega) rfl hst)
    | 16 =>
      intro hop hst hoo
      exact case_addlong E hE t A F tg null _ Q0 hp0 w v s.notes s.tg s.rest p steps depth r bv x hc hf hop hs0 hs1 (fun a w' v' bv' h => go1 a w' v' bv' ({ r with long := wrap64 (r.long + x) }) null (s.tick) h (htk) hb (by show s.pc + 1 = _; omega) rfl hst)
    | 17 =>
      intro hop hst hoo
      exact case_mullong E hE t A F tg null _ Q0 hp0 w v s.notes s.tg s.rest p steps depth r bv x hc hf hop hs0 hs1 (fun a w' v' bv' h => go1 a w' v' bv' ({ r with long := wrap64 (r.long * x) }) null (s.tick) h (htk) hb (by show s.pc + 1 = _; omega) rfl hst)
    | 18 =>
      intro hop hst hoo
      exact case_setint E hE t A F tg null _ Q0 hp0 w v s.notes s.tg s.rest p steps depth r bv x hc hf hop hs0 hs1 (fun a w' v' bv' h => go1 a w' v' bv' ({ r with num := x }) null (s.tick) h (htk) hb (by show s.pc + 1 = _; omega) rfl hst)
    | 19 =>
      intro hop hst hoo
      obtain ⟨s0, h0⟩ : ∃ s0, s0 = s.tick := ⟨_, rfl⟩
      obtain ⟨s1, h1⟩ : ∃ s1, s1 = lev mx E.ins f regs0 tg outer field false false s0 := ⟨_, rfl⟩
      replace hst : s' = lev mx E.ins f r tg outer field null kind s1 := by rw [h1, h0]; exact hst
      have hl0 : Later s s0 := h0 ▸ step_later hl
      have hl1 : Later s0 s1 := h1 ▸ lev_later mx E.ins f _ _ _ _ _ _ _
      have hl3 : Later s0 s1 := hl1
      have hl2 : Later s1 s' := hst ▸ lev_later mx E.ins f _ _ _ _ _ _ _
      have hg2 := hl2.good hg
      have hg1 : Good s1 := ⟨hg2.1, hg2.2.1, hg2.2.2⟩
      have hcall := nest s0 s1 tg outer field false h1 hl0 (by rw [h0]; rfl) (by rw [h0]; exact hb) (by rw [h0]; exact ho) hg1 (p + 1) (by rw [h0]; exact ⟨by omega, .inl (by show _ = s.pc + 1; omega)⟩) (by omega)
      have hnl : s1.notes.length ≤ 100000 := by have := hl0.notes; have := hl1.notes; have := hh.nt; omega
      have hcall' : ∀ w1 v1, Cx E w1 v1 s.notes s.tg s.rest (p + 1) (steps + 1) depth → CallsEval E tg w1 (EvalPost E v1 depth outer field false s1 w1) := by
        rw [h0] at hcall
        exact hcall
      by_cases hb1 : s1.bad = 0
      · exact case_pushloop E hE t A F tg null _ Q0 hp0 w v s.notes s.tg s.rest p steps depth r bv x hc hf hop hs0 hs1 hln hh.d0 outer field s1 hb1 hnl hcall' (fun a w' v' bv' pc2 steps2 k1 k2 k3 k4 h => go a w' v' bv' r null s1 pc2 steps2 h (hl0.trans hl1) hb1 k1 k2 k3 k4 hst)
      · have hf1 : f ≠ 0 := by
          rintro rfl
          unfold lev at hst
          rw [hst] at hg
          exact absurd hg.2.1 (Nat.lt_irrefl 0)
        rw [lev_bad hb1 f hf1] at hst
        subst hst
        exact case_pushloop_bad E hE t A F tg null _ Q0 hp0 w v s.notes s.tg s.rest p steps depth r bv x hc hf hop hs0 hs1 hln hh.d0 outer field s' hb1 hnl hcall' (fun a w' v' err rest' pc' steps' he h => retb a w' v' rest' pc' steps' err h he hb1)
    | 20 =>
      intro hop hst hoo
      replace hst : s' = s.tick := hst
      subst hst
      exact case_poploop E hE t A F tg null _ Q0 hp0 w v s.notes s.tg s.rest p steps depth r bv x hc hf hop hs0 hs1 (fun a w' v' h => ret a w' v' _ false h (List.append_nil _).symm (fun e => absurd e (by decide)) hb (by show s.pc + 1 = _; omega) rfl)
    | 21 =>
      intro hop hst hoo
      exact case_nullfield E hE t A F tg null _ Q0 hp0 w v s.notes s.tg s.rest p steps depth r bv x hc hf hop hs0 hs1 hln (fun a w' v' bv' h => go1 a w' v' bv' (r) null (s.tick.note nmNullField tg x ⟨#[]⟩) h (noted_later hl rfl) hb (by show s.pc + 1 = _; omega) rfl hst)
    | 22 =>
      intro hop hst hoo
      exact case_hint E hE t A F tg null _ Q0 hp0 w v s.notes s.tg s.rest p steps depth r bv x hc hf hop hs0 hs1 hln (fun a w' v' bv' h => go1 a w' v' bv' (r) null (s.tick.note nmHintSize tg r.long ⟨#[]⟩) h (noted_later hl rfl) hb (by show s.pc + 1 = _; omega) rfl hst)
    | n + 23 => intro _ _ hoo; omega
end Go.Proofs.YtkhicabfmkldpaaDoor
