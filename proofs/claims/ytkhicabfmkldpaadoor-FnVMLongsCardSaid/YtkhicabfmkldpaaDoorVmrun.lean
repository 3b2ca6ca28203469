/-
  impl.VMRun: the run of a program over data.
-/
import Derived.Test.YtkhicabfmkldpaaDoorBuilt
import Derived.Test.YtkhicabfmkldpaaDoorFault2
import Derived.Test.YtkhicabfmkldpaaDoorEval
set_option linter.unusedSimpArgs false
set_option linter.unusedVariables false
namespace Go.Proofs.YtkhicabfmkldpaaDoor
open Go Go.RowKit

/-- The two sentinels are cells of their own. -/
structure Sent (w : World) (B : Nat) (e0 e1 : Addr) : Prop where
  at' : Eofs w B e0 e1
  ne : e1 ≠ e0
  c0 : ∃ c t, w.heap[e0.block]? = some (.cells c t (0, 0))
  c1 : ∃ c t, w.heap[e1.block]? = some (.cells c t (0, 0))
  b0 : e0.block < B
  b1 : e1.block < B

theorem Sent.chg {w w' : World} {B : Nat} {e0 e1 : Addr} {S : Nat → Prop} (h : Sent w B e0 e1) (hc : Chg S w w') (hS : ∀ k, S k → B ≤ k) : Sent w' B e0 e1 := by
  have key : ∀ k, k < B → k < w.heap.size → w'.heap[k]? = w.heap[k]? := fun k hk hl => hc.block k hl (fun e => by have := hS k e; omega)
  obtain ⟨ca, ta, ha⟩ := h.c0
  obtain ⟨cb, tb, hb⟩ := h.c1
  exact ⟨h.at'.chg hc hS, h.ne, ⟨ca, ta, by rw [key _ h.b0 (Array.getElem?_eq_some_iff.1 ha).1]; exact ha⟩, ⟨cb, tb, by rw [key _ h.b1 (Array.getElem?_eq_some_iff.1 hb).1]; exact hb⟩, h.b0, h.b1⟩

/-- What is told of a run's error. -/
def WhyIs (texts : List ByteArray) (b : Nat) (why : ByteArray) : Prop := (b = 0 → why = ⟨#[]⟩) ∧ (b = 1 → why = ⟨#[101, 111, 102]⟩) ∧ ∀ q, b = q + 3 → texts[q]? = some why

theorem fault_err (E : Env) (w : World) (v err : Value) (B : Nat) (hS : Sent w B E.e0 E.e1) (hTs : ∀ (q : Nat) (s : ByteArray), E.texts[q]? = some s → s.size ≤ 1000000) : ∀ {b : Nat}, ErrAt E w v err b → Calls Tryd.prog 29 #[err] w fun e w' => ∃ why, e = .returned (.string why) ∧ (∃ k, w' = w.drewN k) ∧ WhyIs E.texts b why
  | 0, h => by
    subst h
    refine (fault_nil w).mono ?_
    rintro e w' ⟨rfl, rfl⟩
    exact ⟨_, rfl, ⟨0, rfl⟩, fun _ => rfl, fun h => by omega, fun q h => by omega⟩
  | 1, h => by
    obtain ⟨ca, ta, ha⟩ := hS.c0
    obtain ⟨cb, tb, hb⟩ := hS.c1
    rcases h with rfl | rfl
    · refine (fault_e0 B E.e0 E.e1 w hS.at').mono ?_
      rintro e w' ⟨rfl, hk⟩
      exact ⟨_, rfl, hk, fun h => by omega, fun _ => rfl, fun q h => by omega⟩
    · refine (fault_e1 B E.e0 E.e1 cb ca tb ta w hS.at' hS.ne hb ha).mono ?_
      rintro e w' ⟨rfl, hk⟩
      exact ⟨_, rfl, hk, fun h => by omega, fun _ => rfl, fun q h => by omega⟩
  | 2, h => h.elim
  | q + 3, h => by
    obtain ⟨b, s, rfl, h2, h3, h4⟩ := h
    refine (fault_text B E.e0 E.e1 b s w hS.at' h2 (hTs q s h4)).mono ?_
    rintro e w' ⟨rfl, rfl⟩
    exact ⟨_, rfl, ⟨0, rfl⟩, fun h => by omega, fun h => by omega, fun q' h => by rw [show q' = q by omega]; exact h4⟩

/-- What is asked of a program and data ahead of a run. -/
structure Asked (ins : List (Nat × Int)) (data : List UInt8) : Prop where
  n : 0 < ins.length
  n2 : ins.length ≤ 100000
  ops : ∀ (i op : Nat) (x : Int), ins[i]? = some (op, x) → op ≤ 22 ∧ -2147483648 ≤ x ∧ x ≤ 2147483647
  calls : ∀ (i : Nat) (x : Int), ins[i]? = some (8, x) → 0 ≤ x
  data : data.length ≤ 100000

theorem InAt.chg {w w' : World} {v : Value} {l : List (Nat × Int)} (h : InAt w v l) (hc : Chg (fun _ => False) w w') : InAt w' v l := by
  obtain ⟨b, off, cap, rfl, h1⟩ := h
  refine ⟨b, off, cap, rfl, fun k op x hk => ?_⟩
  have h2 := h1 k op x hk
  have hb := hc.block b (World.block_lt_of_cell? w _ h2.1) (fun e => e)
  rw [cell_of hb, cell_of hb]
  exact h2

theorem TxtAt.form {w : World} {v : Value} {B : Nat} {l : List ByteArray} (h : TxtAt w v B l) : ∃ a n c, v = .slice a n c := by
  rcases h with ⟨_, rfl⟩ | ⟨b, off, cap, rfl, _⟩
  · exact ⟨_, _, _, rfl⟩
  · exact ⟨_, _, _, rfl⟩

theorem insCells_get : ∀ (l : List (Nat × Int)) (k op : Nat) (x : Int), l[k]? = some (op, x) → ∀ j, j < 2 → (insCells l)[k * 2 + j]? = [Value.int .i64 (op : Int), .int .i64 x][j]?
  | [], k, op, x, h, j, hj => by simp at h
  | m :: r, 0, op, x, h, j, hj => by
    simp at h
    subst h
    show ([_, _] ++ insCells r)[0 * 2 + j]? = _
    rw [List.getElem?_append_left (by simp; omega), Nat.zero_mul, Nat.zero_add]
  | m :: r, k + 1, op, x, h, j, hj => by
    show ([_, _] ++ insCells r)[(k + 1) * 2 + j]? = _
    rw [List.getElem?_append_right (by simp; omega)]
    rw [show (k + 1) * 2 + j - [Value.int .i64 (m.1 : Int), .int .i64 m.2].length = k * 2 + j by simp; omega]
    exact insCells_get r k op x (by simpa using h) j hj

/-- What a run of Eval leaves, as VMRun sees it. -/
def RunLeft (B N R : Nat) (sl : Bool) (dv : Value) (data : List UInt8) (texts : List ByteArray) (e0 e1 : Addr) (s' : St) (w : World) (err : Value) (w' : World) : Prop :=
  ∃ (E : Env) (v' : Value) (rest' : List UInt8), E.texts = texts ∧ E.e0 = e0 ∧ E.e1 = e1 ∧ ErrAt E w' v' err s'.bad ∧ NotesAt w' B N v' s'.notes s'.tg ∧ RdAt w' B R sl dv data rest' ∧ (s'.bad = 0 → rest' = s'.rest) ∧ Chg (fun k => B ≤ k) w w'

theorem eval_ready (sl : Bool) (ins : List (Nat × Int)) (texts : List ByteArray) (data : List UInt8) (ev dv : Value) (e0 e1 : Addr) (mx : Nat) (s' : St) (w w3 w4 : World) (R gI cap : Nat) (hA : Asked ins data) (hT : TxtAt w ev w.heap.size texts) (hTs : ∀ (q : Nat) (s : ByteArray), texts[q]? = some s → s.size ≤ 1000000)
    (hH : ∀ (i : Nat) (x : Int), ins[i]? = some (10, x) → 0 ≤ x ∧ x ≤ texts.length) (hD : RdB w dv data) (hDo : ∀ g, dv.ownBlock = some g → g < w.heap.size) (hS : Sent w w.heap.size e0 e1)
    (hs' : lev mx ins 3000 regs0 0 0 (-1) false false (st0 data 3000) = s') (hg : Good s')
    (hw3 : w3.heap.size = w.heap.size + 1 + 1 + 1) (hc3 : Chg (fun _ => False) w w3) (hN : blk w3 w.heap.size #[.slice none 0 0, .int .i64 0] 74) (hR : blk w3 R #[dv, .int .i64 0] (if sl then 77 else 80)) (hRr : w.heap.size + 1 ≤ R) (hRl : R ≤ w.heap.size + 1 + 1)
    (hc4 : Chg (fun _ => False) w3 w4) (hG : blk w4 w3.heap.size #[.slice (some ⟨gI, 0, none⟩) ins.length cap, ev, .int .i64 0, .int .i64 0] 110) (ho : w4.ownsRow w3.heap.size 116 2 (.slice (some ⟨gI, 0, none⟩) ins.length cap) ins.length (insCells ins)) (hgI : gI ≠ w3.heap.size) :
    Calls Tryd.prog 26 #[rdV sl R, .pointer (some ⟨w3.heap.size, 0, none⟩), .iface 87 (.agg #[.pointer (some ⟨w.heap.size, 0, none⟩), .int .i64 0])] w4 fun e w' => ∃ err, e = .returned err ∧ RunLeft w.heap.size w.heap.size R sl dv data texts e0 e1 s' w4 err w' := by
  have hgo := ho.lt gI rfl
  obtain ⟨E, hE0⟩ : ∃ E : Env, E = { B := w.heap.size, N := w.heap.size, R := R, G := w3.heap.size, gI := gI, C := w4.heap.size + 1, U := w4.heap.size + 1 + 1, cap := cap, sl0 := sl, dv := dv, data := data, ins := ins, ev := ev, texts := texts, e0 := e0, e1 := e1 } := ⟨_, rfl⟩
  have s4 := hc4.size
  have sG := hG.lt
  have hE : E.ok := by
    subst hE0
    refine ⟨hA.n, hA.n2, ?_, ?_, ?_, ?_, ?_, ?_, ?_, ?_, ?_, ?_, ?_, ?_, ?_, ?_, ?_, ?_, ?_, ?_, ?_, ?_, ?_, hA.ops, hTs⟩
    all_goals (simp only []; omega)
  have hO : OpsOk E := by subst hE0; exact ⟨hA.calls, hH⟩
  have hc34 : Chg (fun _ => False) w w4 := hc3.trans hc4 (fun _ _ e => e)
  have hP : Pre E w4 (.slice none 0 0) [] 0 data 0 0 := by
    subst hE0
    refine ⟨⟨hN.chg hc4 (fun e => e), ⟨rfl, .inl ⟨rfl, rfl⟩⟩, by simp [Value.ownBlock], Nat.le_refl _⟩, ⟨?_, hD.chg hc34 (fun _ _ _ e => e), by simp, by have := hA.data; show data.length ≤ 1000000; omega, hDo, by show w.heap.size ≤ R; omega⟩, hG, hgo.2, ?_, (hS.at'.chg hc34 (fun _ e => e.elim)), hT.chg hc34 (fun _ e => e.elim), fun g hg => by simp [Value.ownBlock] at hg, hc34.size⟩
    · simp only [Nat.sub_self]
      exact hR.chg hc4 (fun e => e)
    · intro k op x hk
      rcases ho.2 with ⟨h, _⟩ | ⟨g, cap', cur, hv, hb, hgg, hle, hmx, hsz, ht⟩
      · cases h
      · cases hv
        have hkl : k < ins.length := (List.getElem?_eq_some_iff.1 hk).1
        have key : ∀ j, j < 2 → w4.cell? ⟨gI, k * 2 + j, none⟩ = (insCells ins)[k * 2 + j]? := by
          intro j hj
          have hlt : k * 2 + j < cur.size := by rw [hsz]; omega
          have hb' : blk w4 gI cur 116 := hgg
          rw [hb'.cell (k * 2 + j) (v := cur[k * 2 + j]) (by simp [hlt]), ← ht, List.getElem?_take_of_lt (by omega)]
          simp [hlt]
        have h0 := key 0 (by omega)
        have h1 := key 1 (by omega)
        rw [insCells_get ins k op x hk 0 (by omega)] at h0
        rw [insCells_get ins k op x hk 1 (by omega)] at h1
        exact ⟨h0, h1⟩
  have hrun := eval_any E hE mx 3000 (call_all E hE hO mx 3000) s' data 3000 (by omega) w4 _ 0 0 hP (by subst hE0; rfl) (by subst hE0; rfl) (by subst hE0; exact hs') hg
  have hchg : ∀ w', Chg (E.S (.slice none 0 0)) w4 w' → Chg (fun k => w.heap.size ≤ k) w4 w' := by
    intro w' h
    refine h.mono (fun k _ e => ?_)
    subst hE0
    rcases e with e | e | e | e | e | e
    · exact Nat.le_of_eq e.symm
    · rw [show k = R from e]; omega
    · rw [show k = w3.heap.size from e]; omega
    · rw [show k = w4.heap.size + 1 from e]; omega
    · rw [show k = w4.heap.size + 1 + 1 from e]; omega
    · simp [Value.ownBlock] at e
  subst hE0
  refine hrun.mono ?_
  rintro e w' ⟨err, v', rest', rfl, h1, h2, h3, h4, h5, h6⟩
  exact ⟨err, rfl, _, v', rest', rfl, rfl, rfl, h1, h2, h3, h4, hchg w' h5⟩
end Go.Proofs.YtkhicabfmkldpaaDoor
