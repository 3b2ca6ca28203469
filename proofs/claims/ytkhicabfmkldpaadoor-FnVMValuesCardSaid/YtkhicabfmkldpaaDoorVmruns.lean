/-
  impl.VMRun: the run of a program over data.
  impl.VMRun: its contract.
-/
import Derived.Test.YtkhicabfmkldpaaDoorBuilt
import Derived.Test.YtkhicabfmkldpaaDoorFaults
import Derived.Test.YtkhicabfmkldpaaDoorEval
set_option linter.unusedSimpArgs false
set_option linter.unusedVariables false
namespace Go.Proofs.YtkhicabfmkldpaaDoor
open Go Go.RowKit

/-- The two sentinels are cells of their own. -/
structure Sent (w : World) (B : Nat) (e0 e1 : Addr) : Prop where
  at' : Eofs w B e0 e1
  ne : e1 ≠ e0
  c0 : ∃ c t, w.heap[e0.block]? = some (.cells c t (0, 0))
  c1 : ∃ c t, w.heap[e1.block]? = some (.cells c t (0, 0))
  b0 : e0.block < B
  b1 : e1.block < B

theorem Sent.chg {w w' : World} {B : Nat} {e0 e1 : Addr} {S : Nat → Prop} (h : Sent w B e0 e1) (hc : Chg S w w') (hS : ∀ k, S k → B ≤ k) : Sent w' B e0 e1 := by
  have key : ∀ k, k < B → k < w.heap.size → w'.heap[k]? = w.heap[k]? := fun k hk hl => hc.block k hl (fun e => by have := hS k e; omega)
  obtain ⟨ca, ta, ha⟩ := h.c0
  obtain ⟨cb, tb, hb⟩ := h.c1
  exact ⟨h.at'.chg hc hS, h.ne, ⟨ca, ta, by rw [key _ h.b0 (Array.getElem?_eq_some_iff.1 ha).1]; exact ha⟩, ⟨cb, tb, by rw [key _ h.b1 (Array.getElem?_eq_some_iff.1 hb).1]; exact hb⟩, h.b0, h.b1⟩

/-- What is told of a run's error. -/
def WhyIs (texts : List ByteArray) (b : Nat) (why : ByteArray) : Prop := (b = 0 → why = ⟨#[]⟩) ∧ (b = 1 → why = ⟨#[101, 111, 102]⟩) ∧ ∀ q, b = q + 3 → texts[q]? = some why

theorem fault_err (E : Env) (w : World) (v err : Value) (B : Nat) (hS : Sent w B E.e0 E.e1) (hTs : ∀ (q : Nat) (s : ByteArray), E.texts[q]? = some s → s.size ≤ 1000000) : ∀ {b : Nat}, ErrAt E w v err b → Calls Tryd.prog 29 #[err] w fun e w' => ∃ why, e = .returned (.string why) ∧ (∃ k, w' = w.drewN k) ∧ WhyIs E.texts b why
  | 0, h => by
    subst h
    refine (fault_nil w).mono ?_
    rintro e w' ⟨rfl, rfl⟩
    exact ⟨_, rfl, ⟨0, rfl⟩, fun _ => rfl, fun h => by omega, fun q h => by omega⟩
  | 1, h => by
    obtain ⟨ca, ta, ha⟩ := hS.c0
    obtain ⟨cb, tb, hb⟩ := hS.c1
    rcases h with rfl | rfl
    · refine (fault_e0 B E.e0 E.e1 w hS.at').mono ?_
      rintro e w' ⟨rfl, hk⟩
      exact ⟨_, rfl, hk, fun h => by omega, fun _ => rfl, fun q h => by omega⟩
    · refine (fault_e1 B E.e0 E.e1 cb ca tb ta w hS.at' hS.ne hb ha).mono ?_
      rintro e w' ⟨rfl, hk⟩
      exact ⟨_, rfl, hk, fun h => by omega, fun _ => rfl, fun q h => by omega⟩
  | 2, h => h.elim
  | q + 3, h => by
    obtain ⟨b, s, rfl, h2, h3, h4⟩ := h
    refine (fault_text B E.e0 E.e1 b s w hS.at' h2 (hTs q s h4)).mono ?_
    rintro e w' ⟨rfl, rfl⟩
    exact ⟨_, rfl, ⟨0, rfl⟩, fun h => by omega, fun h => by omega, fun q' h => by rw [show q' = q by omega]; exact h4⟩

/-- What is asked of a program and data ahead of a run. -/
structure Asked (ins : List (Nat × Int)) (data : List UInt8) : Prop where
  n : 0 < ins.length
  n2 : ins.length ≤ 100000
  ops : ∀ (i op : Nat) (x : Int), ins[i]? = some (op, x) → op ≤ 22 ∧ -2147483648 ≤ x ∧ x ≤ 2147483647
  calls : ∀ (i : Nat) (x : Int), ins[i]? = some (8, x) → 0 ≤ x
  data : data.length ≤ 100000

theorem InAt.chg {w w' : World} {v : Value} {l : List (Nat × Int)} (h : InAt w v l) (hc : Chg (fun _ => False) w w') : InAt w' v l := by
  obtain ⟨b, off, cap, rfl, h1⟩ := h
  refine ⟨b, off, cap, rfl, fun k op x hk => ?_⟩
  have h2 := h1 k op x hk
  have hb := hc.block b (World.block_lt_of_cell? w _ h2.1) (fun e => e)
  rw [cell_of hb, cell_of hb]
  exact h2

theorem TxtAt.form {w : World} {v : Value} {B : Nat} {l : List ByteArray} (h : TxtAt w v B l) : ∃ a n c, v = .slice a n c := by
  rcases h with ⟨_, rfl⟩ | ⟨b, off, cap, rfl, _⟩
  · exact ⟨_, _, _, rfl⟩
  · exact ⟨_, _, _, rfl⟩

theorem insCells_get : ∀ (l : List (Nat × Int)) (k op : Nat) (x : Int), l[k]? = some (op, x) → ∀ j, j < 2 → (insCells l)[k * 2 + j]? = [Value.int .i64 (op : Int), .int .i64 x][j]?
  | [], k, op, x, h, j, hj => by simp at h
  | m :: r, 0, op, x, h, j, hj => by
    simp at h
    subst h
    show ([_, _] ++ insCells r)[0 * 2 + j]? = _
    rw [List.getElem?_append_left (by simp; omega), Nat.zero_mul, Nat.zero_add]
  | m :: r, k + 1, op, x, h, j, hj => by
    show ([_, _] ++ insCells r)[(k + 1) * 2 + j]? = _
    rw [List.getElem?_append_right (by simp; omega)]
    rw [show (k + 1) * 2 + j - [Value.int .i64 (m.1 : Int), .int .i64 m.2].length = k * 2 + j by simp; omega]
    exact insCells_get r k op x (by simpa using h) j hj

/-- What a run of Eval leaves, as VMRun sees it. -/
def RunLeft (B N R : Nat) (sl : Bool) (dv : Value) (data : List UInt8) (texts : List ByteArray) (e0 e1 : Addr) (s' : St) (w : World) (err : Value) (w' : World) : Prop :=
  ∃ (E : Env) (v' : Value) (rest' : List UInt8), E.texts = texts ∧ E.e0 = e0 ∧ E.e1 = e1 ∧ ErrAt E w' v' err s'.bad ∧ NotesAt w' B N v' s'.notes s'.tg ∧ RdAt w' B R sl dv data rest' ∧ (s'.bad = 0 → rest' = s'.rest) ∧ Chg (fun k => B ≤ k) w w'

theorem eval_ready (sl : Bool) (ins : List (Nat × Int)) (texts : List ByteArray) (data : List UInt8) (ev dv : Value) (e0 e1 : Addr) (mx : Nat) (s' : St) (w w3 w4 : World) (R gI cap : Nat) (hA : Asked ins data) (hT : TxtAt w ev w.heap.size texts) (hTs : ∀ (q : Nat) (s : ByteArray), texts[q]? = some s → s.size ≤ 1000000)
    (hH : ∀ (i : Nat) (x : Int), ins[i]? = some (10, x) → 0 ≤ x ∧ x ≤ texts.length) (hD : RdB w dv data) (hDo : ∀ g, dv.ownBlock = some g → g < w.heap.size) (hS : Sent w w.heap.size e0 e1)
    (hs' : lev mx ins 3000 regs0 0 0 (-1) false false (st0 data 3000) = s') (hg : Good s')
    (hw3 : w3.heap.size = w.heap.size + 1 + 1 + 1) (hc3 : Chg (fun _ => False) w w3) (hN : blk w3 w.heap.size #[.slice none 0 0, .int .i64 0] 74) (hR : blk w3 R #[dv, .int .i64 0] (if sl then 77 else 80)) (hRr : w.heap.size + 1 ≤ R) (hRl : R ≤ w.heap.size + 1 + 1)
    (hc4 : Chg (fun _ => False) w3 w4) (hG : blk w4 w3.heap.size #[.slice (some ⟨gI, 0, none⟩) ins.length cap, ev, .int .i64 0, .int .i64 0] 110) (ho : w4.ownsRow w3.heap.size 116 2 (.slice (some ⟨gI, 0, none⟩) ins.length cap) ins.length (insCells ins)) (hgI : gI ≠ w3.heap.size) :
    Calls Tryd.prog 26 #[rdV sl R, .pointer (some ⟨w3.heap.size, 0, none⟩), .iface 87 (.agg #[.pointer (some ⟨w.heap.size, 0, none⟩), .int .i64 0])] w4 fun e w' => ∃ err, e = .returned err ∧ RunLeft w.heap.size w.heap.size R sl dv data texts e0 e1 s' w4 err w' := by
  have hgo := ho.lt gI rfl
  obtain ⟨E, hE0⟩ : ∃ E : Env, E = { B := w.heap.size, N := w.heap.size, R := R, G := w3.heap.size, gI := gI, C := w4.heap.size + 1, U := w4.heap.size + 1 + 1, cap := cap, sl0 := sl, dv := dv, data := data, ins := ins, ev := ev, texts := texts, e0 := e0, e1 := e1 } := ⟨_, rfl⟩
  have s4 := hc4.size
  have sG := hG.lt
  have hE : E.ok := by
    subst hE0
    refine ⟨hA.n, hA.n2, ?_, ?_, ?_, ?_, ?_, ?_, ?_, ?_, ?_, ?_, ?_, ?_, ?_, ?_, ?_, ?_, ?_, ?_, ?_, ?_, ?_, hA.ops, hTs⟩
    all_goals (simp only []; omega)
  have hO : OpsOk E := by subst hE0; exact ⟨hA.calls, hH⟩
  have hc34 : Chg (fun _ => False) w w4 := hc3.trans hc4 (fun _ _ e => e)
  have hP : Pre E w4 (.slice none 0 0) [] 0 data 0 0 := by
    subst hE0
    refine ⟨⟨hN.chg hc4 (fun e => e), ⟨rfl, .inl ⟨rfl, rfl⟩⟩, by simp [Value.ownBlock], Nat.le_refl _⟩, ⟨?_, hD.chg hc34 (fun _ _ _ e => e), by simp, by have := hA.data; show data.length ≤ 1000000; omega, hDo, by show w.heap.size ≤ R; omega⟩, hG, hgo.2, ?_, (hS.at'.chg hc34 (fun _ e => e.elim)), hT.chg hc34 (fun _ e => e.elim), fun g hg => by simp [Value.ownBlock] at hg, hc34.size⟩
    · simp only [Nat.sub_self]
      exact hR.chg hc4 (fun e => e)
    · intro k op x hk
      rcases ho.2 with ⟨h, _⟩ | ⟨g, cap', cur, hv, hb, hgg, hle, hmx, hsz, ht⟩
      · cases h
      · cases hv
        have hkl : k < ins.length := (List.getElem?_eq_some_iff.1 hk).1
        have key : ∀ j, j < 2 → w4.cell? ⟨gI, k * 2 + j, none⟩ = (insCells ins)[k * 2 + j]? := by
          intro j hj
          have hlt : k * 2 + j < cur.size := by rw [hsz]; omega
          have hb' : blk w4 gI cur 116 := hgg
          rw [hb'.cell (k * 2 + j) (v := cur[k * 2 + j]) (by simp [hlt]), ← ht, List.getElem?_take_of_lt (by omega)]
          simp [hlt]
        have h0 := key 0 (by omega)
        have h1 := key 1 (by omega)
        rw [insCells_get ins k op x hk 0 (by omega)] at h0
        rw [insCells_get ins k op x hk 1 (by omega)] at h1
        exact ⟨h0, h1⟩
  have hrun := eval_any E hE mx 3000 (call_all E hE hO mx 3000) s' data 3000 (by omega) w4 _ 0 0 hP (by subst hE0; rfl) (by subst hE0; rfl) (by subst hE0; exact hs') hg
  have hchg : ∀ w', Chg (E.S (.slice none 0 0)) w4 w' → Chg (fun k => w.heap.size ≤ k) w4 w' := by
    intro w' h
    refine h.mono (fun k _ e => ?_)
    subst hE0
    rcases e with e | e | e | e | e | e
    · exact Nat.le_of_eq e.symm
    · rw [show k = R from e]; omega
    · rw [show k = w3.heap.size from e]; omega
    · rw [show k = w4.heap.size + 1 from e]; omega
    · rw [show k = w4.heap.size + 1 + 1 from e]; omega
    · simp [Value.ownBlock] at e
  subst hE0
  refine hrun.mono ?_
  rintro e w' ⟨err, v', rest', rfl, h1, h2, h3, h4, h5, h6⟩
  exact ⟨err, rfl, _, v', rest', rfl, rfl, rfl, h1, h2, h3, h4, hchg w' h5⟩
end Go.Proofs.YtkhicabfmkldpaaDoor

namespace Go.Proofs.YtkhicabfmkldpaaDoor
open Go Go.RowKit

theorem bad_iff {E : Env} {w : World} {v err : Value} : ∀ {b : Nat}, ErrAt E w v err b → (err = .nilIface ↔ b = 0)
  | 0, h => ⟨fun _ => rfl, fun _ => h⟩
  | b + 1, h => by
    refine ⟨fun e => ?_, fun e => by omega⟩
    obtain ⟨t, u, h2⟩ := h.isErr (by omega)
    rw [e] at h2
    cases h2

/-- What VMRun hands back. -/
def VmPost (texts : List ByteArray) (s' : St) (w : World) (e : Ending) (w' : World) : Prop :=
  ∃ (v' : Value) (rest' : List UInt8) (why : ByteArray), e = .returned (.tuple #[v', .int .i64 rest'.length, .string why, .bool (decide (s'.bad = 0))]) ∧ CallsAt w' v' s'.notes ∧ w'.ownsRow w.heap.size 47 4 v' s'.notes.length (s'.notes.flatMap Note.cells) ∧ (s'.bad = 0 → rest' = s'.rest) ∧ WhyIs texts s'.bad why ∧ Chg (fun _ => False) w w'

set_option maxHeartbeats 4000000 in
set_option maxRecDepth 100000 in
theorem vmrun_slow (ins : List (Nat × Int)) (texts : List ByteArray) (data : List UInt8) (iv ev dv : Value) (e0 e1 : Addr) (mx : Nat) (s' : St) (w : World) (hA : Asked ins data) (hI : InAt w iv ins) (hT : TxtAt w ev w.heap.size texts) (hTs : ∀ (q : Nat) (s : ByteArray), texts[q]? = some s → s.size ≤ 1000000)
    (hH : ∀ (i : Nat) (x : Int), ins[i]? = some (10, x) → 0 ≤ x ∧ x ≤ texts.length) (hD : RdB w dv data) (hDo : ∀ g, dv.ownBlock = some g → g < w.heap.size) (hS : Sent w w.heap.size e0 e1)
    (hs' : lev mx ins 3000 regs0 0 0 (-1) false false (st0 data 3000) = s') (hg : Good s') :
    Calls Tryd.prog 13 #[iv, ev, dv, .bool true] w (VmPost texts s' w) := by
  obtain ⟨dva, dvc, hdvf⟩ := hD.form
  obtain ⟨w3, hw3⟩ : ∃ w3, (((w.alloc (.cells #[.slice none 0 0, .int .i64 0] 74)).alloc (.cells #[.slice dva data.length dvc, .int .i64 0] 77)).alloc (.cells #[.slice dva data.length dvc, .int .i64 0] 80)) = w3 := ⟨_, rfl⟩
  have hsz : w3.heap.size = w.heap.size + 1 + 1 + 1 := by rw [← hw3]; simp
  have hc3 : Chg (fun _ => False) w w3 := by rw [← hw3]; exact (((Chg.refl _ w).alloc _).alloc _).alloc _
  have hN : blk w3 w.heap.size #[.slice none 0 0, .int .i64 0] 74 := by rw [← hw3]; exact ((blk_new w _ _).alloc _).alloc _
  have hR : blk w3 (w.heap.size + 1) #[dv, .int .i64 0] (if true then 77 else 80) := by rw [← hw3, hdvf]; exact (blk_new' (by simp) _ _).alloc _
  have hprog := program_any ins hA.n hA.n2 iv ev hT.form w3 (hI.chg hc3)
  have hready : ∀ w4 gI cap, Chg (fun _ => False) w3 w4 → blk w4 w3.heap.size #[.slice (some ⟨gI, 0, none⟩) ins.length cap, ev, .int .i64 0, .int .i64 0] 110 → w4.ownsRow w3.heap.size 116 2 (.slice (some ⟨gI, 0, none⟩) ins.length cap) ins.length (insCells ins) → gI ≠ w3.heap.size →
      Calls Tryd.prog 26 #[rdV true (w.heap.size + 1), .pointer (some ⟨w3.heap.size, 0, none⟩), .iface 87 (.agg #[.pointer (some ⟨w.heap.size, 0, none⟩), .int .i64 0])] w4 fun e w' => ∃ err, e = .returned err ∧ RunLeft w.heap.size w.heap.size (w.heap.size + 1) true dv data texts e0 e1 s' w4 err w' :=
    fun w4 gI cap k1 k2 k3 k4 => eval_ready true ins texts data ev dv e0 e1 mx s' w w3 w4 (w.heap.size + 1) gI cap hA hT hTs hH hD hDo hS hs' hg hsz hc3 hN hR (by omega) (by omega) k1 k2 k3 k4
  obtain ⟨iva, ivn, ivc, hivf⟩ : ∃ a n c, iv = .slice a n c := by obtain ⟨b, off, cap, rfl, _⟩ := hI; exact ⟨_, _, _, rfl⟩
  obtain ⟨eva, evn, evc, hevf⟩ := hT.form
  rw [hsz] at hprog hready
  have hS3 := hS.chg hc3 (fun _ e => e.elim)
  rw [← hw3] at hprog hready hc3 hS3
  rw [hdvf] at hready
  subst hivf hevf
  have Hprog := hid hprog
  have Hready := hid hready
  have Hc3 := hid hc3
  have HTs := hid hTs
  have HS3 := hid hS3
  have Hdv := hid hdvf
  rw [hdvf]
  clear hprog hready hc3 hTs hS3 hI hT hD hDo hS hs' hg hN hR hw3 hsz hA hH hdvf
  go_enter Tryd.func13, Tryd.ntmps13
  go_wp2_with (first | (go_at_call 27; refine (Hprog.out).mono ?_; rintro e w4 ⟨gI, cap, rfl, k1, k2, k3, k4⟩; have Hk := hid (And.intro k4 (And.intro k1 (And.intro k2 k3))); clear k1 k2 k3 k4) | (go_at_call 26; refine (Hready.out w4 gI cap Hk.out.1 Hk.out.2.1 Hk.out.2.2.1 Hk.out.2.2.2).mono ?_; rintro e w5 ⟨err, rfl, hrun⟩; have Hrun := hid hrun; clear hrun) | (go_at_call 28; obtain ⟨E, v5, rest5, t1, t2, t3, t4, t5, t6, t7, t8⟩ := Hrun.out; refine (left_any w.heap.size _ true _ data rest5 w5 t6).mono ?_; rintro e w6 ⟨rfl, kk, rfl⟩; have Ht := hid (And.intro t1 (And.intro t2 (And.intro t3 (And.intro t4 (And.intro t5 (And.intro t7 t8)))))); clear t1 t2 t3 t4 t5 t6 t7 t8 Hrun))
  obtain ⟨t1, t2, t3, t4, t5, t7, t8⟩ := Ht.out
  have hform := t4.form
  have hC5 : Chg (fun k => w.heap.size ≤ k) w ((w5.drewN kk).drew) := ((((Hc3.out.mono (S' := fun k => w.heap.size ≤ k) (fun _ _ e => e.elim)).trans Hk.out.1 (fun _ _ e => e.elim)).trans t8 (fun _ _ e => e)).drewN kk).drew
  have hS5 : Sent ((w5.drewN kk).drew) w.heap.size E.e0 E.e1 := by
    rw [t2, t3]
    exact (((HS3.out.chg Hk.out.1 (fun _ e => e.elim)).chg t8 (fun _ e => e)).chg (((Chg.refl (fun _ => False) w5).drewN kk).drew) (fun _ e => e.elim))
  have hE5 : ErrAt E ((w5.drewN kk).drew) v5 err s'.bad := t4.chg (((Chg.refl (fun _ => False) w5).drewN kk).drew) (fun _ e => e.elim) (Fresh.refl _ _)
  have hN5 : NotesAt ((w5.drewN kk).drew) w.heap.size w.heap.size v5 s'.notes s'.tg := t5.chg (((Chg.refl (fun _ => False) w5).drewN kk).drew) (fun e => e) (fun _ _ e => e)
  obtain ⟨wz, hwz⟩ : ∃ wz, (w5.drewN kk).drew = wz := ⟨_, rfl⟩
  rw [hwz] at hC5 hS5 hE5 hN5
  have HC5 := hid hC5
  have HN5 := hid hN5
  have cN : wz.cell? ⟨w.heap.size, 0, none⟩ = some v5 := hN5.blk.cell 0 rfl
  have hfault := fault_err E wz v5 err w.heap.size hS5 (by rw [t1]; exact HTs.out) hE5
  have HF := hid hfault
  have HBad := hid (bad_iff t4)
  have HT7 := hid (And.intro t1 t7)
  clear t1 t2 t3 t4 t5 t7 t8 hC5 hS5 hE5 hN5 hfault Ht Hc3 Hk HS3 Hprog Hready
  have fin : ∀ (e : Ending) (b : Bool) (why : ByteArray) (k : Nat), e = .returned (.tuple #[v5, .int .i64 rest5.length, .string why, .bool b]) → b = decide (s'.bad = 0) → WhyIs E.texts s'.bad why → VmPost texts s' w e (wz.drewN k) := by
    intro e b why k he hb hw
    refine ⟨v5, rest5, why, by rw [he, hb], callsAt_of_own (World.ownsRow.chg HN5.out.own ((Chg.refl (fun _ => False) wz).drewN k) (fun _ _ e => e)), World.ownsRow.chg HN5.out.own ((Chg.refl (fun _ => False) wz).drewN k) (fun _ _ e => e), HT7.out.2, HT7.out.1 ▸ hw, (HC5.out.drewN k).mono (fun i hi e => absurd hi (by omega))⟩
  have Hfin := hid fin
  clear fin
  refine wp_region_till (fun w' => w'.cell? ⟨w.heap.size, 0, none⟩ = some v5) 100 (by kernel_rfl) ?_
  rw [hwz]
  clear hwz
  rcases hform with rfl | ⟨et, eu, rfl⟩
  · refine wpTill_reads 5 [0, 1, 2, 3, 4, 5, 7, 8] (by kernel_rfl) ?_ cN ?_
    · intro c a d v w h; cases d <;> exact h
    iterate 8 (refine wpReads_cons (v := ?_) rfl (yieldsIf_yes rfl fun w' hw => ?_) ?_; rotate_left; (first | (go_simp; done) | (go_simp; exact rfl)); simp only [Act.put, List.setIfInBounds_toArray, List.set_cons_zero, List.set_cons_succ, List.getElem_toArray, List.getElem_cons_zero, List.getElem_cons_succ])
    refine wpReads_nil ?_
    simp only [listAll]
    refine wpTill_one (i := 6) (by kernel_rfl) rfl rfl ?_
    intro K hK
    go_step
    refine (HF.out).mono ?_
    rintro e w6 ⟨why, rfl, ⟨kf, rfl⟩, hwhy⟩
    refine hK _ _ ⟨fun _ => cN, ?_⟩
    clear hK K
    refine wpTill_reads 0 [9, 10, 11, 12] (by kernel_rfl) ?_ cN ?_
    · intro c a d v w h; cases d <;> exact h
    iterate 4 (refine wpReads_cons (v := ?_) rfl (yieldsIf_yes rfl fun w' hw => ?_) ?_; rotate_left; (first | (go_simp; done) | (go_simp; exact rfl)); simp only [Act.put, List.setIfInBounds_toArray, List.set_cons_zero, List.set_cons_succ, List.getElem_toArray, List.getElem_cons_zero, List.getElem_cons_succ])
    refine wpReads_nil ?_
    simp only [listAll]
    refine wpTill_done (by kernel_rfl) ?_ _
    have Hwhy := hid hwhy
    clear hwhy
    go_wp2
    have hb := HBad.out
    simp at hb
    exact bodyPost_ret (v := .tuple #[v5, .int .i64 rest5.length, .string why, .bool true]) (by simp [results, Tryd.results13]) rfl (Hfin.out _ true why kf rfl (by simp [hb]) Hwhy.out)
  · refine wpTill_reads 5 [0, 1, 2, 3, 4, 5, 7, 8] (by kernel_rfl) ?_ cN ?_
    · intro c a d v w h; cases d <;> exact h
    iterate 8 (refine wpReads_cons (v := ?_) rfl (yieldsIf_yes rfl fun w' hw => ?_) ?_; rotate_left; (first | (go_simp; done) | (go_simp; exact rfl)); simp only [Act.put, List.setIfInBounds_toArray, List.set_cons_zero, List.set_cons_succ, List.getElem_toArray, List.getElem_cons_zero, List.getElem_cons_succ])
    refine wpReads_nil ?_
    simp only [listAll]
    refine wpTill_one (i := 6) (by kernel_rfl) rfl rfl ?_
    intro K hK
    go_step
    refine (HF.out).mono ?_
    rintro e w6 ⟨why, rfl, ⟨kf, rfl⟩, hwhy⟩
    refine hK _ _ ⟨fun _ => cN, ?_⟩
    clear hK K
    refine wpTill_reads 0 [9, 10, 11, 12] (by kernel_rfl) ?_ cN ?_
    · intro c a d v w h; cases d <;> exact h
    iterate 4 (refine wpReads_cons (v := ?_) rfl (yieldsIf_yes rfl fun w' hw => ?_) ?_; rotate_left; (first | (go_simp; done) | (go_simp; exact rfl)); simp only [Act.put, List.setIfInBounds_toArray, List.set_cons_zero, List.set_cons_succ, List.getElem_toArray, List.getElem_cons_zero, List.getElem_cons_succ])
    refine wpReads_nil ?_
    simp only [listAll]
    refine wpTill_done (by kernel_rfl) ?_ _
    have Hwhy := hid hwhy
    clear hwhy
    go_wp2
    have hb := HBad.out
    simp at hb
    exact bodyPost_ret (v := .tuple #[v5, .int .i64 rest5.length, .string why, .bool false]) (by simp [results, Tryd.results13]) rfl (Hfin.out _ false why kf rfl (by simp [hb]) Hwhy.out)

set_option maxHeartbeats 4000000 in
set_option maxRecDepth 100000 in
theorem vmrun_fast (ins : List (Nat × Int)) (texts : List ByteArray) (data : List UInt8) (iv ev dv : Value) (e0 e1 : Addr) (mx : Nat) (s' : St) (w : World) (hA : Asked ins data) (hI : InAt w iv ins) (hT : TxtAt w ev w.heap.size texts) (hTs : ∀ (q : Nat) (s : ByteArray), texts[q]? = some s → s.size ≤ 1000000)
    (hH : ∀ (i : Nat) (x : Int), ins[i]? = some (10, x) → 0 ≤ x ∧ x ≤ texts.length) (hD : RdB w dv data) (hDo : ∀ g, dv.ownBlock = some g → g < w.heap.size) (hS : Sent w w.heap.size e0 e1)
    (hs' : lev mx ins 3000 regs0 0 0 (-1) false false (st0 data 3000) = s') (hg : Good s') :
    Calls Tryd.prog 13 #[iv, ev, dv, .bool false] w (VmPost texts s' w) := by
  obtain ⟨dva, dvc, hdvf⟩ := hD.form
  obtain ⟨w3, hw3⟩ : ∃ w3, (((w.alloc (.cells #[.slice none 0 0, .int .i64 0] 74)).alloc (.cells #[.slice dva data.length dvc, .int .i64 0] 77)).alloc (.cells #[.slice dva data.length dvc, .int .i64 0] 80)) = w3 := ⟨_, rfl⟩
  have hsz : w3.heap.size = w.heap.size + 1 + 1 + 1 := by rw [← hw3]; simp
  have hc3 : Chg (fun _ => False) w w3 := by rw [← hw3]; exact (((Chg.refl _ w).alloc _).alloc _).alloc _
  have hN : blk w3 w.heap.size #[.slice none 0 0, .int .i64 0] 74 := by rw [← hw3]; exact ((blk_new w _ _).alloc _).alloc _
  have hR : blk w3 (w.heap.size + 1 + 1) #[dv, .int .i64 0] (if false then 77 else 80) := by rw [← hw3, hdvf]; exact blk_new' (by simp) _ _
  have hprog := program_any ins hA.n hA.n2 iv ev hT.form w3 (hI.chg hc3)
  have hready : ∀ w4 gI cap, Chg (fun _ => False) w3 w4 → blk w4 w3.heap.size #[.slice (some ⟨gI, 0, none⟩) ins.length cap, ev, .int .i64 0, .int .i64 0] 110 → w4.ownsRow w3.heap.size 116 2 (.slice (some ⟨gI, 0, none⟩) ins.length cap) ins.length (insCells ins) → gI ≠ w3.heap.size →
      Calls Tryd.prog 26 #[rdV false (w.heap.size + 1 + 1), .pointer (some ⟨w3.heap.size, 0, none⟩), .iface 87 (.agg #[.pointer (some ⟨w.heap.size, 0, none⟩), .int .i64 0])] w4 fun e w' => ∃ err, e = .returned err ∧ RunLeft w.heap.size w.heap.size (w.heap.size + 1 + 1) false dv data texts e0 e1 s' w4 err w' :=
    fun w4 gI cap k1 k2 k3 k4 => eval_ready false ins texts data ev dv e0 e1 mx s' w w3 w4 (w.heap.size + 1 + 1) gI cap hA hT hTs hH hD hDo hS hs' hg hsz hc3 hN hR (by omega) (by omega) k1 k2 k3 k4
  obtain ⟨iva, ivn, ivc, hivf⟩ : ∃ a n c, iv = .slice a n c := by obtain ⟨b, off, cap, rfl, _⟩ := hI; exact ⟨_, _, _, rfl⟩
  obtain ⟨eva, evn, evc, hevf⟩ := hT.form
  rw [hsz] at hprog hready
  have hS3 := hS.chg hc3 (fun _ e => e.elim)
  rw [← hw3] at hprog hready hc3 hS3
  rw [hdvf] at hready
  subst hivf hevf
  have Hprog := hid hprog
  have Hready := hid hready
  have Hc3 := hid hc3
  have HTs := hid hTs
  have HS3 := hid hS3
  have Hdv := hid hdvf
  rw [hdvf]
  clear hprog hready hc3 hTs hS3 hI hT hD hDo hS hs' hg hN hR hw3 hsz hA hH hdvf
  go_enter Tryd.func13, Tryd.ntmps13
  go_wp2_with (first | (go_at_call 27; refine (Hprog.out).mono ?_; rintro e w4 ⟨gI, cap, rfl, k1, k2, k3, k4⟩; have Hk := hid (And.intro k4 (And.intro k1 (And.intro k2 k3))); clear k1 k2 k3 k4) | (go_at_call 26; refine (Hready.out w4 gI cap Hk.out.1 Hk.out.2.1 Hk.out.2.2.1 Hk.out.2.2.2).mono ?_; rintro e w5 ⟨err, rfl, hrun⟩; have Hrun := hid hrun; clear hrun) | (go_at_call 28; obtain ⟨E, v5, rest5, t1, t2, t3, t4, t5, t6, t7, t8⟩ := Hrun.out; refine (left_any w.heap.size _ false _ data rest5 w5 t6).mono ?_; rintro e w6 ⟨rfl, kk, rfl⟩; have Ht := hid (And.intro t1 (And.intro t2 (And.intro t3 (And.intro t4 (And.intro t5 (And.intro t7 t8)))))); clear t1 t2 t3 t4 t5 t6 t7 t8 Hrun))
  obtain ⟨t1, t2, t3, t4, t5, t7, t8⟩ := Ht.out
  have hform := t4.form
  have hC5 : Chg (fun k => w.heap.size ≤ k) w ((w5.drewN kk).drew) := ((((Hc3.out.mono (S' := fun k => w.heap.size ≤ k) (fun _ _ e => e.elim)).trans Hk.out.1 (fun _ _ e => e.elim)).trans t8 (fun _ _ e => e)).drewN kk).drew
  have hS5 : Sent ((w5.drewN kk).drew) w.heap.size E.e0 E.e1 := by
    rw [t2, t3]
    exact (((HS3.out.chg Hk.out.1 (fun _ e => e.elim)).chg t8 (fun _ e => e)).chg (((Chg.refl (fun _ => False) w5).drewN kk).drew) (fun _ e => e.elim))
  have hE5 : ErrAt E ((w5.drewN kk).drew) v5 err s'.bad := t4.chg (((Chg.refl (fun _ => False) w5).drewN kk).drew) (fun _ e => e.elim) (Fresh.refl _ _)
  have hN5 : NotesAt ((w5.drewN kk).drew) w.heap.size w.heap.size v5 s'.notes s'.tg := t5.chg (((Chg.refl (fun _ => False) w5).drewN kk).drew) (fun e => e) (fun _ _ e => e)
  obtain ⟨wz, hwz⟩ : ∃ wz, (w5.drewN kk).drew = wz := ⟨_, rfl⟩
  rw [hwz] at hC5 hS5 hE5 hN5
  have HC5 := hid hC5
  have HN5 := hid hN5
  have cN : wz.cell? ⟨w.heap.size, 0, none⟩ = some v5 := hN5.blk.cell 0 rfl
  have hfault := fault_err E wz v5 err w.heap.size hS5 (by rw [t1]; exact HTs.out) hE5
  have HF := hid hfault
  have HBad := hid (bad_iff t4)
  have HT7 := hid (And.intro t1 t7)
  clear t1 t2 t3 t4 t5 t7 t8 hC5 hS5 hE5 hN5 hfault Ht Hc3 Hk HS3 Hprog Hready
  have fin : ∀ (e : Ending) (b : Bool) (why : ByteArray) (k : Nat), e = .returned (.tuple #[v5, .int .i64 rest5.length, .string why, .bool b]) → b = decide (s'.bad = 0) → WhyIs E.texts s'.bad why → VmPost texts s' w e (wz.drewN k) := by
    intro e b why k he hb hw
    refine ⟨v5, rest5, why, by rw [he, hb], callsAt_of_own (World.ownsRow.chg HN5.out.own ((Chg.refl (fun _ => False) wz).drewN k) (fun _ _ e => e)), World.ownsRow.chg HN5.out.own ((Chg.refl (fun _ => False) wz).drewN k) (fun _ _ e => e), HT7.out.2, HT7.out.1 ▸ hw, (HC5.out.drewN k).mono (fun i hi e => absurd hi (by omega))⟩
  have Hfin := hid fin
  clear fin
  refine wp_region_till (fun w' => w'.cell? ⟨w.heap.size, 0, none⟩ = some v5) 100 (by kernel_rfl) ?_
  rw [hwz]
  clear hwz
  rcases hform with rfl | ⟨et, eu, rfl⟩
  · refine wpTill_reads 5 [0, 1, 2, 3, 4, 5, 7, 8] (by kernel_rfl) ?_ cN ?_
    · intro c a d v w h; cases d <;> exact h
    iterate 8 (refine wpReads_cons (v := ?_) rfl (yieldsIf_yes rfl fun w' hw => ?_) ?_; rotate_left; (first | (go_simp; done) | (go_simp; exact rfl)); simp only [Act.put, List.setIfInBounds_toArray, List.set_cons_zero, List.set_cons_succ, List.getElem_toArray, List.getElem_cons_zero, List.getElem_cons_succ])
    refine wpReads_nil ?_
    simp only [listAll]
    refine wpTill_one (i := 6) (by kernel_rfl) rfl rfl ?_
    intro K hK
    go_step
    refine (HF.out).mono ?_
    rintro e w6 ⟨why, rfl, ⟨kf, rfl⟩, hwhy⟩
    refine hK _ _ ⟨fun _ => cN, ?_⟩
    clear hK K
    refine wpTill_reads 0 [9, 10, 11, 12] (by kernel_rfl) ?_ cN ?_
    · intro c a d v w h; cases d <;> exact h
    iterate 4 (refine wpReads_cons (v := ?_) rfl (yieldsIf_yes rfl fun w' hw => ?_) ?_; rotate_left; (first | (go_simp; done) | (go_simp; exact rfl)); simp only [Act.put, List.setIfInBounds_toArray, List.set_cons_zero, List.set_cons_succ, List.getElem_toArray, List.getElem_cons_zero, List.getElem_cons_succ])
    refine wpReads_nil ?_
    simp only [listAll]
    refine wpTill_done (by kernel_rfl) ?_ _
    have Hwhy := hid hwhy
    clear hwhy
    go_wp2
    have hb := HBad.out
    simp at hb
    exact bodyPost_ret (v := .tuple #[v5, .int .i64 rest5.length, .string why, .bool true]) (by simp [results, Tryd.results13]) rfl (Hfin.out _ true why kf rfl (by simp [hb]) Hwhy.out)
  · refine wpTill_reads 5 [0, 1, 2, 3, 4, 5, 7, 8] (by kernel_rfl) ?_ cN ?_
    · intro c a d v w h; cases d <;> exact h
    iterate 8 (refine wpReads_cons (v := ?_) rfl (yieldsIf_yes rfl fun w' hw => ?_) ?_; rotate_left; (first | (go_simp; done) | (go_simp; exact rfl)); simp only [Act.put, List.setIfInBounds_toArray, List.set_cons_zero, List.set_cons_succ, List.getElem_toArray, List.getElem_cons_zero, List.getElem_cons_succ])
    refine wpReads_nil ?_
    simp only [listAll]
    refine wpTill_one (i := 6) (by kernel_rfl) rfl rfl ?_
    intro K hK
    go_step
    refine (HF.out).mono ?_
    rintro e w6 ⟨why, rfl, ⟨kf, rfl⟩, hwhy⟩
    refine hK _ _ ⟨fun _ => cN, ?_⟩
    clear hK K
    refine wpTill_reads 0 [9, 10, 11, 12] (by kernel_rfl) ?_ cN ?_
    · intro c a d v w h; cases d <;> exact h
    iterate 4 (refine wpReads_cons (v := ?_) rfl (yieldsIf_yes rfl fun w' hw => ?_) ?_; rotate_left; (first | (go_simp; done) | (go_simp; exact rfl)); simp only [Act.put, List.setIfInBounds_toArray, List.set_cons_zero, List.set_cons_succ, List.getElem_toArray, List.getElem_cons_zero, List.getElem_cons_succ])
    refine wpReads_nil ?_
    simp only [listAll]
    refine wpTill_done (by kernel_rfl) ?_ _
    have Hwhy := hid hwhy
    clear hwhy
    go_wp2
    have hb := HBad.out
    simp at hb
    exact bodyPost_ret (v := .tuple #[v5, .int .i64 rest5.length, .string why, .bool false]) (by simp [results, Tryd.results13]) rfl (Hfin.out _ false why kf rfl (by simp [hb]) Hwhy.out)

theorem vmrun (sl : Bool) (ins : List (Nat × Int)) (texts : List ByteArray) (data : List UInt8) (iv ev dv : Value) (e0 e1 : Addr) (mx : Nat) (s' : St) (w : World) (hA : Asked ins data) (hI : InAt w iv ins) (hT : TxtAt w ev w.heap.size texts) (hTs : ∀ (q : Nat) (s : ByteArray), texts[q]? = some s → s.size ≤ 1000000)
    (hH : ∀ (i : Nat) (x : Int), ins[i]? = some (10, x) → 0 ≤ x ∧ x ≤ texts.length) (hD : RdB w dv data) (hDo : ∀ g, dv.ownBlock = some g → g < w.heap.size) (hS : Sent w w.heap.size e0 e1)
    (hs' : lev mx ins 3000 regs0 0 0 (-1) false false (st0 data 3000) = s') (hg : Good s') :
    Calls Tryd.prog 13 #[iv, ev, dv, .bool sl] w (VmPost texts s' w) := by
  cases sl
  · exact vmrun_fast ins texts data iv ev dv e0 e1 mx s' w hA hI hT hTs hH hD hDo hS hs' hg
  · exact vmrun_slow ins texts data iv ev dv e0 e1 mx s' w hA hI hT hTs hH hD hDo hS hs' hg
end Go.Proofs.YtkhicabfmkldpaaDoor
