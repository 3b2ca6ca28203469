/-
  A region that draws its order: reads first, under a condition on the world that stands while they are to come; then the rest, in the order that is forced.
-/
import Derived.Test.YtkhicabfmkldpaaDoorBase
namespace Go.Proofs.YtkhicabfmkldpaaDoor
open Go Go.RowKit

section
variable {P : Program} {ops : Array Oper} {Q : Exit → Act → World → Prop} {md : Region.Mode} {S : World → Prop} {k : Nat}

/-- Whatever order is picked; behind each operation below number k the condition S holds. -/
def wpTill (P : Program) (md : Region.Mode) (ops : Array Oper) (Q : Exit → Act → World → Prop) (S : World → Prop) (k : Nat) : Nat → Array Bool → Act → World → Prop
  | 0, listed, a, w => Region.ready md ops listed = [] ∧ Q .normal a w
  | fuel + 1, listed, a, w =>
    (Region.ready md ops listed = [] → Q .normal a w) ∧
    ∀ i ∈ Region.ready md ops listed, wpOp P ops Q i (fun a' w' => (i < k → S w') ∧ wpTill P md ops Q S k fuel (listed.setIfInBounds i true) a' w') a w

theorem wpAny_of_till : ∀ (fuel : Nat) (listed : Array Bool) (a : Act) (w : World), wpTill P md ops Q S k fuel listed a w → wpAny P md ops Q fuel listed a w
  | 0, _, _, _, h => h
  | fuel + 1, _, _, _, h => ⟨h.1, fun i hi => wpOp_mono (fun a' w' h' => wpAny_of_till fuel _ a' w' h'.2) (h.2 i hi)⟩

/-- Each operation from number k on waits for number i. -/
def lateB (md : Region.Mode) (ops : Array Oper) (k i : Nat) : Bool :=
  (List.range ops.size).all fun j => decide (j < k) || match ops[j]? with
    | some o => o.after.any fun e => Region.binds md e && e.on == i
    | none => true

theorem lateB_spec {i j : Nat} {oj : Oper} (h : lateB md ops k i = true) (hj : ops[j]? = some oj) (hno : ∀ e ∈ oj.after, Region.binds md e = true → e.on ≠ i) : j < k := by
  have h1 := List.all_eq_true.1 h j (List.mem_range.2 (Array.getElem?_eq_some_iff.1 hj).1)
  simp only [Bool.or_eq_true, decide_eq_true_eq, hj] at h1
  rcases h1 with h1 | h1
  · exact h1
  · obtain ⟨e, he, hb⟩ := Array.any_eq_true'.1 h1
    simp only [Bool.and_eq_true, beq_iff_eq] at hb
    exact absurd hb.2 (hno e he hb.1)

theorem wpTill_first {i : Nat} {oi : Oper} {v : Value} (hi : ops[i]? = some oi) (hsel : ∀ (j : Nat) (o : Oper) cs b, ops[j]? = some o → o.op ≠ .select cs b)
    (hQ : ∀ c a w, Q (.panic c) (a.put oi.dst v) w → Q (.panic c) a w) (hlate : lateB md ops k i = true) :
    ∀ (fuel : Nat) (listed : Array Bool) (a : Act) (w : World),
      (∀ j oj, ops[j]? = some oj → j ≠ i → listed.getD j true = false → (∀ e ∈ oj.after, Region.binds md e = true → e.on ≠ i) → oi.apart ops oj = true) →
      i ∈ Region.ready md ops listed → YieldsIf P ops S oi v a → S w →
      wpTill P md ops Q S k fuel (listed.setIfInBounds i true) (a.put oi.dst v) w → wpTill P md ops Q S k (fuel + 1) listed a w := by
  intro fuel
  induction fuel with
  | zero =>
    intro listed a w _ hr hy hS H
    refine ⟨fun h => (by rw [h] at hr; cases hr), fun j hj => ?_⟩
    by_cases hji : j = i
    · subst hji; exact hy.wpOp hi hS ⟨fun _ => hS, H⟩
    · have := ready_mono hj hji
      rw [H.1] at this
      cases this
  | succ fuel ih =>
    intro listed a w hfree hr hy hS H
    refine ⟨fun h => (by rw [h] at hr; cases hr), fun j hj => ?_⟩
    by_cases hji : j = i
    · subst hji; exact hy.wpOp hi hS ⟨fun _ => hS, H⟩
    · have h1 := H.2 j (ready_mono hj hji)
      obtain ⟨hjun, oj, hoj, hall⟩ := mem_ready.1 hj
      have hnot : ∀ e ∈ oj.after, Region.binds md e = true → e.on ≠ i := fun e he hb heq => by
        have h1 := hall e he hb
        have h0 := (mem_ready.1 hr).1
        rw [heq] at h1
        rcases Nat.lt_or_ge i listed.size with h' | h'
        · simp [h'] at h0 h1; rw [h0] at h1; cases h1
        · simp [Array.getElem?_eq_none h'] at h1
      have hjk : j < k := lateB_spec hlate hoj hnot
      have h2 := wpOp_putIf hoj (hfree j oj hoj hji hjun hnot) (fun cs b => hsel i oi cs b hi) (fun cs b => hsel j oj cs b hoj) hQ hy h1
      have hfree' : ∀ m om, ops[m]? = some om → m ≠ i → (listed.setIfInBounds j true).getD m true = false →
          (∀ e ∈ om.after, Region.binds md e = true → e.on ≠ i) → oi.apart ops om = true := fun m om hm hmi hun hno => by
        refine hfree m om hm hmi ?_ hno
        by_cases hjm : j = m
        · subst hjm; exact hjun
        · rw [getD_set_ne true hjm] at hun; exact hun
      refine wpOp_mono (fun a' w' h3 => ⟨fun _ => h3.2.1 hjk, ih (listed.setIfInBounds j true) a' w' hfree' (ready_mono hr (Ne.symm hji)) h3.1 (h3.2.1 hjk) ?_⟩) h2
      rw [Array.setIfInBounds_comm _ _ hji]
      exact h3.2.2

/-- What is checked of one read, ahead: it may come up, nobody who may come before it touches its temporaries, and all from k on wait for it. -/
def readB (md : Region.Mode) (ops : Array Oper) (k : Nat) (listed : Array Bool) (i : Nat) : Bool :=
  Region.noSelect ops && Region.free md ops listed i && (Region.ready md ops listed).contains i && lateB md ops k i

/-- Reads, one behind the other: each yields a value in every world that meets S; then K of the frame. -/
def wpReads (P : Program) (ops : Array Oper) (S : World → Prop) (K : Act → Prop) : List Nat → Act → Prop
  | [], a => K a
  | i :: l, a => ∃ o, ops[i]? = some o ∧ ∃ v, YieldsIf P ops S o v a ∧ wpReads P ops S K l (a.put o.dst v)

theorem wpReads_nil {K : Act → Prop} {a : Act} (h : K a) : wpReads P ops S K [] a := h
theorem wpReads_cons {K : Act → Prop} {i : Nat} {l : List Nat} {a : Act} {o : Oper} {v : Value} (ho : ops[i]? = some o) (hy : YieldsIf P ops S o v a)
    (h : wpReads P ops S K l (a.put o.dst v)) : wpReads P ops S K (i :: l) a := ⟨o, ho, v, hy, h⟩
theorem yieldsIf_yes {o : Oper} {v : Value} {a : Act} (hg : o.guard = none) (h : ∀ w, S w → (execOp a.eval o).run P w = .ok (.value v) w) : YieldsIf P ops S o v a :=
  .inl ⟨by simp [Region.wanted, hg], h⟩

def readsB (md : Region.Mode) (ops : Array Oper) (k : Nat) : List Nat → Array Bool → Bool
  | [], _ => true
  | i :: l, listed => readB md ops k listed i && readsB md ops k l (listed.setIfInBounds i true)

def listAll : List Nat → Array Bool → Array Bool
  | [], listed => listed
  | i :: l, listed => listAll l (listed.setIfInBounds i true)

theorem wpTill_reads (fuel : Nat) (l : List Nat) {listed : Array Bool} {a : Act} {w : World} (hb : readsB md ops k l listed = true)
    (hQ : ∀ c a d v w, Q (.panic c) (Act.put a d v) w → Q (.panic c) a w) (hS : S w)
    (h : wpReads P ops S (fun A => wpTill P md ops Q S k fuel (listAll l listed) A w) l a) : wpTill P md ops Q S k (fuel + l.length) listed a w := by
  induction l generalizing listed a with
  | nil => exact h
  | cons i l ih =>
    obtain ⟨o, ho, v, hy, hr'⟩ := h
    simp only [readsB, readB, Bool.and_eq_true] at hb
    exact wpTill_first ho (Region.noSelect_spec hb.1.1.1.1) (fun c a w => hQ c a _ _ w) hb.1.2 (fuel + l.length) listed a w (Region.free_spec ho hb.1.1.1.2) (by simpa using hb.1.1.2) hy hS (ih hb.2 hr')

/-- One operation that alone may come up. -/
theorem wpTill_one {i : Nat} {o : Oper} {fuel : Nat} {listed : Array Bool} {a : Act} {w : World} (hr : Region.ready md ops listed = [i]) (ho : ops[i]? = some o) (hg : o.guard = none)
    (h : ∀ K : Act → World → Prop, (∀ a' w', ((i < k → S w') ∧ wpTill P md ops Q S k fuel (listed.setIfInBounds i true) a' w') → K a' w') → o.wp P a w K Q) : wpTill P md ops Q S k (fuel + 1) listed a w := by
  refine ⟨fun h0 => absurd (h0 ▸ hr) (by simp), fun j hj => ?_⟩
  rw [hr] at hj
  obtain rfl : j = i := by simpa using hj
  unfold wpOp
  simp only [ho]
  rw [if_pos (by simp [Region.wanted, hg])]
  exact .inl (h _ fun _ _ q => q)

theorem wpTill_done {listed : Array Bool} {a : Act} {w : World} (hr : Region.ready md ops listed = []) (h : Q .normal a w) : ∀ fuel, wpTill P md ops Q S k fuel listed a w
  | 0 => ⟨hr, h⟩
  | _ + 1 => ⟨fun _ => h, by rw [hr]; simp⟩

theorem wp_region_till (S : World → Prop) (k : Nat) {id : Nat} {a : Act} {w : World} (hm : P.follows .mixedOrders = true)
    (h : wpTill P .any ops Q S k ops.size (Array.replicate ops.size false) a w.drew) : (Code.region id ops true).wp P Q a w :=
  wp_region_any hm (wpAny_of_till _ _ _ _ h)
end
end Go.Proofs.YtkhicabfmkldpaaDoor
