/-
  The walks over the functions that 'laws.FnTYField' reaches: what each call gives, said of the cells of a slice of strings.
-/
import Derived.Test.YtkhicabfmkldpaaRows
import Derived.WalkKit
import Derived.WalkSpells
import Derived.WalkLawsBesides
namespace Go.Proofs.Ytkhicabfmkldpaa
open Go.RowKit

theorem hid {p : Prop} (h : p) : Hid p := h

/-- Is a text among the first so many of a list? -/
def has (ss : List ByteArray) (k : Nat) (v : ByteArray) : Bool := (ss.take k).any (fun s => s.toList == v.toList)

theorem has_succ (ss : List ByteArray) (v : ByteArray) (k : Nat) (h : k < ss.length) :
    has ss (k + 1) v = (has ss k v || (ss[k]?.getD ByteArray.empty).toList == v.toList) := by
  unfold has
  rw [List.take_succ_eq_append_getElem h, List.any_append, List.any_cons, List.any_nil, Bool.or_false, List.getElem?_eq_getElem h]; rfl

theorem has_mono (ss : List ByteArray) (v : ByteArray) (k len : Nat) (hk : k < len) (h : k < ss.length) (he : ((ss[k]?.getD ByteArray.empty).toList == v.toList) = true) : has ss len v = true := by
  unfold has
  rw [List.any_eq_true]
  refine ⟨ss[k], ?_, by rw [List.getElem?_eq_getElem h] at he; exact he⟩
  exact List.mem_take_iff_getElem.2 ⟨k, by omega, rfl⟩

theorem eq_comm_list (a b : List UInt8) : (a == b) = (b == a) := by
  rw [Bool.eq_iff_iff, beq_iff_eq, beq_iff_eq]; exact eq_comm

theorem ret_eq {P : Program} {fn : Func} {R R' : Ending → World → Prop} {e : Exit} {a : Act} {w : World} (h : bodyPost P fn R' e a w) (hr : ∀ e w, R' e w → R e w) : bodyPost P fn R e a w := by
  cases e with
  | normal => obtain ⟨a, v, b, c⟩ := h; exact ⟨a, v, b, hr _ _ c⟩
  | ret => obtain ⟨a, v, b, c⟩ := h; exact ⟨a, v, b, hr _ _ c⟩
  | panic c => exact ⟨h.1, hr _ _ h.2⟩
  | exit id => exact h
  | goto l => exact h
  | outgrown => exact hr _ _ h

/-- A call that came back with a truth value. -/
def IsBool (e : Ending) : Prop := ∃ r : Bool, e = .returned (.bool r)

set_option maxHeartbeats 400000 in
theorem index_any (b off len cap : Nat) (ss : List ByteArray) (v : ByteArray) (w : World) (hz : len ≤ ss.length) (hbig : len ≤ 9223372036854775807) (hc : ∀ j, j < len → w.cell? ⟨b, off + j, none⟩ = some (.string (ss.getD j ByteArray.empty))) :
    Calls Try.prog 7 #[.slice (some ⟨b, off, none⟩) len cap, .string v] w fun e w' => w' = w ∧ ∃ r : Int, e = .returned (.int .i64 r) ∧ (decide (0 ≤ r) = has ss len v) := by
  go_enter Try.func7, Try.ntmps7
  go_wp2
  go_loop [8] (fun i => ∃ k : Nat, k ≤ len ∧ i = .int .i64 k ∧ has ss k v = false) (fun i => len - (intOf i).toNat)
  case atStart => exact ⟨0, by omega, rfl, rfl⟩
  case round =>
    obtain ⟨k, hk, rfl, hn⟩ := hrel
    by_cases hlt : k < len
    · have hcell := hc k hlt
      have Hs := hid (has_succ ss v k (by omega))
      have Hm := hid (has_mono ss v k len hlt (by omega))
      have Hn := hid hn
      clear hc hn
      go_wp2
      · have he : (v.toList == (ss[k]?.getD ByteArray.empty).toList) = true := by assumption
        go_ret
        exact ⟨rfl, _, rfl, by rw [Hm.out (by rw [eq_comm_list]; exact he)]; simp⟩
      · have he : (v.toList == (ss[k]?.getD ByteArray.empty).toList) = false := by assumption
        go_round
        case rel => exact ⟨k + 1, by omega, by go_num, by rw [Hs.out, Hn.out, eq_comm_list, he]; rfl⟩
        case measure => simp [intOf]; omega
    · have hkl : k = len := by omega
      subst hkl
      have Hn := hid hn
      clear hn
      go_wp2
      go_ret
      exact ⟨rfl, _, rfl, by rw [Hn.out]; simp⟩

theorem index_nil (v : ByteArray) (w : World) (a0 : Option Addr) (cap : Nat) :
    Calls Try.prog 7 #[.slice a0 0 cap, .string v] w fun e w' => w' = w ∧ e = .returned (.int .i64 (-1)) := by
  go_enter Try.func7, Try.ntmps7
  go_wp2
  refine wp_loop_once ?_
  go_wp2
  go_ret
  exact ⟨rfl, rfl⟩

theorem contains_any (b off len cap : Nat) (ss : List ByteArray) (v : ByteArray) (w : World) (hz : len ≤ ss.length) (hbig : len ≤ 9223372036854775807) (hc : ∀ j, j < len → w.cell? ⟨b, off + j, none⟩ = some (.string (ss.getD j ByteArray.empty))) :
    Calls Try.prog 5 #[.slice (some ⟨b, off, none⟩) len cap, .string v] w fun e w' => w' = w ∧ e = .returned (.bool (has ss len v)) := by
  have Hc := hid hc
  clear hc
  go_enter Try.func5, Try.ntmps5
  go_wp2_with (go_at_call 7; refine (index_any _ _ _ _ ss _ _ hz hbig Hc.out).mono ?_; rintro e w' ⟨rfl, r, rfl, Hr⟩; replace Hr := hid Hr)
  go_ret
  exact ⟨rfl, by rw [← Hr.out]; rfl⟩

theorem contains_nil (v : ByteArray) (w : World) (a0 : Option Addr) (cap : Nat) :
    Calls Try.prog 5 #[.slice a0 0 cap, .string v] w fun e w' => w' = w ∧ e = .returned (.bool false) := by
  go_enter Try.func5, Try.ntmps5
  go_wp2_with (go_at_call 7; refine (index_nil _ _ _ _).mono ?_; rintro e w' ⟨rfl, rfl⟩)
  go_ret
  exact ⟨rfl, rfl⟩

set_option maxHeartbeats 400000 in
theorem fits_any (b off len cap : Nat) (ss : List ByteArray) (w : World) (hz : len ≤ ss.length) (hbig : len ≤ 9223372036854775807) (hss : ∀ s ∈ ss, s.size ≤ maxLen) (hc : ∀ j, j < len → w.cell? ⟨b, off + j, none⟩ = some (.string (ss.getD j ByteArray.empty))) :
    Calls Try.prog 4 #[.slice (some ⟨b, off, none⟩) len cap] w fun e w' => w' = w ∧ IsBool e := by
  have Hss := hid hss
  clear hss
  go_enter Try.func4, Try.ntmps4
  go_wp2
  · go_ret
    exact ⟨rfl, ⟨_, rfl⟩⟩
  · go_loop [10] (fun i => ∃ k : Nat, k ≤ len ∧ i = .int .i64 k) (fun i => len - (intOf i).toNat)
    case atStart => exact ⟨0, by omega, rfl⟩
    case round =>
      obtain ⟨k, hk, rfl⟩ := hrel
      by_cases hlt : k < len
      · have hcell := hc k hlt
        clear hc
        go_wp2
        · go_ret
          exact ⟨rfl, ⟨_, rfl⟩⟩
        · go_round
          case rel => exact ⟨k + 1, by omega, by go_num⟩
          case measure => simp [intOf]; omega
      · have hkl : k = len := by omega
        subst hkl
        go_wp2
        go_ret
        exact ⟨rfl, ⟨_, rfl⟩⟩

theorem fits_nil (w : World) (a0 : Option Addr) (cap : Nat) :
    Calls Try.prog 4 #[.slice a0 0 cap] w fun e w' => w' = w ∧ IsBool e := by
  go_enter Try.func4, Try.ntmps4
  go_wp2
  refine wp_loop_once ?_
  go_wp2
  go_ret
  exact ⟨rfl, ⟨_, rfl⟩⟩

set_option maxHeartbeats 400000 in
theorem matches_any (p b off len cap : Nat) (ss : List ByteArray) (nm v : ByteArray) (w : World) (hz : len ≤ ss.length) (hbig : len ≤ 9223372036854775807)
    (h0 : w.cell? ⟨p, 0, none⟩ = some (.string nm)) (h3 : w.cell? ⟨p, 3, none⟩ = some (.slice (some ⟨b, off, none⟩) len cap))
    (hc : ∀ j, j < len → w.cell? ⟨b, off + j, none⟩ = some (.string (ss.getD j ByteArray.empty))) :
    Calls Try.prog 10 #[.pointer (some ⟨p, 0, none⟩), .string v] w fun e w' => w' = w ∧ e = .returned (.bool ((v.toList == nm.toList) || has ss len v)) := by
  have Hc := hid hc
  clear hc
  go_enter Try.func10, Try.ntmps10
  go_wp2
  · have he : (v.toList == nm.toList) = true := by assumption
    go_ret
    exact ⟨rfl, by rw [he]; rfl⟩
  · have he : (v.toList == nm.toList) = false := by assumption
    go_loop [18] (fun i => ∃ k : Nat, k ≤ len ∧ i = .int .i64 k ∧ has ss k v = false) (fun i => len - (intOf i).toNat)
    case atStart => exact ⟨0, by omega, rfl, rfl⟩
    case round =>
      obtain ⟨k, hk, rfl, hn⟩ := hrel
      by_cases hlt : k < len
      · have hcell := Hc.out k hlt
        have Hs := hid (has_succ ss v k (by omega))
        have Hm := hid (has_mono ss v k len hlt (by omega))
        have Hn := hid hn
        clear hn
        go_wp2
        · have he : ((ss[k]?.getD ByteArray.empty).toList == v.toList) = true := by assumption
          go_ret
          exact ⟨rfl, by rw [Hm.out he]; rfl⟩
        · have he : ((ss[k]?.getD ByteArray.empty).toList == v.toList) = false := by assumption
          go_round
          case rel => exact ⟨k + 1, by omega, by go_num, by rw [Hs.out, Hn.out, he]; rfl⟩
          case measure => simp [intOf]; omega
      · have hkl : k = len := by omega
        subst hkl
        have Hn := hid hn
        clear hn
        go_wp2
        go_ret
        exact ⟨rfl, by rw [Hn.out]; rfl⟩

theorem matches_nil (p : Nat) (nm v : ByteArray) (w : World)
    (h0 : w.cell? ⟨p, 0, none⟩ = some (.string nm)) (a0 : Option Addr) (cap : Nat) (h3 : w.cell? ⟨p, 3, none⟩ = some (.slice a0 0 cap)) :
    Calls Try.prog 10 #[.pointer (some ⟨p, 0, none⟩), .string v] w fun e w' => w' = w ∧ e = .returned (.bool (v.toList == nm.toList)) := by
  go_enter Try.func10, Try.ntmps10
  go_wp2
  · have he : (v.toList == nm.toList) = true := by assumption
    go_ret
    exact ⟨rfl, by rw [he]; rfl⟩
  · have he : (v.toList == nm.toList) = false := by assumption
    refine wp_loop_once ?_
    go_wp2
    go_ret
    exact ⟨rfl, by rw [he]; rfl⟩

theorem field_any (b off len cap : Nat) (ss : List ByteArray) (nm v : ByteArray) (w : World) (hz : len ≤ ss.length) (hbig : len ≤ 9223372036854775807)
    (hb : b < w.heap.size)
    (hc : ∀ j, j < len → w.cell? ⟨b, off + j, none⟩ = some (.string (ss.getD j ByteArray.empty))) :
    Calls Try.prog 6 #[.string nm, .slice (some ⟨b, off, none⟩) len cap, .string v] w fun e w' => Below w.heap.size w w' ∧ e = .returned (.bool ((v.toList == nm.toList) || has ss len v)) := by
  have Hc := hid hc
  clear hc
  go_enter Try.func6, Try.ntmps6
  go_wp2_with (first | (go_at_call 8; go_in) | (go_at_call 9; go_in))
  refine (matches_any _ b off len cap ss nm _ _ hz hbig ?_ ?_ ?_).mono ?_
  · simp [go_sem]
  · simp [go_sem]
  · intro j hj
    rw [World.cell?_alloc_past _ _ _ (by simp; omega), World.cell?_alloc_past _ _ _ hb]
    exact Hc.out j hj
  rintro e w' ⟨rfl, rfl⟩
  go_wp2
  go_ret
  exact ⟨((Below.refl _ _).alloc (Nat.le_refl _) _).alloc (by simp) _, rfl⟩

theorem field_nil (nm v : ByteArray) (a0 : Option Addr) (cap : Nat) (w : World) :
    Calls Try.prog 6 #[.string nm, .slice a0 0 cap, .string v] w fun e w' => Below w.heap.size w w' ∧ e = .returned (.bool (v.toList == nm.toList)) := by
  go_enter Try.func6, Try.ntmps6
  go_wp2_with (first | (go_at_call 8; go_in) | (go_at_call 9; go_in))
  refine (matches_nil _ nm _ _ ?_ a0 cap ?_).mono ?_
  · simp [go_sem]
  · simp [go_sem]
  rintro e w' ⟨rfl, rfl⟩
  go_wp2
  go_ret
  exact ⟨((Below.refl _ _).alloc (Nat.le_refl _) _).alloc (by simp) _, rfl⟩

theorem below_any {B : Nat} {w w' : World} (h : Below w.heap.size w w') (hB : B ≤ w.heap.size) : Below B w w' := h.mono hB

theorem field_eq (b off len cap : Nat) (ss : List ByteArray) (nm v : ByteArray) (w : World) (hz : len ≤ ss.length) (hbig : len ≤ 9223372036854775807)
    (hb : b < w.heap.size) (he : nm.toList = v.toList)
    (hc : ∀ j, j < len → w.cell? ⟨b, off + j, none⟩ = some (.string (ss.getD j ByteArray.empty))) :
    Calls Try.prog 6 #[.string nm, .slice (some ⟨b, off, none⟩) len cap, .string v] w fun e w' => Below w.heap.size w w' ∧ e = .returned (.bool true) :=
  (field_any b off len cap ss nm v w hz hbig hb hc).mono fun e w' ⟨h, k⟩ => ⟨h, by rw [k, he]; simp⟩
theorem field_ne (b off len cap : Nat) (ss : List ByteArray) (nm v : ByteArray) (w : World) (hz : len ≤ ss.length) (hbig : len ≤ 9223372036854775807)
    (hb : b < w.heap.size) (he : ¬ nm.toList = v.toList)
    (hc : ∀ j, j < len → w.cell? ⟨b, off + j, none⟩ = some (.string (ss.getD j ByteArray.empty))) :
    Calls Try.prog 6 #[.string nm, .slice (some ⟨b, off, none⟩) len cap, .string v] w fun e w' => Below w.heap.size w w' ∧ e = .returned (.bool (has ss len v)) :=
  (field_any b off len cap ss nm v w hz hbig hb hc).mono fun e w' ⟨h, k⟩ => ⟨h, by rw [k, beq_eq_false_iff_ne.2 (fun e => he e.symm)]; simp⟩
/-- The law's own example: the reader's field "a" with the alias "b", the writer's "b". -/
theorem field_b (b : Nat) (w : World) (hb : b < w.heap.size) (hc : w.cell? ⟨b, 0, none⟩ = some (.string ⟨#[98]⟩)) :
    Calls Try.prog 6 #[.string ⟨#[97]⟩, .slice (some ⟨b, 0, none⟩) 1 1, .string ⟨#[98]⟩] w fun e w' => Below w.heap.size w w' ∧ e = .returned (.bool true) :=
  (field_any b 0 1 1 [⟨#[98]⟩] ⟨#[97]⟩ ⟨#[98]⟩ w (by decide) (by decide) hb (fun j hj => by cases j with | zero => exact hc | succ j => omega)).mono fun e w' ⟨h, k⟩ => ⟨h, by rw [k, show has [⟨#[98]⟩] 1 ⟨#[98]⟩ = true by decide +kernel]; simp⟩

theorem below_step {w w1 w2 w3 : World} (h1 : Below w.heap.size w w1) (h2 : Below w.heap.size w1 w2) (h3 : Below w2.heap.size w2 w3) : Below w.heap.size w w3 :=
  (h1.trans h2).trans (h3.mono (by have := h1.size; have := h2.size; omega))

/-- THE LAW, the aliases a slice that is there. -/
theorem law_any (b off len cap : Nat) (ss : List ByteArray) (nm v : ByteArray) (w : World) (hz : len ≤ ss.length) (hbig : len ≤ 9223372036854775807) (hss : ∀ s ∈ ss, s.size ≤ maxLen)
    (hb : b < w.heap.size)
    (hc : ∀ j, j < len → w.cell? ⟨b, off + j, none⟩ = some (.string (ss.getD j ByteArray.empty))) :
    Calls Try.prog 3 #[.string nm, .string v, .slice (some ⟨b, off, none⟩) len cap] w fun e w' => Below w.heap.size w w' ∧ e = .returned (.bool true) := by
  have Hc := hid hc
  have Hss := hid hss
  clear hc hss
  go_enter Try.func3, Try.ntmps3
  go_wp2_with (first | (go_at_call 4; refine (fits_any b off len cap ss _ hz hbig Hss.out Hc.out).mono ?_; rintro e w' ⟨rfl, r, rfl⟩) | (go_at_call 5; refine (contains_any b off len cap ss _ _ hz hbig Hc.out).mono ?_; rintro e w' ⟨rfl, rfl⟩))
  · go_ret; exact ⟨Below.refl _ _, rfl⟩
  · go_ret; exact ⟨Below.refl _ _, rfl⟩
  · have he : nm.toList = v.toList := by assumption
    refine (field_eq b off len cap ss _ _ _ hz hbig hb he Hc.out).mono ?_
    rintro e w1 ⟨hb1, rfl⟩
    go_wp2_with fail
    refine (field_b _ _ (by simp) (by simp [go_sem])).mono ?_
    rintro e w2 ⟨hb2, rfl⟩
    go_wp2
    go_ret
    exact ⟨below_step hb1 ((Below.refl _ _).alloc hb1.size _) hb2, rfl⟩
  · have he : ¬ nm.toList = v.toList := by assumption
    refine (field_ne b off len cap ss _ _ _ hz hbig hb he Hc.out).mono ?_
    rintro e w1 ⟨hb1, rfl⟩
    go_wp2_with fail
    refine (field_b _ _ (by simp) (by simp [go_sem])).mono ?_
    rintro e w2 ⟨hb2, rfl⟩
    go_wp2
    go_ret
    have hn : (nm.toList == v.toList) = false := beq_eq_false_iff_ne.2 he
    exact ⟨below_step hb1 ((Below.refl _ _).alloc hb1.size _) hb2, congrArg (fun b => Ending.returned (Value.bool b)) (show (has ss len v == (nm.toList == v.toList || has ss len v)) = true by rw [hn]; simp)⟩
  · go_ret; exact ⟨Below.refl _ _, rfl⟩
  · go_ret; exact ⟨Below.refl _ _, rfl⟩

theorem field_nil_eq (nm v : ByteArray) (a0 : Option Addr) (cap : Nat) (w : World) (he : nm.toList = v.toList) :
    Calls Try.prog 6 #[.string nm, .slice a0 0 cap, .string v] w fun e w' => Below w.heap.size w w' ∧ e = .returned (.bool true) :=
  (field_nil nm v a0 cap w).mono fun e w' ⟨h, k⟩ => ⟨h, by rw [k, he]; simp⟩
theorem field_nil_ne (nm v : ByteArray) (a0 : Option Addr) (cap : Nat) (w : World) (he : ¬ nm.toList = v.toList) :
    Calls Try.prog 6 #[.string nm, .slice a0 0 cap, .string v] w fun e w' => Below w.heap.size w w' ∧ e = .returned (.bool false) :=
  (field_nil nm v a0 cap w).mono fun e w' ⟨h, k⟩ => ⟨h, by rw [k, beq_eq_false_iff_ne.2 (fun e => he e.symm)]⟩

/-- THE LAW, no aliases. -/
theorem law_nil (a0 : Option Addr) (cap : Nat) (nm v : ByteArray) (w : World) :
    Calls Try.prog 3 #[.string nm, .string v, .slice a0 0 cap] w fun e w' => Below w.heap.size w w' ∧ e = .returned (.bool true) := by
  go_enter Try.func3, Try.ntmps3
  go_wp2_with (first | (go_at_call 4; refine (fits_nil _ _ _).mono ?_; rintro e w' ⟨rfl, r, rfl⟩) | (go_at_call 5; refine (contains_nil _ _ _ _).mono ?_; rintro e w' ⟨rfl, rfl⟩))
  · go_ret; exact ⟨Below.refl _ _, rfl⟩
  · have he : nm.toList = v.toList := by assumption
    refine (field_nil_eq _ _ _ _ _ he).mono ?_
    rintro e w1 ⟨hb1, rfl⟩
    go_wp2_with fail
    refine (field_b _ _ (by simp) (by simp [go_sem])).mono ?_
    rintro e w2 ⟨hb2, rfl⟩
    go_wp2
    go_ret
    exact ⟨below_step hb1 ((Below.refl _ _).alloc hb1.size _) hb2, rfl⟩
  · have he : ¬ nm.toList = v.toList := by assumption
    refine (field_nil_ne _ _ _ _ _ he).mono ?_
    rintro e w1 ⟨hb1, rfl⟩
    go_wp2_with fail
    refine (field_b _ _ (by simp) (by simp [go_sem])).mono ?_
    rintro e w2 ⟨hb2, rfl⟩
    go_wp2
    go_ret
    have hn : (nm.toList == v.toList) = false := beq_eq_false_iff_ne.2 he
    exact ⟨below_step hb1 ((Below.refl _ _).alloc hb1.size _) hb2, congrArg (fun b => Ending.returned (Value.bool b)) (show (!nm.toList == v.toList) = true by rw [hn]; rfl)⟩
  · go_ret; exact ⟨Below.refl _ _, rfl⟩
  · go_ret; exact ⟨Below.refl _ _, rfl⟩
end Go.Proofs.Ytkhicabfmkldpaa
