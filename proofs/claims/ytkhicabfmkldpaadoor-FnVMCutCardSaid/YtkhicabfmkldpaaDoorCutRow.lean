/-
  FnVMCut: over less data a program notes the same, as far as it goes: the walk.
  FnVMCut: its row, and its card.
-/
import Derived.Test.YtkhicabfmkldpaaDoorLaws
import Derived.ChangeSlices
import Derived.WideShapes
set_option linter.unusedSimpArgs false
set_option linter.unusedVariables false
namespace Go.Proofs.YtkhicabfmkldpaaDoor
open Go Go.RowKit

theorem CallsAt.form {w : World} {v : Value} {l : List Note} (h : CallsAt w v l) : ∃ (a : Option Addr) (c : Nat), v = .slice a l.length c ∧ l.length ≤ c ∧ c < 9223372036854775808 := by
  rcases h with ⟨rfl, rfl⟩ | ⟨b, off, cap, rfl, h1, h2, _⟩
  · exact ⟨none, 0, rfl, Nat.le_refl _, by omega⟩
  · exact ⟨_, cap, rfl, h1, by unfold maxLen at h2; omega⟩

theorem CallsAt.front {w : World} {a : Option Addr} {c : Nat} {l : List Note} (h : CallsAt w (.slice a l.length c) l) (k : Nat) (hk : k ≤ l.length) : CallsAt w (.slice a k c) (l.take k) := by
  rcases h with ⟨h1, h2⟩ | ⟨b, off, cap, h1, h2, h3, h4⟩
  · subst h2
    simp at h1 hk
    obtain ⟨rfl, rfl⟩ := h1
    subst hk
    exact .inl ⟨rfl, rfl⟩
  · simp at h1
    obtain ⟨rfl, rfl⟩ := h1
    have hlen : (l.take k).length = k := by rw [List.length_take]; omega
    refine .inr ⟨b, off, c, by rw [hlen], by rw [hlen]; omega, h3, fun i n hi => ?_⟩
    rw [List.getElem?_take] at hi
    split at hi
    · exact h4 i n hi
    · cases hi

theorem CallsAt.front' {w : World} {a : Option Addr} {c n : Nat} {l : List Note} (h : CallsAt w (.slice a n c) l) (e : n = l.length) (k : Nat) (hk : k ≤ n) : CallsAt w (.slice a k c) (l.take k) := by
  subst e
  exact h.front k hk

/-- A program that lies in memory, since the world w0. -/
def Rn (w0 : World) (l : List (Nat × Int)) (iv : Value) (w : World) : Prop := InAt w iv l ∧ (∀ g, iv.ownBlock = some g → g < w.heap.size) ∧ Chg (fun _ => False) w0 w

theorem Rn.chg {w0 w w' : World} {l : List (Nat × Int)} {iv : Value} (h : Rn w0 l iv w) (hc : Chg (fun _ => False) w w') : Rn w0 l iv w' :=
  ⟨h.1.chg hc, fun g hg => Nat.lt_of_lt_of_le (h.2.1 g hg) hc.size, h.2.2.trans hc (fun _ _ e => e)⟩

/-- What a run over less data gives beside one over more. -/
theorem cut_law (ins : List (Nat × Int)) (d : List UInt8) (n : Nat) (hn : n ≤ d.length) (X Y : St) (hX : lev 9 ins 3000 regs0 0 0 (-1) false false (st0 d 3000) = X) (hY : lev 9 ins 3000 regs0 0 0 (-1) false false (st0 (d.take n) 3000) = Y)
    (hxo : X.odd = false) (hxl : 0 < X.left) (hyo : Y.odd = false) (hyl : 0 < Y.left) :
    (X.bad = Y.bad ∧ X.notes = Y.notes ∧ X.rest.length = Y.rest.length + (d.length - n)) ∨ (Y.bad = 1 ∧ Y.notes <+: X.notes ∧ (X.bad = 0 → X.rest.length < d.length - n)) := by
  have h := lev_cut 9 ins (d.drop n) 3000 regs0 0 0 (-1) false false (st0 (d.take n) 3000)
  have e : ext (d.drop n) (st0 (d.take n) 3000) = st0 d 3000 := by
    show (⟨0, d.take n ++ d.drop n, [], 0, 3000, 0, false, false⟩ : St) = ⟨0, d, [], 0, 3000, 0, false, false⟩
    rw [List.take_append_drop]
  rw [e, hX, hY] at h
  rcases h with h | h | h | h | h | ⟨h1, h2, h3⟩
  · rw [hyo] at h; cases h
  · rw [hxo] at h; cases h
  · omega
  · omega
  · subst h
    exact .inl ⟨rfl, rfl, by show (Y.rest ++ d.drop n).length = _; rw [List.length_append, List.length_drop]⟩
  · exact .inr ⟨h1, h2, fun hx => by have := h3 hx; rwa [List.length_drop] at this⟩

/-- A run of the specification's machine, as the walks need it. -/
theorem spec_run {w0 : World} {l : List (Nat × Int)} {iv dv : Value} {data : List UInt8} {w : World} (hR : Rn w0 l iv w) (hA : Asked l data) (hD : RdB w0 dv data) (hDo : ∀ g, dv.ownBlock = some g → g < w0.heap.size) {s' : St} (hs' : lev 9 l 3000 regs0 0 0 (-1) false false (st0 data 3000) = s') :
    Calls Tryd.prog 11 #[iv, dv] w fun e w' => ∃ (nv : Value) (n : Int) (fine : Bool), e = .returned (.tuple #[nv, .int .i64 n, .bool fine, .bool (!s'.odd && decide (0 < s'.left))]) ∧ CallsAt w' nv s'.notes ∧ (s'.odd = false → fine = decide (s'.bad = 0)) ∧ (s'.odd = false → s'.bad = 0 → n = s'.rest.length) ∧ Rn w0 l iv w' ∧ Chg (fun _ => False) w w' :=
  (vmruns l data iv dv w hR.1.spIn hR.2.1 (hD.chg hR.2.2 (fun _ _ _ e => e)) (fun g hg => Nat.lt_of_lt_of_le (hDo g hg) hR.2.2.size) (callsOk_of hA) hA.n2 hA.data s' hs').mono
    fun e w' ⟨nv, n, fine, he, h1, _, h3, h4, h5⟩ => ⟨nv, n, fine, he, h1, h3, h4, hR.chg h5, h5⟩

/-- A run of the implementation's machine without texts, as the walks need it. -/
theorem impl_run {w0 : World} {l : List (Nat × Int)} {iv dv : Value} {data : List UInt8} {w : World} {e0 e1 : Addr} (sl : Bool) (hR : Rn w0 l iv w) (hA : Asked l data) (hH : ∀ (i : Nat) (x : Int), l[i]? = some (10, x) → x = 0) (hD : RdB w0 dv data) (hDo : ∀ g, dv.ownBlock = some g → g < w0.heap.size) (hS : Sent w0 w0.heap.size e0 e1)
    {s' : St} (hs' : lev 9 l 3000 regs0 0 0 (-1) false false (st0 data 3000) = s') (hG : Good s') :
    Calls Tryd.prog 13 #[iv, .slice none 0 0, dv, .bool sl] w fun e w' => ∃ (a : Option Addr) (c : Nat) (k : Nat) (why : ByteArray), e = .returned (.tuple #[.slice a s'.notes.length c, .int .i64 k, .string why, .bool (decide (s'.bad = 0))]) ∧ CallsAt w' (.slice a s'.notes.length c) s'.notes ∧ s'.notes.length ≤ c ∧ c < 9223372036854775808 ∧ (s'.bad = 0 → k = s'.rest.length) ∧ WhyIs [] s'.bad why ∧ Rn w0 l iv w' ∧ Chg (fun _ => False) w w' := by
  refine (vmrun sl l [] data iv _ dv e0 e1 9 s' w hA hR.1 (.inl ⟨rfl, rfl⟩) (fun q s h => by simp at h) (fun i x h => by rw [hH i x h]; exact ⟨Int.le_refl _, Int.le_refl _⟩) (hD.chg hR.2.2 (fun _ _ _ e => e)) (fun g hg => Nat.lt_of_lt_of_le (hDo g hg) hR.2.2.size) (hS.keep hR.2.2) hs' hG).mono ?_
  rintro e w' ⟨v', rest', why, rfl, hca, _, hre, hwhy, hch⟩
  obtain ⟨a, c, rfl, h1, h2⟩ := hca.form
  exact ⟨a, c, rest'.length, why, rfl, hca, h1, h2, fun h => by rw [hre h], hwhy, hR.chg hch, hch⟩

set_option maxHeartbeats 1000000 in
set_option maxRecDepth 100000 in
/-- The walk of FnVMCut, once what the runs give is known. -/
theorem cut_end (a0 : Option Addr) (m0 n0 : Nat) (a1 : Option Addr) (m1 n1 : Nat) (z : Int) (sl : Bool) (w : World) (l : List (Nat × Int)) (D n nx ny kx ky : Nat) (b1 b2 ok is : Bool) (nX nY : List Note)
    (g0 : ¬ (2147483647 : Int) < (m0 : Int)) (g1 : ¬ (2147483647 : Int) < (m1 : Int)) (c0 : m0 ≤ n0 ∧ n0 < 9223372036854775808) (c1 : m1 ≤ n1 ∧ n1 < 9223372036854775808) (hz : 0 ≤ z ∧ z ≤ 255) (hD : D ≤ 200) (hDm : D ≤ m1) (hnD : n ≤ D) (hzn : z.tmod ((D : Int) + 1) = (n : Int))
    (hprog : Calls Tryd.prog 9 #[.slice a0 m0 n0] w fun e w' => ∃ iv, e = .returned iv ∧ Rn w l iv w')
    (hdata : ∀ iv w1, Rn w l iv w1 → Calls Tryd.prog 10 #[.slice a1 m1 n1] w1 fun e w' => e = .returned (.slice a1 D n1) ∧ w' = w1)
    (hspX : ∀ iv w1, Rn w l iv w1 → Calls Tryd.prog 11 #[iv, .slice a1 D n1] w1 fun e w' => ∃ (nv : Value) (k : Int) (fine : Bool), e = .returned (.tuple #[nv, .int .i64 k, .bool fine, .bool b1]) ∧ Rn w l iv w')
    (hspY : ∀ iv w1, Rn w l iv w1 → Calls Tryd.prog 11 #[iv, .slice a1 n n1] w1 fun e w' => ∃ (nv : Value) (k : Int) (fine : Bool), e = .returned (.tuple #[nv, .int .i64 k, .bool fine, .bool b2]) ∧ Rn w l iv w')
    (hvmX : b1 = true → b2 = true → ∀ iv w1, Rn w l iv w1 → Calls Tryd.prog 13 #[iv, .slice none 0 0, .slice a1 D n1, .bool sl] w1 fun e w' => ∃ (a : Option Addr) (c k : Nat) (why : ByteArray), e = .returned (.tuple #[.slice a nx c, .int .i64 k, .string why, .bool ok]) ∧ CallsAt w' (.slice a nx c) nX ∧ nx ≤ c ∧ c < 9223372036854775808 ∧ (ok = true → k = kx) ∧ Rn w l iv w' ∧ Chg (fun _ => False) w1 w')
    (hvmY : b1 = true → b2 = true → ∀ iv w1, Rn w l iv w1 → Calls Tryd.prog 13 #[iv, .slice none 0 0, .slice a1 n n1, .bool sl] w1 fun e w' => ∃ (a : Option Addr) (c k : Nat) (why : ByteArray), e = .returned (.tuple #[.slice a ny c, .int .i64 k, .string why, .bool is]) ∧ CallsAt w' (.slice a ny c) nY ∧ (is = true → k = ky) ∧ Rn w l iv w' ∧ Chg (fun _ => False) w1 w')
    (hawk : ∀ w1, Chg (fun _ => False) w w1 → Calls Tryd.prog 12 #[] w1 fun e w' => e = .returned (.bool true) ∧ Chg (fun _ => False) w1 w')
    (hnx : nx = nX.length) (hny : ny = nY.length) (hnxy : b1 = true → b2 = true → ny ≤ nx) (hnm : nx ≤ 1000000) (hpre : b1 = true → b2 = true → nX.take ny = nY)
    (hT : b1 = true → b2 = true → is = true → ok = true ∧ nx = ny ∧ kx = ky + (D - n) ∧ ky ≤ n) (hF : b1 = true → b2 = true → is = false → ok = true → kx < D - n) :
    Calls Tryd.prog 3 #[.slice a0 m0 n0, .slice a1 m1 n1, .int .u8 z, .bool sl] w fun e w' => e = .returned (.bool true) ∧ Chg (fun _ => False) w w' := by
  replace hprog := hid hprog
  replace hdata := hid hdata
  replace hspX := hid hspX
  replace hspY := hid hspY
  replace hawk := hid hawk
  cases b1 with
  | false =>
    clear hvmX hvmY hnx hny hnxy hnm hpre hT hF
    go_enter Tryd.func3, Tryd.ntmps3
    go_wp2_with (first | (go_at_call 12; refine (hawk.out _ r4.out.2.2).mono ?_; rintro e w7 ⟨rfl, hc7⟩; replace hc7 := hid hc7) | (go_at_call 11; refine (hspY.out _ _ r3.out).mono ?_; rintro e w4 ⟨nv4, k4, f4, rfl, r4⟩; replace r4 := hid r4) | (go_at_call 11; refine (hspX.out _ _ r1.out).mono ?_; rintro e w3 ⟨nv3, k3, f3, rfl, r3⟩; replace r3 := hid r3) | (go_at_call 10; refine (hdata.out _ _ r1.out).mono ?_; rintro e w2 ⟨rfl, rfl⟩) | (go_at_call 9; refine (hprog.out).mono ?_; rintro e w1 ⟨iv1, rfl, r1⟩; replace r1 := hid r1))
    go_ret
    exact ⟨rfl, r4.out.2.2.trans hc7.out (fun _ _ e => e)⟩
  | true =>
    cases b2 with
    | false =>
      clear hvmX hvmY hnx hny hnxy hnm hpre hT hF
      go_enter Tryd.func3, Tryd.ntmps3
      go_wp2_with (first | (go_at_call 12; refine (hawk.out _ r4.out.2.2).mono ?_; rintro e w7 ⟨rfl, hc7⟩; replace hc7 := hid hc7) | (go_at_call 11; refine (hspY.out _ _ r3.out).mono ?_; rintro e w4 ⟨nv4, k4, f4, rfl, r4⟩; replace r4 := hid r4) | (go_at_call 11; refine (hspX.out _ _ r1.out).mono ?_; rintro e w3 ⟨nv3, k3, f3, rfl, r3⟩; replace r3 := hid r3) | (go_at_call 10; refine (hdata.out _ _ r1.out).mono ?_; rintro e w2 ⟨rfl, rfl⟩) | (go_at_call 9; refine (hprog.out).mono ?_; rintro e w1 ⟨iv1, rfl, r1⟩; replace r1 := hid r1))
      go_ret
      exact ⟨rfl, r4.out.2.2.trans hc7.out (fun _ _ e => e)⟩
    | true =>
      replace hvmX := hid (hvmX rfl rfl)
      replace hvmY := hid (hvmY rfl rfl)
      replace hpre := hid (hpre rfl rfl)
      replace hnxy := hnxy rfl rfl
      have Hnx := hid hnx
      have Hny := hid hny
      clear hnx hny
      cases is with
      | true =>
        obtain ⟨rfl, hxy, hk, hkn⟩ := hT rfl rfl rfl
        clear hT hF
        subst hxy
        have k1' : (D : Int) - (kx : Int) ≤ (n : Int) := by omega
        have k2 : (n : Int) - ((D : Int) - (kx : Int)) = (ky : Int) := by omega
        have hkx : kx ≤ D := by omega
        clear hk hkn
        go_enter Tryd.func3, Tryd.ntmps3
        go_wp2_with (first | (go_at_call 12; refine (hawk.out _ r6.out.2.2).mono ?_; rintro e w7 ⟨rfl, hc7⟩; replace hc7 := hid hc7) | (go_at_call 14; (refine (same_any _ _ (nX.take _) nY _ ((q1.out.1.front' Hnx.out _ hnxy).chg p2.out.2 (fun _ _ e => e)) (p2.out.1) (by have := Hnx.out; rw [List.length_take]; omega) (by have := Hny.out; omega)).mono ?_; rintro e w6 ⟨bb, rfl, hbb, kk, rfl⟩; (have hbt : bb = true := hbb.2 hpre.out); subst hbt; clear hbb; have r6 := hid (r5.out.chg ((Chg.refl _ w5).drewN kk)))) | (go_at_call 13; refine (hvmY.out _ _ r4x.out).mono ?_; rintro e w5 ⟨ay, cy, ly, whyy, rfl, p1, p3, r5, p4⟩; (have p3' : ly = ky := p3 (by simp)); subst p3'; have p2 := hid (And.intro p1 p4); replace r5 := hid r5; clear p1 p3 p4) | (go_at_call 13; refine (hvmX.out _ _ r4.out).mono ?_; rintro e w4x ⟨ax, cx, lx, whyx, rfl, q1, q2, q3, q4, r4x, q5⟩; (have q4' : lx = kx := q4 (by simp)); subst q4'; replace q1 := hid (And.intro q1 q5); replace r4x := hid r4x; clear q4 q5) | (go_at_call 11; refine (hspY.out _ _ r3.out).mono ?_; rintro e w4 ⟨nv4, k4, f4, rfl, r4⟩; replace r4 := hid r4) | (go_at_call 11; refine (hspX.out _ _ r1.out).mono ?_; rintro e w3 ⟨nv3, k3, f3, rfl, r3⟩; replace r3 := hid r3) | (go_at_call 10; refine (hdata.out _ _ r1.out).mono ?_; rintro e w2 ⟨rfl, rfl⟩) | (go_at_call 9; refine (hprog.out).mono ?_; rintro e w1 ⟨iv1, rfl, r1⟩; replace r1 := hid r1))
        go_ret
        exact ⟨rfl, r6.out.2.2.trans hc7.out (fun _ _ e => e)⟩
      | false =>
        clear hT
        cases ok with
        | true =>
          have hk := hF rfl rfl rfl rfl
          clear hF
          have k1 : (n : Int) < (D : Int) - (kx : Int) := by omega
          have hkx : kx ≤ D := by omega
          clear hk
          go_enter Tryd.func3, Tryd.ntmps3
          go_wp2_with (first | (go_at_call 12; refine (hawk.out _ r6.out.2.2).mono ?_; rintro e w7 ⟨rfl, hc7⟩; replace hc7 := hid hc7) | (go_at_call 14; (refine (same_any _ _ (nX.take _) nY _ ((q1.out.1.front' Hnx.out _ hnxy).chg p2.out.2 (fun _ _ e => e)) (p2.out.1) (by have := Hnx.out; rw [List.length_take]; omega) (by have := Hny.out; omega)).mono ?_; rintro e w6 ⟨bb, rfl, hbb, kk, rfl⟩; (have hbt : bb = true := hbb.2 hpre.out); subst hbt; clear hbb; have r6 := hid (r5.out.chg ((Chg.refl _ w5).drewN kk)))) | (go_at_call 13; refine (hvmY.out _ _ r4x.out).mono ?_; rintro e w5 ⟨ay, cy, ly, whyy, rfl, p1, p3, r5, p4⟩; clear p3; have p2 := hid (And.intro p1 p4); replace r5 := hid r5; clear p1 p4) | (go_at_call 13; refine (hvmX.out _ _ r4.out).mono ?_; rintro e w4x ⟨ax, cx, lx, whyx, rfl, q1, q2, q3, q4, r4x, q5⟩; (have q4' : lx = kx := q4 (by simp)); subst q4'; replace q1 := hid (And.intro q1 q5); replace r4x := hid r4x; clear q4 q5) | (go_at_call 11; refine (hspY.out _ _ r3.out).mono ?_; rintro e w4 ⟨nv4, k4, f4, rfl, r4⟩; replace r4 := hid r4) | (go_at_call 11; refine (hspX.out _ _ r1.out).mono ?_; rintro e w3 ⟨nv3, k3, f3, rfl, r3⟩; replace r3 := hid r3) | (go_at_call 10; refine (hdata.out _ _ r1.out).mono ?_; rintro e w2 ⟨rfl, rfl⟩) | (go_at_call 9; refine (hprog.out).mono ?_; rintro e w1 ⟨iv1, rfl, r1⟩; replace r1 := hid r1))
          go_ret
          exact ⟨rfl, r6.out.2.2.trans hc7.out (fun _ _ e => e)⟩
        | false =>
          clear hF
          go_enter Tryd.func3, Tryd.ntmps3
          go_wp2_with (first | (go_at_call 12; refine (hawk.out _ r6.out.2.2).mono ?_; rintro e w7 ⟨rfl, hc7⟩; replace hc7 := hid hc7) | (go_at_call 14; (refine (same_any _ _ (nX.take _) nY _ ((q1.out.1.front' Hnx.out _ hnxy).chg p2.out.2 (fun _ _ e => e)) (p2.out.1) (by have := Hnx.out; rw [List.length_take]; omega) (by have := Hny.out; omega)).mono ?_; rintro e w6 ⟨bb, rfl, hbb, kk, rfl⟩; (have hbt : bb = true := hbb.2 hpre.out); subst hbt; clear hbb; have r6 := hid (r5.out.chg ((Chg.refl _ w5).drewN kk)))) | (go_at_call 13; refine (hvmY.out _ _ r4x.out).mono ?_; rintro e w5 ⟨ay, cy, ly, whyy, rfl, p1, p3, r5, p4⟩; clear p3; have p2 := hid (And.intro p1 p4); replace r5 := hid r5; clear p1 p4) | (go_at_call 13; refine (hvmX.out _ _ r4.out).mono ?_; rintro e w4x ⟨ax, cx, lx, whyx, rfl, q1, q2, q3, q4, r4x, q5⟩; clear q4; replace q1 := hid (And.intro q1 q5); replace r4x := hid r4x; clear q5) | (go_at_call 11; refine (hspY.out _ _ r3.out).mono ?_; rintro e w4 ⟨nv4, k4, f4, rfl, r4⟩; replace r4 := hid r4) | (go_at_call 11; refine (hspX.out _ _ r1.out).mono ?_; rintro e w3 ⟨nv3, k3, f3, rfl, r3⟩; replace r3 := hid r3) | (go_at_call 10; refine (hdata.out _ _ r1.out).mono ?_; rintro e w2 ⟨rfl, rfl⟩) | (go_at_call 9; refine (hprog.out).mono ?_; rintro e w1 ⟨iv1, rfl, r1⟩; replace r1 := hid r1))
          go_ret
          exact ⟨rfl, r6.out.2.2.trans hc7.out (fun _ _ e => e)⟩

theorem good_of {s : St} (h : (!s.odd && decide (0 < s.left)) = true) : s.odd = false ∧ 0 < s.left := by
  rw [Bool.and_eq_true, Bool.not_eq_true', decide_eq_true_eq] at h
  exact h

set_option maxRecDepth 100000 in
theorem lev_notes_le (l : List (Nat × Int)) (d : List UInt8) {s' : St} (h : lev 9 l 3000 regs0 0 0 (-1) false false (st0 d 3000) = s') : s'.notes.length ≤ 1000000 := by
  have hlat := lev_later 9 l 3000 regs0 0 0 (-1) false false (st0 d 3000)
  rw [h] at hlat
  have h1 := hlat.notes
  have h2 : (st0 d 3000).notes.length + 3 * (st0 d 3000).left = 9000 := rfl
  omega

set_option maxHeartbeats 1000000 in
set_option maxRecDepth 100000 in
/-- FnVMCut: the law's walk. -/
theorem cut_walk (a0 : Option Addr) (n0 : Nat) (code : List UInt8) (a1 : Option Addr) (n1 : Nat) (data : List UInt8) (z : Int) (sl : Bool) (e0 e1 : Addr) (w : World) (hz : 0 ≤ z ∧ z ≤ 255) (h0 : RdB w (.slice a0 code.length n0) code) (h0o : ∀ b, (Value.slice a0 code.length n0).ownBlock = some b → b < w.heap.size) (h1 : RdB w (.slice a1 data.length n1) data) (h1o : ∀ b, (Value.slice a1 data.length n1).ownBlock = some b → b < w.heap.size) (hS : Sent w w.heap.size e0 e1) :
    Calls Tryd.prog 3 #[.slice a0 code.length n0, .slice a1 data.length n1, .int .u8 z, .bool sl] w fun e w' => e = .returned (.bool true) ∧ Chg (fun _ => False) w w' := by
  by_cases g0 : (2147483647 : Int) < (code.length : Int)
  · obtain ⟨m0, hm0⟩ : ∃ m, code.length = m := ⟨_, rfl⟩
    obtain ⟨m1, hm1⟩ : ∃ m, data.length = m := ⟨_, rfl⟩
    obtain ⟨c0, c0b⟩ := rdB_cap h0
    obtain ⟨c1, c1b⟩ := rdB_cap h1
    rw [hm0] at g0 c0 ⊢
    rw [hm1] at c1 ⊢
    clear h0 h0o h1 h1o hS hm0 hm1
    go_enter Tryd.func3, Tryd.ntmps3
    go_wp2
    go_ret
    exact ⟨rfl, Chg.refl _ w⟩
  by_cases g1 : (2147483647 : Int) < (data.length : Int)
  · obtain ⟨m0, hm0⟩ : ∃ m, code.length = m := ⟨_, rfl⟩
    obtain ⟨m1, hm1⟩ : ∃ m, data.length = m := ⟨_, rfl⟩
    obtain ⟨c0, c0b⟩ := rdB_cap h0
    obtain ⟨c1, c1b⟩ := rdB_cap h1
    rw [hm0] at g0 c0 ⊢
    rw [hm1] at g1 c1 ⊢
    clear h0 h0o h1 h1o hS hm0 hm1
    go_enter Tryd.func3, Tryd.ntmps3
    go_wp2
    go_ret
    exact ⟨rfl, Chg.refl _ w⟩
  obtain ⟨ctx, hN, hctx, hF, hpos⟩ := prog_ok code
  have hH : ∀ (i : Nat) (x : Int), (progOf code)[i]? = some (10, x) → x = 0 := fun i x h => (hF.vals i 10 x h).2.2.2.1 rfl
  obtain ⟨D, hD⟩ : ∃ D, min data.length 200 = D := ⟨_, rfl⟩
  have hDl : (data.take 200).length = D := by rw [List.length_take]; omega
  obtain ⟨n, hn⟩ : ∃ n, z.toNat % (D + 1) = n := ⟨_, rfl⟩
  have hnD : n ≤ D := by have := Nat.mod_lt z.toNat (show 0 < D + 1 by omega); omega
  have hzn : z.tmod ((D : Int) + 1) = (n : Int) := by
    obtain ⟨k, rfl⟩ := Int.eq_ofNat_of_zero_le hz.1
    rw [← hn]
    exact tmod_nat k (D + 1)
  have hA := fit_asked (data := data.take 200) hF hpos (by omega)
  have hA2 := fit_asked (data := (data.take 200).take n) hF hpos (by rw [List.length_take]; omega)
  obtain ⟨X, hX⟩ : ∃ s', lev 9 (progOf code) 3000 regs0 0 0 (-1) false false (st0 (data.take 200) 3000) = s' := ⟨_, rfl⟩
  obtain ⟨Y, hY⟩ : ∃ s', lev 9 (progOf code) 3000 regs0 0 0 (-1) false false (st0 ((data.take 200).take n) 3000) = s' := ⟨_, rfl⟩
  have hvX : X.viol = false := hX ▸ prog_viol code (data.take 200) 3000 3000
  have hvY : Y.viol = false := hY ▸ prog_viol code ((data.take 200).take n) 3000 3000
  have hbX : X.bad ≤ 1 := hX ▸ prog_bad code (data.take 200) 3000 3000
  have hbY : Y.bad ≤ 1 := hY ▸ prog_bad code ((data.take 200).take n) 3000 3000
  have hfX : RdB w (.slice a1 D n1) (data.take 200) := hD ▸ rdB_front h1 200
  have hfY : RdB w (.slice a1 n n1) ((data.take 200).take n) := by
    have h := rdB_front h1 n
    rw [show min data.length n = n by omega] at h
    rw [List.take_take, show min n 200 = n by omega]
    exact h
  have hfo : ∀ k g, (Value.slice a1 k n1).ownBlock = some g → g < w.heap.size := fun k g hg => h1o g (by cases a1 with | none => simp [Value.ownBlock] at hg | some x => exact hg)
  have law := fun h1 h2 h3 h4 => cut_law (progOf code) (data.take 200) n (by omega) X Y hX hY h1 h2 h3 h4
  rw [hDl] at law
  have hYr : Y.rest.length ≤ n := by
    have h := (lev_grows 9 (progOf code) 3000 regs0 0 0 (-1) false false (st0 ((data.take 200).take n) 3000)).rest
    rw [hY] at h
    have e : (st0 ((data.take 200).take n) 3000).rest.length ≤ n := by show ((data.take 200).take n).length ≤ n; rw [List.length_take]; omega
    exact Nat.le_trans h e
  refine cut_end a0 code.length n0 a1 data.length n1 z sl w (progOf code) D n X.notes.length Y.notes.length X.rest.length Y.rest.length (!X.odd && decide (0 < X.left)) (!Y.odd && decide (0 < Y.left)) (decide (X.bad = 0)) (decide (Y.bad = 0)) X.notes Y.notes g0 g1 (rdB_cap h0) (rdB_cap h1) hz (by omega) (by omega) hnD hzn
    ((prog_any a0 n0 code w h0 h0o).mono fun e w' ⟨iv, he, r1, r2, r3⟩ => ⟨iv, he, r1, fun g hg => r1.lt hpos g hg, r3⟩)
    (fun iv w1 hR => hD ▸ data_any a1 n1 data w1 (h1.chg hR.2.2 (fun _ _ _ e => e)))
    (fun iv w1 hR => (spec_run hR hA hfX (hfo D) hX).mono fun e w' ⟨nv, k, f, he, _, _, _, hr, _⟩ => ⟨nv, k, f, he, hr⟩)
    (fun iv w1 hR => (spec_run hR hA2 hfY (hfo n) hY).mono fun e w' ⟨nv, k, f, he, _, _, _, hr, _⟩ => ⟨nv, k, f, he, hr⟩)
    (fun b1 b2 iv w1 hR => (impl_run sl hR hA hH hfX (hfo D) hS hX ⟨(good_of b1).1, (good_of b1).2, hvX⟩).mono fun e w' ⟨a, c, k, why, he, q1, q2, q3, q4, _, q5, q6⟩ => ⟨a, c, k, why, he, q1, q2, q3, fun h => q4 (of_decide_eq_true h), q5, q6⟩)
    (fun b1 b2 iv w1 hR => (impl_run sl hR hA2 hH hfY (hfo n) hS hY ⟨(good_of b2).1, (good_of b2).2, hvY⟩).mono fun e w' ⟨a, c, k, why, he, q1, q2, q3, q4, _, q5, q6⟩ => ⟨a, c, k, why, he, q1, fun h => q4 (of_decide_eq_true h), q5, q6⟩)
    (fun w1 hc => awake_walk e0 e1 w1 (hS.keep hc)) rfl rfl ?_ (lev_notes_le _ _ hX) ?_ ?_ ?_
  · intro b1 b2
    rcases law (good_of b1).1 (good_of b1).2 (good_of b2).1 (good_of b2).2 with ⟨_, h, _⟩ | ⟨_, h, _⟩
    · rw [h]; exact Nat.le_refl _
    · exact h.length_le
  · intro b1 b2
    rcases law (good_of b1).1 (good_of b1).2 (good_of b2).1 (good_of b2).2 with ⟨_, h, _⟩ | ⟨_, h, _⟩
    · rw [h]; exact List.take_length
    · exact (List.prefix_iff_eq_take.mp h).symm
  · intro b1 b2 h
    have h := of_decide_eq_true h
    rcases law (good_of b1).1 (good_of b1).2 (good_of b2).1 (good_of b2).2 with ⟨h1, h2, h3⟩ | ⟨h1, _, _⟩
    · exact ⟨decide_eq_true (by omega), by rw [h2], h3, hYr⟩
    · omega
  · intro b1 b2 h hx
    have h := of_decide_eq_false h
    have hx := of_decide_eq_true hx
    rcases law (good_of b1).1 (good_of b1).2 (good_of b2).1 (good_of b2).2 with ⟨h1, h2, h3⟩ | ⟨_, _, h3⟩
    · omega
    · exact h3 hx
end Go.Proofs.YtkhicabfmkldpaaDoor

namespace Go.Proofs.YtkhicabfmkldpaaDoor
open Go Go.RowKit Go.ChangeShapes Go.WideShapes Go.ChangeAt

theorem Tryd.cells5 : Tryd.prog.cellsOf 5 = 1 := by kernel_rfl

set_option maxRecDepth 100000 in
/-- What a slice of bytes that came in gives. -/
theorem open_u8s {H : Type} {enc : TypeId × Value → H} {W : World} {base : Nat} {v : Value} {d : DataW H} {p : List MemPlace} (hval : Value.okWide Tryd.prog W .any base 22 v) (h : DataW.Trod enc Tryd.prog W 0 (fun _ => true) true 22 v d p) :
    ∃ (a : Option Addr) (l : List UInt8) (c : Nat), v = .slice a l.length c ∧ RdB W (.slice a l.length c) l ∧ ∀ b, (Value.slice a l.length c).ownBlock = some b → b < W.heap.size := by
  obtain ⟨a, len, cap, rfl⟩ := okWide_slice Tryd.underlying22 hval
  obtain ⟨fuel, hf⟩ := h
  rcases open_ints Tryd.underlying22 Tryd.underlying5 Tryd.cells5 hf with ⟨hcs, hx⟩ | ⟨a1, len', cap', zs, hcs, _, hl, hm, hz, hx, hcell, hwz⟩
  · simp [Value.cells] at hcs
    obtain ⟨rfl, rfl, rfl⟩ := hcs
    exact ⟨none, [], 0, rfl, .inl ⟨rfl, rfl⟩, fun b hb => by simp [Value.ownBlock] at hb⟩
  · simp [Value.cells] at hcs
    obtain ⟨rfl, rfl, rfl⟩ := hcs
    simp only [if_true] at hz
    have hlen : ((zs.take len).map fun n => UInt8.ofNat n.toNat).length = len := by simp; omega
    have hok : World.has Tryd.prog W .any base a1 5 cap := by
      simp only [Value.okWide, Tryd.underlying22, Cell.okWide, Cell.ok] at hval
      exact hval.2.2
    obtain ⟨_, hspot, row, cells, hsh, _⟩ := hok
    obtain ⟨ab, ao, spot⟩ := a1
    simp only [] at hspot hsh
    subst hspot
    have hab : ab < W.heap.size := by
      rcases Nat.lt_or_ge ab W.heap.size with h | h
      · exact h
      · simp [World.shape?, Array.getElem?_eq_none h] at hsh
    refine ⟨some ⟨ab, ao, none⟩, (zs.take len).map fun n => UInt8.ofNat n.toNat, cap, by rw [hlen], .inr ⟨ab, ao, cap, rfl, by rw [hlen]; exact hl, hm, fun i hi => ?_⟩, fun b hb => by simp [Value.ownBlock] at hb; omega⟩
    rw [hlen] at hi
    have hcj := hcell i (by omega)
    rw [Addr.add_lit] at hcj
    rw [hcj]
    have hb := range_u8 hwz i
    rw [List.getD_eq_getElem?_getD, List.getD_eq_getElem?_getD, List.getElem?_map, List.getElem?_take, if_pos hi]
    obtain ⟨z, hzi⟩ : ∃ z, zs[i]? = some z := ⟨_, List.getElem?_eq_getElem (by omega)⟩
    rw [hzi] at hb ⊢
    simp only [Option.getD_some, Option.map_some] at hb ⊢
    congr 2
    simp only [UInt8.toNat_ofNat']
    omega

theorem u8_bounds {a : Int} (h : (Lit.int .u8 a).wf = true) : 0 ≤ a ∧ a ≤ 255 := by
  have e1 : IntKind.u8.min = 0 := rfl
  have e2 : IntKind.u8.max = 255 := rfl
  simp [Lit.wf, e1, e2] at h
  omega

set_option maxRecDepth 100000 in
theorem cut_contract (H : Type) (enc : TypeId × Value → H) (W : World) (base : Nat) (args : Array Value) (ds gs : List (DataW H)) (before : List MemPlace)
    (hval : ∀ (j : Nat) t v, Tryd.f3.params[j]? = some t → args[j]? = some v → Value.okWide Tryd.prog W .any base t v)
    (hW : DataW.Whole enc Tryd.prog Tryd.f3.params.toList Rows.fnVMCutSpec.vars false W args.toList ds gs before) (hL : laidMetH Tryd.prog Rows.fnVMCutRow.laid W) :
    Calls Tryd.prog 3 args W fun e W' => ∃ v, e = .returned v ∧ Rows.fnVMCutSpec.post enc Tryd.prog Tryd.f3 false true false false W args v W' := by
  have hW' := hW
  obtain ⟨p, q, hA0, hV, rfl, hfz, hnd⟩ := hW
  have hA : DataW.TrodAll enc Tryd.prog W 0 (fun _ => true) true Tryd.f3.params.toList args.toList ds p := hA0
  rw [Tryd.params3] at hA hval
  obtain ⟨v0, vs0, d0, ds0, p0, q0, ha0, rfl, rfl, h0, r0⟩ := trodAll_cons hA
  obtain ⟨v1, vs1, d1, ds1, p1, q1, ha1, rfl, rfl, h1, r1⟩ := trodAll_cons r0
  obtain ⟨v2, vs2, d2, ds2, p2, q2, ha2, rfl, rfl, h2, r2⟩ := trodAll_cons r1
  obtain ⟨v3, vs3, d3, ds3, p3, q3, ha3, rfl, rfl, h3, r3⟩ := trodAll_cons r2
  obtain ⟨rfl, rfl, rfl⟩ := trodAll_nil r3
  obtain rfl : args = #[v0, v1, v2, v3] := by cases args; simp_all
  obtain ⟨rfl, rfl⟩ := trodVars_none hV
  obtain ⟨a0, l0, c0, rfl, hr0, ho0⟩ := open_u8s (hval 0 22 v0 rfl rfl) h0
  obtain ⟨a1, l1, c1, rfl, hr1, ho1⟩ := open_u8s (hval 1 22 v1 rfl rfl) h1
  obtain ⟨z2, rfl, rfl, rfl, wa2⟩ := open_int Tryd.underlying5 (hval 2 5 v2 rfl rfl) h2
  obtain ⟨b3, rfl, rfl, rfl⟩ := open_bool Tryd.underlying4 (hval 3 4 v3 rfl rfl) h3
  clear hA0
  simp only [List.append_nil] at hW'
  obtain ⟨e0, e1, hS⟩ := sent_of_laid hL
  have hlt : ∀ x ∈ p0 ++ (p1 ++ ([] ++ ([] ++ ([])))), x.block < W.heap.size := fun x hx => by simpa using hW'.lt x (by simpa using hx)
  refine (cut_walk a0 c0 l0 a1 c1 l1 z2 b3 e0 e1 W (u8_bounds wa2) hr0 ho0 hr1 ho1 hS).mono fun e W' ⟨he, hg⟩ => ?_
  subst he
  have hb : Below W.heap.size W W' := hg.below (fun _ e => e.elim) (Nat.le_refl _)
  refine ⟨_, rfl, _, _, _, [], _, [], hW', trodAll_mk1 (shut_bool Tryd.underlying4 true), (trodAll_cons_mk (Below.trod Tryd.laidOut (by kernel_rfl) (of_decide_eq_true (by kernel_rfl)) h0 hb (fun x hx => hlt x (by simp [hx]))) (trodAll_cons_mk (Below.trod Tryd.laidOut (by kernel_rfl) (of_decide_eq_true (by kernel_rfl)) h1 hb (fun x hx => hlt x (by simp [hx]))) (trodAll_cons_mk (shut_int Tryd.underlying5 wa2) (trodAll_cons_mk (shut_bool Tryd.underlying4 b3) trodAll_mk0)))), rfl, hb.frame _, fun h => by cases h⟩

theorem cut_reads (os : Os) {H : Type} (enc : TypeId × Value → H) : ∃ places, DataW.whole enc Tryd.prog ((laidWorld os).forCall (fun _ _ => 0) ⟨#[], #[.slice none 0 0, .slice none 0 0, .int .u8 0, .bool false], []⟩).memory Tryd.f3.params.toList Rows.fnVMCutSpec.vars false #[Value.slice none 0 0, Value.slice none 0 0, Value.int .u8 0, Value.bool false].toList 8 = some ([.nil, .nil, .lit (.int .u8 0), .lit (.bool false)], [], places) :=
  ⟨[], by kernel_rfl⟩

set_option maxRecDepth 100000 in
theorem cut_lifted (os : Os) (started : os.Started) (H : Type) (enc : TypeId × Value → H) (F : Stop.Interp) :
    ReturnsInHanded {} Tryd.checked os 3 .any ((OpenSpec.ofChange Rows.fnVMCutSpec).preRow enc Tryd.prog Tryd.f3 Rows.fnVMCutRow.domain false Rows.fnVMCutRow.laid) (((OpenSpec.ofChange Rows.fnVMCutSpec).at F).post enc Tryd.prog Tryd.f3 false true false false) := by
  obtain ⟨places, hx⟩ := cut_reads os enc
  refine returnsInHanded_of_row (C := Tryd.checked) (s := OpenSpec.ofChange Rows.fnVMCutSpec) Tryd.own started (by kernel_rfl) Tryd.func3
    (witness_row_atRef (enc := enc) (C := Tryd.checked) false (laidWorld os) #[.slice none 0 0, .slice none 0 0, .int .u8 0, .bool false] rfl (by kernel_rfl) (by kernel_rfl) (by kernel_rfl)
      (OpenSpec.preRow_of_cond 8 hx (by kernel_rfl) (fun k hk => by cases hk) (by kernel_rfl) (laid_met os _))) ?_
  intro W base args ds gs before hval hW _ _ _ hL _ _
  exact cut_contract H enc W base args ds gs before hval hW hL

theorem cut_said : Rows.FnVMCutSaid :=
  OpenClaim.holds_of_cond 3 Tryd.f3 rfl rfl rfl rfl rfl rfl rfl ⟨rfl, rfl, rfl, rfl, rfl⟩ rfl rfl rfl rfl rfl (by kernel_rfl) Tryd.func3 (by kernel_rfl)
    (of_decide_eq_true (by kernel_rfl)) (by unfold Func.isWrapper; first | (rw [if_pos (by decide +kernel)]; kernel_rfl) | (rw [if_neg (by decide +kernel)]; exact ⟨rfl, rfl⟩))
    (fun os started H enc _ F => by rw [OpenClaim.pre_eq_preRow]; exact cut_lifted os started H enc F)

theorem cut_plain (f : FuncId) (fn : Func) (hf : Tryd.pinned.checked.prog.funcNamed "given.example/pub-tinsmith/laws.FnVMCut" = some f) (hfn : Tryd.pinned.checked.prog.funcs[f]? = some fn) :
    true = Tryd.pinned.checked.prog.looks [] ∧ ∀ (j : Nat) t, fn.params[j]? = some t → Tryd.pinned.checked.prog.wantsStandIn t = false := by
  obtain rfl : f = 3 := Option.some.inj ((show Tryd.prog.funcNamed "given.example/pub-tinsmith/laws.FnVMCut" = some 3 by kernel_rfl).symm.trans hf) |>.symm
  obtain rfl : fn = Tryd.f3 := (Option.some.inj (Tryd.func3.symm.trans hfn)).symm
  refine ⟨by kernel_rfl, fun j t ht => ?_⟩
  rw [Tryd.params3] at ht
  have ht : t = 22 ∨ t = 5 ∨ t = 4 := by
    have := Array.mem_of_getElem? ht
    simp at this
    omega
  rcases ht with rfl | rfl | rfl
  · exact (show Tryd.prog.wantsStandIn 22 = false by kernel_rfl)
  · exact (show Tryd.prog.wantsStandIn 5 = false by kernel_rfl)
  · exact (show Tryd.prog.wantsStandIn 4 = false by kernel_rfl)

theorem cut_card : Rows.FnVMCutCardSaid :=
  Claim7.holds_tied_plain_at .later [] _ _ _ _ cut_said (fun _ h => by cases h) (by kernel_rfl) (fun _ h => by cases h) fnVMCut_row_tie rfl ⟨rfl, rfl⟩ (by kernel_rfl) rfl cut_plain (by kernel_rfl)
end Go.Proofs.YtkhicabfmkldpaaDoor
