/-
  The specification's machine: a value is read into its register.
  The specification's machine: a value is read into its register: whatever its kind.
-/
import Derived.Test.YtkhicabfmkldpaaDoorSpecPlain
import Derived.Test.YtkhicabfmkldpaaDoorPlain
set_option linter.unusedSimpArgs false
set_option linter.unusedVariables false
namespace Go.Proofs.YtkhicabfmkldpaaDoor
open Go Go.RowKit

/-- What a read leaves: of an odd run its notes alone. -/
def SRead (B M R : Nat) (iv nv : Value) (ins : List (Nat × Int)) (l : List Note) (left pc tg : Int) (q : Regs × St) (w w' : World) : Prop :=
  ∃ dv' rest' bad' r', SpAt w' B M iv dv' nv ins rest' l bad' q.2.odd left pc tg ∧ RgAt w' R r' ∧ Chg (fun k => k = M ∨ k = R) w w' ∧ (q.2.odd = false → bad' = decide (q.2.bad ≠ 0)) ∧ (q.2.odd = false → q.2.bad = 0 → rest' = q.2.rest ∧ r' = q.1)

theorem SpAt.c3 {w : World} {B M : Nat} {iv dv nv : Value} {ins : List (Nat × Int)} {rest : List UInt8} {l : List Note} {bad odd : Bool} {left pc tg : Int} (h : SpAt w B M iv dv nv ins rest l bad odd left pc tg) : w.cell? ⟨M, 3, none⟩ = some (.bool bad) := h.m.cell 3 rfl
theorem SpAt.c4 {w : World} {B M : Nat} {iv dv nv : Value} {ins : List (Nat × Int)} {rest : List UInt8} {l : List Note} {bad odd : Bool} {left pc tg : Int} (h : SpAt w B M iv dv nv ins rest l bad odd left pc tg) : w.cell? ⟨M, 4, none⟩ = some (.bool odd) := h.m.cell 4 rfl
theorem SpAt.c1 {w : World} {B M : Nat} {iv dv nv : Value} {ins : List (Nat × Int)} {rest : List UInt8} {l : List Note} {bad odd : Bool} {left pc tg : Int} (h : SpAt w B M iv dv nv ins rest l bad odd left pc tg) : ∃ a c, w.cell? ⟨M, 1, none⟩ = some (.slice a rest.length c) := by
  obtain ⟨a, c, rfl⟩ := h.data.form
  exact ⟨a, c, h.m.cell 1 rfl⟩

theorem RgAt.keep {w w' : World} {R M : Nat} {r : Regs} (h : RgAt w R r) (hc : Chg (fun k => k = M) w w') (hRM : R ≠ M) : RgAt w' R r := blk.chg h hc hRM

theorem str1 (x : UInt8) : ((strOf [x]).toList == [1]) = ((x.toNat : Int) == 1) := by
  rw [ByteArray.toList_eq]
  show ([x] == [1]) = _
  by_cases h : x = 1
  · subst h; rfl
  · have h2 : ¬ x.toNat = 1 := fun e => h (UInt8.toNat_inj.1 e)
    have h3 : ¬ (x.toNat : Int) = 1 := by omega
    rw [show (([x] : List UInt8) == [1]) = (x == 1) by simp, beq_false_of_ne h, beq_false_of_ne h3]

theorem sp_as {w : World} {B M : Nat} {iv dv nv : Value} {ins : List (Nat × Int)} {rest : List UInt8} {l : List Note} {bad odd odd' : Bool} {left pc tg : Int} (h : SpAt w B M iv dv nv ins rest l bad odd left pc tg) (e : odd' = odd) : SpAt w B M iv dv nv ins rest l bad odd' left pc tg := e ▸ h

section
variable (B M R : Nat) (iv dv nv : Value) (ins : List (Nat × Int)) (rest : List UInt8) (l : List Note) (left pc tg : Int) (r : Regs) (w : World)

theorem reg_write {w1 : World} {dv' : Value} {rest' : List UInt8} {bad odd : Bool} (hR : RgAt w R r) (hRM : R ≠ M) (hRn : nv.ownBlock ≠ some R) (hBR : B ≤ R) (h1 : SpAt w1 B M iv dv' nv ins rest' l bad odd left pc tg) (hc : Chg (fun k => k = M) w w1) (i : Nat) (v : Value) (r' : Regs)
    (hr' : #[Value.bool r'.truth, .bool r'.cond, .int .i64 r'.num, .int .i64 r'.long, .int .u64 (r'.float : Int), .int .u64 (r'.double : Int), .string (strOf r'.bytes), .string (strOf r'.text)] = (#[Value.bool r.truth, .bool r.cond, .int .i64 r.num, .int .i64 r.long, .int .u64 (r.float : Int), .int .u64 (r.double : Int), .string (strOf r.bytes), .string (strOf r.text)]).setIfInBounds i v) :
    SpAt (w1.setCell ⟨R, i, none⟩ v) B M iv dv' nv ins rest' l bad odd left pc tg ∧ RgAt (w1.setCell ⟨R, i, none⟩ v) R r' ∧ Chg (fun k => k = M ∨ k = R) w (w1.setCell ⟨R, i, none⟩ v) := by
  obtain ⟨h2, h3⟩ := h1.reg hRM hRn hBR i v
  refine ⟨h2, ?_, (hc.mono (S' := fun k => k = M ∨ k = R) (fun _ _ e => .inl e)).trans h3 (fun _ _ e => .inr e)⟩
  unfold RgAt
  rw [hr']
  exact blk.set (hR.keep hc hRM) i v

theorem odd_write {w0 w1 : World} {dv' : Value} {rest' : List UInt8} {bad odd : Bool} {r' : Regs} (hRM : R ≠ M) (h1 : SpAt w1 B M iv dv' nv ins rest' l bad odd left pc tg) (h2 : RgAt w1 R r') (h3 : Chg (fun k => k = M ∨ k = R) w0 w1) (o : Bool) :
    SpAt (w1.setCell ⟨M, 4, none⟩ (.bool o)) B M iv dv' nv ins rest' l bad o left pc tg ∧ RgAt (w1.setCell ⟨M, 4, none⟩ (.bool o)) R r' ∧ Chg (fun k => k = M ∨ k = R) w0 (w1.setCell ⟨M, 4, none⟩ (.bool o)) := by
  obtain ⟨m1, m2⟩ := h1.oddly o
  exact ⟨m1, h2.keep m2 hRM, h3.trans m2 (fun _ _ e => .inl e)⟩

set_option maxRecDepth 100000 in
theorem sread_1 (s : St) (hs : s.odd = false) (hb : s.bad = 0) (hre : s.rest = rest) (h : SpAt w B M iv dv nv ins rest l false false left pc tg) (hr : rest.length ≤ 1000000) (hR : RgAt w R r) (hRM : R ≠ M) (hRn : nv.ownBlock ≠ some R) (hBR : B ≤ R) :
    Calls Tryd.prog 37 #[.pointer (some ⟨M, 0, none⟩), .int .i64 1, .pointer (some ⟨R, 0, none⟩)] w fun e w' => e = .returned (.tuple #[]) ∧ SRead B M R iv nv ins l left pc tg (rd 9 1 r s) w w' := by
  have H := hid h
  have HR := hid hR
  have c4 := h.c4
  have f4 := h.m.free 4
  obtain ⟨a, c, c1⟩ := h.c1
  clear h hR
  go_enter Tryd.func37, Tryd.ntmps37
  go_wp2
  go_end0
  exact ⟨rfl, dv, rest, false, r, sp_as H.out hs, HR.out, Chg.refl _ w, fun _ => by show false = decide (s.bad ≠ 0); rw [hb]; rfl, fun _ _ => ⟨hre.symm, rfl⟩⟩
set_option maxRecDepth 100000 in
theorem sread_2_some (x : UInt8) (t : List UInt8) (s : St) (hs : s.odd = false) (hb : s.bad = 0) (hre : s.rest = x :: t) (h : SpAt w B M iv dv nv ins (x :: t) l false false left pc tg) (hr : (x :: t).length ≤ 1000000) (hR : RgAt w R r) (hRM : R ≠ M) (hRn : nv.ownBlock ≠ some R) (hBR : B ≤ R) :
    Calls Tryd.prog 37 #[.pointer (some ⟨M, 0, none⟩), .int .i64 2, .pointer (some ⟨R, 0, none⟩)] w fun e w' => e = .returned (.tuple #[]) ∧ SRead B M R iv nv ins l left pc tg (rd 9 2 r s) w w' := by
  have hrd : rd 9 2 r s = ({ r with truth := (x.toNat : Int) == 1 }, { s with rest := t }) := by
    unfold rd
    rw [if_neg (by decide), if_pos rfl, hre]
  rw [hrd]
  have H := hid h
  have HR := hid hR
  have c4 := h.c4
  have f4 := h.m.free 4
  obtain ⟨a, c, c1⟩ := h.c1
  clear h hR
  go_enter Tryd.func37, Tryd.ntmps37
  go_wp2_with (go_at_call 53; refine (stake_ok B M iv dv nv ins (x :: t) l false false left pc tg 1 _ (H.out.oddly false).1 (by simp) (by simpa using hr)).mono ?_; rintro e w1 ⟨bv, dv2, rfl, h1, h2, h3⟩; have hcv := run_str h1; rw [show (x :: t).take 1 = [x] from rfl] at hcv; have r0 : w1.cell? ⟨R, 0, none⟩ = some (.bool r.truth) := (HR.out.keep (((H.out.oddly false).2).trans h3 (fun _ _ e => e)) hRM).cell 0 rfl; have rf : w1.frozen? ⟨R, 0, none⟩ = false := (HR.out.keep (((H.out.oddly false).2).trans h3 (fun _ _ e => e)) hRM).free 0; replace h1 := hid h1; replace h2 := hid h2; replace h3 := hid h3)
  go_end0
  obtain ⟨m1, m2, m3⟩ := reg_write B M R iv nv ins l left pc tg r w HR.out hRM hRn hBR h2.out (((H.out.oddly false).2).trans h3.out (fun _ _ e => e)) 0 (.bool ((strOf [x]).toList == [1])) { r with truth := (x.toNat : Int) == 1 } (by rw [str1]; rfl)
  exact ⟨rfl, dv2, t, false, _, sp_as m1 hs, m2, m3, fun _ => by show false = decide (s.bad ≠ 0); rw [hb]; rfl, fun _ _ => ⟨rfl, rfl⟩⟩

theorem rdB_zero {w : World} {b : Nat} (n : Nat) (hn : n ≤ 16) (h : blk w b (zeros n) 5) : RdB w (.slice (some ⟨b, 0, none⟩) n n) (List.replicate n 0) := by
  refine .inr ⟨b, 0, n, by simp, by simp, by unfold maxLen; omega, fun i hi => ?_⟩
  have hi : i < n := by simpa using hi
  rw [Nat.zero_add]
  refine h.cell i ?_
  rw [show (List.replicate n (0 : UInt8)).getD i 0 = 0 by simp [List.getD_eq_getElem?_getD, List.getElem?_replicate, hi]]
  simp [zeros, madeCells, hi, Nat.mod_one]

set_option maxRecDepth 100000 in
theorem sread_2_none (s : St) (hs : s.odd = false) (hb : s.bad = 0) (hre : s.rest = []) (h : SpAt w B M iv dv nv ins [] l false false left pc tg) (hR : RgAt w R r) (hRM : R ≠ M) (hRn : nv.ownBlock ≠ some R) (hBR : B ≤ R) :
    Calls Tryd.prog 37 #[.pointer (some ⟨M, 0, none⟩), .int .i64 2, .pointer (some ⟨R, 0, none⟩)] w fun e w' => e = .returned (.tuple #[]) ∧ SRead B M R iv nv ins l left pc tg (rd 9 2 r s) w w' := by
  have hrd : rd 9 2 r s = (r, { s with odd := true }) := by
    unfold rd
    rw [if_neg (by decide), if_pos rfl, hre]
  rw [hrd]
  have H := hid h
  have HR := hid hR
  have c4 := h.c4
  have f4 := h.m.free 4
  obtain ⟨a, c, c1⟩ := h.c1
  clear h hR
  go_enter Tryd.func37, Tryd.ntmps37
  go_wp2_with (go_at_call 53; refine (stake_bad B M iv dv nv ins [] l false true left pc tg 1 _ (H.out.oddly true).1 (by simp) (by decide)).mono ?_; rintro e w1 ⟨m, rfl, hm, h1, h2, h3⟩; (have hm1 : m = 1 := by omega); subst hm1; clear hm; rw [show (w.setCell ⟨M, 4, none⟩ (.bool true)).heap.size = w.heap.size by simp] at h1; have hcv : (convert 22 9 (.slice (some ⟨w.heap.size, 0, none⟩) 1 1)).run Tryd.prog w1 = .ok (.string (strOf [0])) w1 := run_str (rdB_zero 1 (by decide) h1); have r0 : w1.cell? ⟨R, 0, none⟩ = some (.bool r.truth) := (HR.out.keep (((H.out.oddly true).2).trans h3 (fun _ _ e => e)) hRM).cell 0 rfl; have rf : w1.frozen? ⟨R, 0, none⟩ = false := (HR.out.keep (((H.out.oddly true).2).trans h3 (fun _ _ e => e)) hRM).free 0; replace h1 := hid h1; replace h2 := hid h2; replace h3 := hid h3)
  go_end0
  obtain ⟨m1, m2, m3⟩ := reg_write B M R iv nv ins l left pc tg r w HR.out hRM hRn hBR h2.out (((H.out.oddly true).2).trans h3.out (fun _ _ e => e)) 0 (.bool ((strOf [0]).toList == [1])) { r with truth := ((strOf [0]).toList == [1]) } rfl
  exact ⟨rfl, dv, [], true, _, m1, m2, m3, fun h => (by cases h), fun h => (by cases h)⟩

set_option maxRecDepth 100000 in
theorem sread_10_ok (s : St) (hs : s.odd = false) (hb : s.bad = 0) (hre : s.rest = rest) (h : SpAt w B M iv dv nv ins rest l false false left pc tg) (hr : rest.length ≤ 1000000) (hR : RgAt w R r) (hRM : R ≠ M) (hRn : nv.ownBlock ≠ some R) (hBR : B ≤ R) (u : Int) (t : List UInt8) (hlg : lg 9 0 0 rest = .ok u t) :
    Calls Tryd.prog 37 #[.pointer (some ⟨M, 0, none⟩), .int .i64 10, .pointer (some ⟨R, 0, none⟩)] w fun e w' => e = .returned (.tuple #[]) ∧ SRead B M R iv nv ins l left pc tg (rd 9 10 r s) w w' := by
  have H := hid h
  have HR := hid hR
  have c4 := h.c4
  have f4 := h.m.free 4
  obtain ⟨a, c, c1⟩ := h.c1
  have hcall := slong_any B M iv dv nv ins rest l false left pc tg w h hr
  rw [hlg] at hcall
  replace hcall := hid hcall
  have hrd : rd 9 10 r s = (r, { s with rest := t }) := by
    unfold rd
    rw [if_neg (by decide), if_neg (by decide), if_neg (by decide), if_pos rfl, hre, hlg]
  rw [hrd]
  clear h hR
  go_enter Tryd.func37, Tryd.ntmps37
  go_wp2_with (go_at_call 54; refine (hcall.out).mono ?_; rintro e w1 ⟨rfl, ⟨dv1, j1⟩, j2⟩; replace j1 := hid j1; replace j2 := hid j2)
  go_end0
  exact ⟨rfl, dv1, t, false, r, sp_as j1.out hs, HR.out.keep j2.out hRM, j2.out.mono (fun _ _ e => .inl e), fun _ => by show false = decide (s.bad ≠ 0); rw [hb]; rfl, fun _ _ => ⟨rfl, rfl⟩⟩

set_option maxRecDepth 100000 in
theorem sread_10_eof (s : St) (hs : s.odd = false) (hb : s.bad = 0) (hre : s.rest = rest) (h : SpAt w B M iv dv nv ins rest l false false left pc tg) (hr : rest.length ≤ 1000000) (hR : RgAt w R r) (hRM : R ≠ M) (hRn : nv.ownBlock ≠ some R) (hBR : B ≤ R) (hlg : lg 9 0 0 rest = .eof) :
    Calls Tryd.prog 37 #[.pointer (some ⟨M, 0, none⟩), .int .i64 10, .pointer (some ⟨R, 0, none⟩)] w fun e w' => e = .returned (.tuple #[]) ∧ SRead B M R iv nv ins l left pc tg (rd 9 10 r s) w w' := by
  have H := hid h
  have HR := hid hR
  have c4 := h.c4
  have f4 := h.m.free 4
  obtain ⟨a, c, c1⟩ := h.c1
  have hcall := slong_any B M iv dv nv ins rest l false left pc tg w h hr
  rw [hlg] at hcall
  replace hcall := hid hcall
  have hrd : rd 9 10 r s = (r, { s with bad := 1 }) := by
    unfold rd
    rw [if_neg (by decide), if_neg (by decide), if_neg (by decide), if_pos rfl, hre, hlg]
  rw [hrd]
  clear h hR
  go_enter Tryd.func37, Tryd.ntmps37
  go_wp2_with (go_at_call 54; refine (hcall.out).mono ?_; rintro e w1 ⟨rfl, ⟨dv1, j1⟩, j2⟩; replace j1 := hid j1; replace j2 := hid j2)
  go_end0
  exact ⟨rfl, dv1, [], true, r, sp_as j1.out hs, HR.out.keep j2.out hRM, j2.out.mono (fun _ _ e => .inl e), fun _ => rfl, fun _ h => absurd h Nat.one_ne_zero⟩

set_option maxRecDepth 100000 in
theorem sread_10_odd (s : St) (hs : s.odd = false) (hb : s.bad = 0) (hre : s.rest = rest) (h : SpAt w B M iv dv nv ins rest l false false left pc tg) (hr : rest.length ≤ 1000000) (hR : RgAt w R r) (hRM : R ≠ M) (hRn : nv.ownBlock ≠ some R) (hBR : B ≤ R) (hlg : lg 9 0 0 rest = .odd) :
    Calls Tryd.prog 37 #[.pointer (some ⟨M, 0, none⟩), .int .i64 10, .pointer (some ⟨R, 0, none⟩)] w fun e w' => e = .returned (.tuple #[]) ∧ SRead B M R iv nv ins l left pc tg (rd 9 10 r s) w w' := by
  have H := hid h
  have HR := hid hR
  have c4 := h.c4
  have f4 := h.m.free 4
  obtain ⟨a, c, c1⟩ := h.c1
  have hcall := slong_any B M iv dv nv ins rest l false left pc tg w h hr
  rw [hlg] at hcall
  replace hcall := hid hcall
  have hrd : rd 9 10 r s = (r, { s with odd := true }) := by
    unfold rd
    rw [if_neg (by decide), if_neg (by decide), if_neg (by decide), if_pos rfl, hre, hlg]
  rw [hrd]
  clear h hR
  go_enter Tryd.func37, Tryd.ntmps37
  go_wp2_with (go_at_call 54; refine (hcall.out).mono ?_; rintro e w1 ⟨rfl, ⟨dv1, t1, j1, jt⟩, j2⟩; replace j1 := hid j1; replace j2 := hid j2)
  go_end0
  exact ⟨rfl, dv1, t1, false, r, j1.out, HR.out.keep j2.out hRM, j2.out.mono (fun _ _ e => .inl e), fun h => (by cases h), fun h => (by cases h)⟩

set_option maxRecDepth 100000 in
theorem sread_4_ok (s : St) (hs : s.odd = false) (hb : s.bad = 0) (hre : s.rest = rest) (h : SpAt w B M iv dv nv ins rest l false false left pc tg) (hr : rest.length ≤ 1000000) (hR : RgAt w R r) (hRM : R ≠ M) (hRn : nv.ownBlock ≠ some R) (hBR : B ≤ R) (u : Int) (t : List UInt8) (hlg : lg 9 0 0 rest = .ok u t) :
    Calls Tryd.prog 37 #[.pointer (some ⟨M, 0, none⟩), .int .i64 4, .pointer (some ⟨R, 0, none⟩)] w fun e w' => e = .returned (.tuple #[]) ∧ SRead B M R iv nv ins l left pc tg (rd 9 4 r s) w w' := by
  have H := hid h
  have HR := hid hR
  have c4 := h.c4
  have f4 := h.m.free 4
  obtain ⟨a, c, c1⟩ := h.c1
  have hcall := slong_any B M iv dv nv ins rest l false left pc tg w h hr
  rw [hlg] at hcall
  replace hcall := hid hcall
  have hrd : rd 9 4 r s = ({ r with long := zig u }, { s with rest := t }) := by
    unfold rd
    rw [if_neg (by decide), if_neg (by decide), if_neg (by decide), if_neg (by decide), if_pos rfl, hre, hlg]
  rw [hrd]
  clear h hR
  go_enter Tryd.func37, Tryd.ntmps37
  go_wp2_with (go_at_call 54; refine (hcall.out).mono ?_; rintro e w1 ⟨rfl, ⟨dv1, j1⟩, j2⟩; have r3 : w1.cell? ⟨R, 3, none⟩ = some (.int .i64 r.long) := (HR.out.keep (j2) hRM).cell 3 rfl; have rf : w1.frozen? ⟨R, 3, none⟩ = false := (HR.out.keep (j2) hRM).free 3; replace j1 := hid j1; replace j2 := hid j2)
  go_end0
  obtain ⟨m1, m2, m3⟩ := reg_write B M R iv nv ins l left pc tg r w HR.out hRM hRn hBR j1.out j2.out 3 (.int .i64 (zig u)) { r with long := zig u } rfl
  exact ⟨rfl, dv1, t, false, _, sp_as m1 hs, m2, m3, fun _ => by show false = decide (s.bad ≠ 0); rw [hb]; rfl, fun _ _ => ⟨rfl, rfl⟩⟩

set_option maxRecDepth 100000 in
theorem sread_4_eof (s : St) (hs : s.odd = false) (hb : s.bad = 0) (hre : s.rest = rest) (h : SpAt w B M iv dv nv ins rest l false false left pc tg) (hr : rest.length ≤ 1000000) (hR : RgAt w R r) (hRM : R ≠ M) (hRn : nv.ownBlock ≠ some R) (hBR : B ≤ R) (hlg : lg 9 0 0 rest = .eof) :
    Calls Tryd.prog 37 #[.pointer (some ⟨M, 0, none⟩), .int .i64 4, .pointer (some ⟨R, 0, none⟩)] w fun e w' => e = .returned (.tuple #[]) ∧ SRead B M R iv nv ins l left pc tg (rd 9 4 r s) w w' := by
  have H := hid h
  have HR := hid hR
  have c4 := h.c4
  have f4 := h.m.free 4
  obtain ⟨a, c, c1⟩ := h.c1
  have hcall := slong_any B M iv dv nv ins rest l false left pc tg w h hr
  rw [hlg] at hcall
  replace hcall := hid hcall
  have hrd : rd 9 4 r s = (r, { s with bad := 1 }) := by
    unfold rd
    rw [if_neg (by decide), if_neg (by decide), if_neg (by decide), if_neg (by decide), if_pos rfl, hre, hlg]
  rw [hrd]
  clear h hR
  go_enter Tryd.func37, Tryd.ntmps37
  go_wp2_with (go_at_call 54; refine (hcall.out).mono ?_; rintro e w1 ⟨rfl, ⟨dv1, j1⟩, j2⟩; have r3 : w1.cell? ⟨R, 3, none⟩ = some (.int .i64 r.long) := (HR.out.keep (j2) hRM).cell 3 rfl; have rf : w1.frozen? ⟨R, 3, none⟩ = false := (HR.out.keep (j2) hRM).free 3; replace j1 := hid j1; replace j2 := hid j2)
  go_end0
  obtain ⟨m1, m2, m3⟩ := reg_write B M R iv nv ins l left pc tg r w HR.out hRM hRn hBR j1.out j2.out 3 (.int .i64 0) { r with long := 0 } rfl
  exact ⟨rfl, dv1, [], true, _, sp_as m1 hs, m2, m3, fun _ => rfl, fun _ h => absurd h Nat.one_ne_zero⟩

set_option maxRecDepth 100000 in
theorem sread_4_odd (s : St) (hs : s.odd = false) (hb : s.bad = 0) (hre : s.rest = rest) (h : SpAt w B M iv dv nv ins rest l false false left pc tg) (hr : rest.length ≤ 1000000) (hR : RgAt w R r) (hRM : R ≠ M) (hRn : nv.ownBlock ≠ some R) (hBR : B ≤ R) (hlg : lg 9 0 0 rest = .odd) :
    Calls Tryd.prog 37 #[.pointer (some ⟨M, 0, none⟩), .int .i64 4, .pointer (some ⟨R, 0, none⟩)] w fun e w' => e = .returned (.tuple #[]) ∧ SRead B M R iv nv ins l left pc tg (rd 9 4 r s) w w' := by
  have H := hid h
  have HR := hid hR
  have c4 := h.c4
  have f4 := h.m.free 4
  obtain ⟨a, c, c1⟩ := h.c1
  have hcall := slong_any B M iv dv nv ins rest l false left pc tg w h hr
  rw [hlg] at hcall
  replace hcall := hid hcall
  have hrd : rd 9 4 r s = (r, { s with odd := true }) := by
    unfold rd
    rw [if_neg (by decide), if_neg (by decide), if_neg (by decide), if_neg (by decide), if_pos rfl, hre, hlg]
  rw [hrd]
  clear h hR
  go_enter Tryd.func37, Tryd.ntmps37
  go_wp2_with (go_at_call 54; refine (hcall.out).mono ?_; rintro e w1 ⟨rfl, ⟨dv1, t1, j1, jt⟩, j2⟩; have r3 : w1.cell? ⟨R, 3, none⟩ = some (.int .i64 r.long) := (HR.out.keep (j2) hRM).cell 3 rfl; have rf : w1.frozen? ⟨R, 3, none⟩ = false := (HR.out.keep (j2) hRM).free 3; replace j1 := hid j1; replace j2 := hid j2)
  go_end0
  obtain ⟨m1, m2, m3⟩ := reg_write B M R iv nv ins l left pc tg r w HR.out hRM hRn hBR j1.out j2.out 3 (.int .i64 0) { r with long := 0 } rfl
  exact ⟨rfl, dv1, t1, false, _, m1, m2, m3, fun h => (by cases h), fun h => (by cases h)⟩

set_option maxRecDepth 100000 in
theorem sread_3_ok (s : St) (hs : s.odd = false) (hb : s.bad = 0) (hre : s.rest = rest) (h : SpAt w B M iv dv nv ins rest l false false left pc tg) (hr : rest.length ≤ 1000000) (hR : RgAt w R r) (hRM : R ≠ M) (hRn : nv.ownBlock ≠ some R) (hBR : B ≤ R) (u : Int) (t : List UInt8) (hlg : lg 9 0 0 rest = .ok u t) (h1 : ¬ 2147483647 < zig u) (h2 : ¬ zig u < -2147483648) (h3 : ¬ (5 : Int) < (rest.length : Int) - (t.length : Int)) (htl : t.length ≤ rest.length) :
    Calls Tryd.prog 37 #[.pointer (some ⟨M, 0, none⟩), .int .i64 3, .pointer (some ⟨R, 0, none⟩)] w fun e w' => e = .returned (.tuple #[]) ∧ SRead B M R iv nv ins l left pc tg (rd 9 3 r s) w w' := by
  have H := hid h
  have HR := hid hR
  have c4 := h.c4
  have f4 := h.m.free 4
  obtain ⟨a, c, c1⟩ := h.c1
  have hcall := slong_any B M iv dv nv ins rest l false left pc tg w h hr
  rw [hlg] at hcall
  replace hcall := hid hcall
  have hrd : rd 9 3 r s = ({ r with num := zig u }, { s with rest := t }) := by
    unfold rd
    rw [if_neg (by decide), if_neg (by decide), if_pos rfl, hre, hlg]
    exact if_pos ⟨by omega, by omega, by omega⟩
  rw [hrd]
  clear h hR
  go_enter Tryd.func37, Tryd.ntmps37
  go_wp2_with (go_at_call 54; refine (hcall.out).mono ?_; rintro e w1 ⟨rfl, ⟨dv1, j1⟩, j2⟩; have r2 : w1.cell? ⟨R, 2, none⟩ = some (.int .i64 r.num) := (HR.out.keep (j2) hRM).cell 2 rfl; have rf : w1.frozen? ⟨R, 2, none⟩ = false := (HR.out.keep (j2) hRM).free 2; have c4 := j1.c4; have f4 := j1.m.free 4; obtain ⟨a1, cc1, c1⟩ := j1.c1; replace j1 := hid j1; replace j2 := hid j2)
  go_end0
  (try rw [show (decide (2147483647 < zig u) || decide (zig u < -2147483648) || decide (5 < (rest.length : Int) - (t.length : Int))) = false by simp only [decide_eq_true_eq, Bool.or_eq_true, Bool.or_eq_false_iff, decide_eq_false_iff_not]; omega])
  obtain ⟨m1, m2, m3⟩ := reg_write B M R iv nv ins l left pc tg r w HR.out hRM hRn hBR j1.out j2.out 2 (.int .i64 (zig u)) { r with num := (zig u) } rfl
  obtain ⟨n1, n2, n3⟩ := odd_write B M R iv nv ins l left pc tg hRM m1 m2 m3 false
  exact ⟨rfl, dv1, t, false, _, sp_as n1 hs, n2, n3, fun _ => by show false = decide (s.bad ≠ 0); rw [hb]; rfl, fun _ _ => ⟨rfl, rfl⟩⟩

set_option maxRecDepth 100000 in
theorem sread_3_big (s : St) (hs : s.odd = false) (hb : s.bad = 0) (hre : s.rest = rest) (h : SpAt w B M iv dv nv ins rest l false false left pc tg) (hr : rest.length ≤ 1000000) (hR : RgAt w R r) (hRM : R ≠ M) (hRn : nv.ownBlock ≠ some R) (hBR : B ≤ R) (u : Int) (t : List UInt8) (hlg : lg 9 0 0 rest = .ok u t) (h1 : 2147483647 < zig u) (htl : t.length ≤ rest.length) :
    Calls Tryd.prog 37 #[.pointer (some ⟨M, 0, none⟩), .int .i64 3, .pointer (some ⟨R, 0, none⟩)] w fun e w' => e = .returned (.tuple #[]) ∧ SRead B M R iv nv ins l left pc tg (rd 9 3 r s) w w' := by
  have H := hid h
  have HR := hid hR
  have c4 := h.c4
  have f4 := h.m.free 4
  obtain ⟨a, c, c1⟩ := h.c1
  have hcall := slong_any B M iv dv nv ins rest l false left pc tg w h hr
  rw [hlg] at hcall
  replace hcall := hid hcall
  have hrd : rd 9 3 r s = (r, { s with odd := true }) := by
    unfold rd
    rw [if_neg (by decide), if_neg (by decide), if_pos rfl, hre, hlg]
    exact if_neg (by omega)
  rw [hrd]
  clear h hR
  go_enter Tryd.func37, Tryd.ntmps37
  go_wp2_with (go_at_call 54; refine (hcall.out).mono ?_; rintro e w1 ⟨rfl, ⟨dv1, j1⟩, j2⟩; have r2 : w1.cell? ⟨R, 2, none⟩ = some (.int .i64 r.num) := (HR.out.keep (j2) hRM).cell 2 rfl; have rf : w1.frozen? ⟨R, 2, none⟩ = false := (HR.out.keep (j2) hRM).free 2; have c4 := j1.c4; have f4 := j1.m.free 4; obtain ⟨a1, cc1, c1⟩ := j1.c1; replace j1 := hid j1; replace j2 := hid j2)
  go_end0
  (try rw [show (decide (2147483647 < zig u) || decide (zig u < -2147483648) || decide (5 < (rest.length : Int) - (t.length : Int))) = true by simp only [decide_eq_true_eq, Bool.or_eq_true, Bool.or_eq_false_iff, decide_eq_false_iff_not]; omega])
  obtain ⟨m1, m2, m3⟩ := reg_write B M R iv nv ins l left pc tg r w HR.out hRM hRn hBR j1.out j2.out 2 (.int .i64 (zig u)) { r with num := (zig u) } rfl
  obtain ⟨n1, n2, n3⟩ := odd_write B M R iv nv ins l left pc tg hRM m1 m2 m3 true
  exact ⟨rfl, dv1, t, false, _, n1, n2, n3, fun h => (by cases h), fun h => (by cases h)⟩

set_option maxRecDepth 100000 in
theorem sread_3_low (s : St) (hs : s.odd = false) (hb : s.bad = 0) (hre : s.rest = rest) (h : SpAt w B M iv dv nv ins rest l false false left pc tg) (hr : rest.length ≤ 1000000) (hR : RgAt w R r) (hRM : R ≠ M) (hRn : nv.ownBlock ≠ some R) (hBR : B ≤ R) (u : Int) (t : List UInt8) (hlg : lg 9 0 0 rest = .ok u t) (h1 : ¬ 2147483647 < zig u) (h2 : zig u < -2147483648) (htl : t.length ≤ rest.length) :
    Calls Tryd.prog 37 #[.pointer (some ⟨M, 0, none⟩), .int .i64 3, .pointer (some ⟨R, 0, none⟩)] w fun e w' => e = .returned (.tuple #[]) ∧ SRead B M R iv nv ins l left pc tg (rd 9 3 r s) w w' := by
  have H := hid h
  have HR := hid hR
  have c4 := h.c4
  have f4 := h.m.free 4
  obtain ⟨a, c, c1⟩ := h.c1
  have hcall := slong_any B M iv dv nv ins rest l false left pc tg w h hr
  rw [hlg] at hcall
  replace hcall := hid hcall
  have hrd : rd 9 3 r s = (r, { s with odd := true }) := by
    unfold rd
    rw [if_neg (by decide), if_neg (by decide), if_pos rfl, hre, hlg]
    exact if_neg (by omega)
  rw [hrd]
  clear h hR
  go_enter Tryd.func37, Tryd.ntmps37
  go_wp2_with (go_at_call 54; refine (hcall.out).mono ?_; rintro e w1 ⟨rfl, ⟨dv1, j1⟩, j2⟩; have r2 : w1.cell? ⟨R, 2, none⟩ = some (.int .i64 r.num) := (HR.out.keep (j2) hRM).cell 2 rfl; have rf : w1.frozen? ⟨R, 2, none⟩ = false := (HR.out.keep (j2) hRM).free 2; have c4 := j1.c4; have f4 := j1.m.free 4; obtain ⟨a1, cc1, c1⟩ := j1.c1; replace j1 := hid j1; replace j2 := hid j2)
  go_end0
  (try rw [show (decide (2147483647 < zig u) || decide (zig u < -2147483648) || decide (5 < (rest.length : Int) - (t.length : Int))) = true by simp only [decide_eq_true_eq, Bool.or_eq_true, Bool.or_eq_false_iff, decide_eq_false_iff_not]; omega])
  obtain ⟨m1, m2, m3⟩ := reg_write B M R iv nv ins l left pc tg r w HR.out hRM hRn hBR j1.out j2.out 2 (.int .i64 (zig u)) { r with num := (zig u) } rfl
  obtain ⟨n1, n2, n3⟩ := odd_write B M R iv nv ins l left pc tg hRM m1 m2 m3 true
  exact ⟨rfl, dv1, t, false, _, n1, n2, n3, fun h => (by cases h), fun h => (by cases h)⟩

set_option maxRecDepth 100000 in
theorem sread_3_long (s : St) (hs : s.odd = false) (hb : s.bad = 0) (hre : s.rest = rest) (h : SpAt w B M iv dv nv ins rest l false false left pc tg) (hr : rest.length ≤ 1000000) (hR : RgAt w R r) (hRM : R ≠ M) (hRn : nv.ownBlock ≠ some R) (hBR : B ≤ R) (u : Int) (t : List UInt8) (hlg : lg 9 0 0 rest = .ok u t) (h1 : ¬ 2147483647 < zig u) (h2 : ¬ zig u < -2147483648) (h3 : (5 : Int) < (rest.length : Int) - (t.length : Int)) (htl : t.length ≤ rest.length) :
    Calls Tryd.prog 37 #[.pointer (some ⟨M, 0, none⟩), .int .i64 3, .pointer (some ⟨R, 0, none⟩)] w fun e w' => e = .returned (.tuple #[]) ∧ SRead B M R iv nv ins l left pc tg (rd 9 3 r s) w w' := by
  have H := hid h
  have HR := hid hR
  have c4 := h.c4
  have f4 := h.m.free 4
  obtain ⟨a, c, c1⟩ := h.c1
  have hcall := slong_any B M iv dv nv ins rest l false left pc tg w h hr
  rw [hlg] at hcall
  replace hcall := hid hcall
  have hrd : rd 9 3 r s = (r, { s with odd := true }) := by
    unfold rd
    rw [if_neg (by decide), if_neg (by decide), if_pos rfl, hre, hlg]
    exact if_neg (by omega)
  rw [hrd]
  clear h hR
  go_enter Tryd.func37, Tryd.ntmps37
  go_wp2_with (go_at_call 54; refine (hcall.out).mono ?_; rintro e w1 ⟨rfl, ⟨dv1, j1⟩, j2⟩; have r2 : w1.cell? ⟨R, 2, none⟩ = some (.int .i64 r.num) := (HR.out.keep (j2) hRM).cell 2 rfl; have rf : w1.frozen? ⟨R, 2, none⟩ = false := (HR.out.keep (j2) hRM).free 2; have c4 := j1.c4; have f4 := j1.m.free 4; obtain ⟨a1, cc1, c1⟩ := j1.c1; replace j1 := hid j1; replace j2 := hid j2)
  go_end0
  (try rw [show (decide (2147483647 < zig u) || decide (zig u < -2147483648) || decide (5 < (rest.length : Int) - (t.length : Int))) = true by simp only [decide_eq_true_eq, Bool.or_eq_true, Bool.or_eq_false_iff, decide_eq_false_iff_not]; omega])
  obtain ⟨m1, m2, m3⟩ := reg_write B M R iv nv ins l left pc tg r w HR.out hRM hRn hBR j1.out j2.out 2 (.int .i64 (zig u)) { r with num := (zig u) } rfl
  obtain ⟨n1, n2, n3⟩ := odd_write B M R iv nv ins l left pc tg hRM m1 m2 m3 true
  exact ⟨rfl, dv1, t, false, _, n1, n2, n3, fun h => (by cases h), fun h => (by cases h)⟩

set_option maxRecDepth 100000 in
theorem sread_3_eof (s : St) (hs : s.odd = false) (hb : s.bad = 0) (hre : s.rest = rest) (h : SpAt w B M iv dv nv ins rest l false false left pc tg) (hr : rest.length ≤ 1000000) (hR : RgAt w R r) (hRM : R ≠ M) (hRn : nv.ownBlock ≠ some R) (hBR : B ≤ R) (hlg : lg 9 0 0 rest = .eof) (h3 : ¬ (5 : Int) < (rest.length : Int)) :
    Calls Tryd.prog 37 #[.pointer (some ⟨M, 0, none⟩), .int .i64 3, .pointer (some ⟨R, 0, none⟩)] w fun e w' => e = .returned (.tuple #[]) ∧ SRead B M R iv nv ins l left pc tg (rd 9 3 r s) w w' := by
  have H := hid h
  have HR := hid hR
  have c4 := h.c4
  have f4 := h.m.free 4
  obtain ⟨a, c, c1⟩ := h.c1
  have hcall := slong_any B M iv dv nv ins rest l false left pc tg w h hr
  rw [hlg] at hcall
  replace hcall := hid hcall
  have hrd : rd 9 3 r s = (r, { s with bad := 1 }) := by
    unfold rd
    rw [if_neg (by decide), if_neg (by decide), if_pos rfl, hre, hlg]
    simp only []
    rw [if_pos (show rest.length ≤ 5 by omega)]
  rw [hrd]
  clear h hR
  go_enter Tryd.func37, Tryd.ntmps37
  go_wp2_with (go_at_call 54; refine (hcall.out).mono ?_; rintro e w1 ⟨rfl, ⟨dv1, j1⟩, j2⟩; have r2 : w1.cell? ⟨R, 2, none⟩ = some (.int .i64 r.num) := (HR.out.keep (j2) hRM).cell 2 rfl; have rf : w1.frozen? ⟨R, 2, none⟩ = false := (HR.out.keep (j2) hRM).free 2; have c4 := j1.c4; have f4 := j1.m.free 4; obtain ⟨a1, cc1, c1⟩ := j1.c1; replace j1 := hid j1; replace j2 := hid j2)
  go_end0
  (try rw [show decide ((5 : Int) < (rest.length : Int)) = false by simp [h3]])
  obtain ⟨m1, m2, m3⟩ := reg_write B M R iv nv ins l left pc tg r w HR.out hRM hRn hBR j1.out j2.out 2 (.int .i64 0) { r with num := 0 } rfl
  obtain ⟨n1, n2, n3⟩ := odd_write B M R iv nv ins l left pc tg hRM m1 m2 m3 false
  exact ⟨rfl, dv1, [], true, _, sp_as n1 hs, n2, n3, fun _ => rfl, fun _ h => absurd h Nat.one_ne_zero⟩

set_option maxRecDepth 100000 in
theorem sread_3_eof5 (s : St) (hs : s.odd = false) (hb : s.bad = 0) (hre : s.rest = rest) (h : SpAt w B M iv dv nv ins rest l false false left pc tg) (hr : rest.length ≤ 1000000) (hR : RgAt w R r) (hRM : R ≠ M) (hRn : nv.ownBlock ≠ some R) (hBR : B ≤ R) (hlg : lg 9 0 0 rest = .eof) (h3 : (5 : Int) < (rest.length : Int)) :
    Calls Tryd.prog 37 #[.pointer (some ⟨M, 0, none⟩), .int .i64 3, .pointer (some ⟨R, 0, none⟩)] w fun e w' => e = .returned (.tuple #[]) ∧ SRead B M R iv nv ins l left pc tg (rd 9 3 r s) w w' := by
  have H := hid h
  have HR := hid hR
  have c4 := h.c4
  have f4 := h.m.free 4
  obtain ⟨a, c, c1⟩ := h.c1
  have hcall := slong_any B M iv dv nv ins rest l false left pc tg w h hr
  rw [hlg] at hcall
  replace hcall := hid hcall
  have hrd : rd 9 3 r s = (r, { s with odd := true }) := by
    unfold rd
    rw [if_neg (by decide), if_neg (by decide), if_pos rfl, hre, hlg]
    simp only []
    rw [if_neg (show ¬ rest.length ≤ 5 by omega)]
  rw [hrd]
  clear h hR
  go_enter Tryd.func37, Tryd.ntmps37
  go_wp2_with (go_at_call 54; refine (hcall.out).mono ?_; rintro e w1 ⟨rfl, ⟨dv1, j1⟩, j2⟩; have r2 : w1.cell? ⟨R, 2, none⟩ = some (.int .i64 r.num) := (HR.out.keep (j2) hRM).cell 2 rfl; have rf : w1.frozen? ⟨R, 2, none⟩ = false := (HR.out.keep (j2) hRM).free 2; have c4 := j1.c4; have f4 := j1.m.free 4; obtain ⟨a1, cc1, c1⟩ := j1.c1; replace j1 := hid j1; replace j2 := hid j2)
  go_end0
  (try rw [show decide ((5 : Int) < (rest.length : Int)) = true by simp [h3]])
  obtain ⟨m1, m2, m3⟩ := reg_write B M R iv nv ins l left pc tg r w HR.out hRM hRn hBR j1.out j2.out 2 (.int .i64 0) { r with num := 0 } rfl
  obtain ⟨n1, n2, n3⟩ := odd_write B M R iv nv ins l left pc tg hRM m1 m2 m3 true
  exact ⟨rfl, dv1, [], true, _, n1, n2, n3, fun h => (by cases h), fun h => (by cases h)⟩

set_option maxRecDepth 100000 in
theorem sread_3_odd (s : St) (hs : s.odd = false) (hb : s.bad = 0) (hre : s.rest = rest) (h : SpAt w B M iv dv nv ins rest l false false left pc tg) (hr : rest.length ≤ 1000000) (hR : RgAt w R r) (hRM : R ≠ M) (hRn : nv.ownBlock ≠ some R) (hBR : B ≤ R) (hlg : lg 9 0 0 rest = .odd) :
    Calls Tryd.prog 37 #[.pointer (some ⟨M, 0, none⟩), .int .i64 3, .pointer (some ⟨R, 0, none⟩)] w fun e w' => e = .returned (.tuple #[]) ∧ SRead B M R iv nv ins l left pc tg (rd 9 3 r s) w w' := by
  have H := hid h
  have HR := hid hR
  have c4 := h.c4
  have f4 := h.m.free 4
  obtain ⟨a, c, c1⟩ := h.c1
  have hcall := slong_any B M iv dv nv ins rest l false left pc tg w h hr
  rw [hlg] at hcall
  replace hcall := hid hcall
  have hrd : rd 9 3 r s = (r, { s with odd := true }) := by
    unfold rd
    rw [if_neg (by decide), if_neg (by decide), if_pos rfl, hre, hlg]
  rw [hrd]
  clear h hR
  go_enter Tryd.func37, Tryd.ntmps37
  go_wp2_with (go_at_call 54; refine (hcall.out).mono ?_; rintro e w1 ⟨rfl, ⟨dv1, t1, j1, jt⟩, j2⟩; have r2 : w1.cell? ⟨R, 2, none⟩ = some (.int .i64 r.num) := (HR.out.keep (j2) hRM).cell 2 rfl; have rf : w1.frozen? ⟨R, 2, none⟩ = false := (HR.out.keep (j2) hRM).free 2; have c4 := j1.c4; have f4 := j1.m.free 4; obtain ⟨a1, cc1, c1⟩ := j1.c1; replace j1 := hid j1; replace j2 := hid j2)
  go_end0
  (try rw [show decide ((5 : Int) < (rest.length : Int)) = true by simp [h3]])
  obtain ⟨m1, m2, m3⟩ := reg_write B M R iv nv ins l left pc tg r w HR.out hRM hRn hBR j1.out j2.out 2 (.int .i64 0) { r with num := 0 } rfl
  obtain ⟨n1, n2, n3⟩ := odd_write B M R iv nv ins l left pc tg hRM m1 m2 m3 true
  exact ⟨rfl, dv1, t1, false, _, n1, n2, n3, fun h => (by cases h), fun h => (by cases h)⟩

set_option maxRecDepth 100000 in
theorem sread_5_ok (s : St) (hs : s.odd = false) (hb : s.bad = 0) (hre : s.rest = rest) (h : SpAt w B M iv dv nv ins rest l false false left pc tg) (hr : rest.length ≤ 1000000) (hR : RgAt w R r) (hRM : R ≠ M) (hRn : nv.ownBlock ≠ some R) (hBR : B ≤ R) (h4 : ¬ rest.length < 4) :
    Calls Tryd.prog 37 #[.pointer (some ⟨M, 0, none⟩), .int .i64 5, .pointer (some ⟨R, 0, none⟩)] w fun e w' => e = .returned (.tuple #[]) ∧ SRead B M R iv nv ins l left pc tg (rd 9 5 r s) w w' := by
  have H := hid h
  have HR := hid hR
  have c4 := h.c4
  have f4 := h.m.free 4
  obtain ⟨a, c, c1⟩ := h.c1
  have hrd : rd 9 5 r s = ({ r with float := leN (rest.take 4) }, { s with rest := rest.drop 4 }) := by
    unfold rd
    rw [if_neg (by decide), if_neg (by decide), if_neg (by decide), if_neg (by decide), if_neg (by decide), if_pos rfl, hre, if_neg h4]
  rw [hrd]
  clear h hR
  go_enter Tryd.func37, Tryd.ntmps37
  go_wp2_with (go_at_call 55; refine (sbits_any B M iv dv nv ins rest l false left pc tg 4 _ H.out hr (by decide) (by decide)).mono ?_; rintro e w1 ⟨u, rfl, hu, hq⟩; have r4 : w1.cell? ⟨R, 4, none⟩ = some (.int .u64 (r.float : Int)) := (HR.out.keep (hq.out.2.2) hRM).cell 4 rfl; have rf : w1.frozen? ⟨R, 4, none⟩ = false := (HR.out.keep (hq.out.2.2) hRM).free 4)
  go_end0
  obtain ⟨e1, dv1, e2⟩ := hq.out.1 (by omega)
  subst e1
  obtain ⟨m1, m2, m3⟩ := reg_write B M R iv nv ins l left pc tg r w HR.out hRM hRn hBR e2 hq.out.2.2 4 (.int .u64 (leN (rest.take 4) : Int)) { r with float := leN (rest.take 4) } rfl
  exact ⟨rfl, dv1, _, false, _, sp_as m1 hs, m2, m3, fun _ => by show false = decide (s.bad ≠ 0); rw [hb]; rfl, fun _ _ => ⟨rfl, rfl⟩⟩

set_option maxRecDepth 100000 in
theorem sread_5_bad (s : St) (hs : s.odd = false) (hb : s.bad = 0) (hre : s.rest = rest) (h : SpAt w B M iv dv nv ins rest l false false left pc tg) (hr : rest.length ≤ 1000000) (hR : RgAt w R r) (hRM : R ≠ M) (hRn : nv.ownBlock ≠ some R) (hBR : B ≤ R) (h4 : rest.length < 4) :
    Calls Tryd.prog 37 #[.pointer (some ⟨M, 0, none⟩), .int .i64 5, .pointer (some ⟨R, 0, none⟩)] w fun e w' => e = .returned (.tuple #[]) ∧ SRead B M R iv nv ins l left pc tg (rd 9 5 r s) w w' := by
  have H := hid h
  have HR := hid hR
  have c4 := h.c4
  have f4 := h.m.free 4
  obtain ⟨a, c, c1⟩ := h.c1
  have hrd : rd 9 5 r s = (r, { s with bad := 1 }) := by
    unfold rd
    rw [if_neg (by decide), if_neg (by decide), if_neg (by decide), if_neg (by decide), if_neg (by decide), if_pos rfl, hre, if_pos h4]
  rw [hrd]
  clear h hR
  go_enter Tryd.func37, Tryd.ntmps37
  go_wp2_with (go_at_call 55; refine (sbits_any B M iv dv nv ins rest l false left pc tg 4 _ H.out hr (by decide) (by decide)).mono ?_; rintro e w1 ⟨u, rfl, hu, hq⟩; have r4 : w1.cell? ⟨R, 4, none⟩ = some (.int .u64 (r.float : Int)) := (HR.out.keep (hq.out.2.2) hRM).cell 4 rfl; have rf : w1.frozen? ⟨R, 4, none⟩ = false := (HR.out.keep (hq.out.2.2) hRM).free 4)
  go_end0
  have e2 := hq.out.2.1 h4
  obtain ⟨m1, m2, m3⟩ := reg_write B M R iv nv ins l left pc tg r w HR.out hRM hRn hBR e2 hq.out.2.2 4 (.int .u64 (u : Int)) { r with float := u } rfl
  exact ⟨rfl, dv, rest, true, _, sp_as m1 hs, m2, m3, fun _ => rfl, fun _ h => absurd h Nat.one_ne_zero⟩

set_option maxRecDepth 100000 in
theorem sread_6_ok (s : St) (hs : s.odd = false) (hb : s.bad = 0) (hre : s.rest = rest) (h : SpAt w B M iv dv nv ins rest l false false left pc tg) (hr : rest.length ≤ 1000000) (hR : RgAt w R r) (hRM : R ≠ M) (hRn : nv.ownBlock ≠ some R) (hBR : B ≤ R) (h4 : ¬ rest.length < 8) :
    Calls Tryd.prog 37 #[.pointer (some ⟨M, 0, none⟩), .int .i64 6, .pointer (some ⟨R, 0, none⟩)] w fun e w' => e = .returned (.tuple #[]) ∧ SRead B M R iv nv ins l left pc tg (rd 9 6 r s) w w' := by
  have H := hid h
  have HR := hid hR
  have c4 := h.c4
  have f4 := h.m.free 4
  obtain ⟨a, c, c1⟩ := h.c1
  have hrd : rd 9 6 r s = ({ r with double := leN (rest.take 8) }, { s with rest := rest.drop 8 }) := by
    unfold rd
    rw [if_neg (by decide), if_neg (by decide), if_neg (by decide), if_neg (by decide), if_neg (by decide), if_neg (by decide), if_pos rfl, hre, if_neg h4]
  rw [hrd]
  clear h hR
  go_enter Tryd.func37, Tryd.ntmps37
  go_wp2_with (go_at_call 55; refine (sbits_any B M iv dv nv ins rest l false left pc tg 8 _ H.out hr (by decide) (by decide)).mono ?_; rintro e w1 ⟨u, rfl, hu, hq⟩; have r5 : w1.cell? ⟨R, 5, none⟩ = some (.int .u64 (r.double : Int)) := (HR.out.keep (hq.out.2.2) hRM).cell 5 rfl; have rf : w1.frozen? ⟨R, 5, none⟩ = false := (HR.out.keep (hq.out.2.2) hRM).free 5)
  go_end0
  obtain ⟨e1, dv1, e2⟩ := hq.out.1 (by omega)
  subst e1
  obtain ⟨m1, m2, m3⟩ := reg_write B M R iv nv ins l left pc tg r w HR.out hRM hRn hBR e2 hq.out.2.2 5 (.int .u64 (leN (rest.take 8) : Int)) { r with double := leN (rest.take 8) } rfl
  exact ⟨rfl, dv1, _, false, _, sp_as m1 hs, m2, m3, fun _ => by show false = decide (s.bad ≠ 0); rw [hb]; rfl, fun _ _ => ⟨rfl, rfl⟩⟩

set_option maxRecDepth 100000 in
theorem sread_6_bad (s : St) (hs : s.odd = false) (hb : s.bad = 0) (hre : s.rest = rest) (h : SpAt w B M iv dv nv ins rest l false false left pc tg) (hr : rest.length ≤ 1000000) (hR : RgAt w R r) (hRM : R ≠ M) (hRn : nv.ownBlock ≠ some R) (hBR : B ≤ R) (h4 : rest.length < 8) :
    Calls Tryd.prog 37 #[.pointer (some ⟨M, 0, none⟩), .int .i64 6, .pointer (some ⟨R, 0, none⟩)] w fun e w' => e = .returned (.tuple #[]) ∧ SRead B M R iv nv ins l left pc tg (rd 9 6 r s) w w' := by
  have H := hid h
  have HR := hid hR
  have c4 := h.c4
  have f4 := h.m.free 4
  obtain ⟨a, c, c1⟩ := h.c1
  have hrd : rd 9 6 r s = (r, { s with bad := 1 }) := by
    unfold rd
    rw [if_neg (by decide), if_neg (by decide), if_neg (by decide), if_neg (by decide), if_neg (by decide), if_neg (by decide), if_pos rfl, hre, if_pos h4]
  rw [hrd]
  clear h hR
  go_enter Tryd.func37, Tryd.ntmps37
  go_wp2_with (go_at_call 55; refine (sbits_any B M iv dv nv ins rest l false left pc tg 8 _ H.out hr (by decide) (by decide)).mono ?_; rintro e w1 ⟨u, rfl, hu, hq⟩; have r5 : w1.cell? ⟨R, 5, none⟩ = some (.int .u64 (r.double : Int)) := (HR.out.keep (hq.out.2.2) hRM).cell 5 rfl; have rf : w1.frozen? ⟨R, 5, none⟩ = false := (HR.out.keep (hq.out.2.2) hRM).free 5)
  go_end0
  have e2 := hq.out.2.1 h4
  obtain ⟨m1, m2, m3⟩ := reg_write B M R iv nv ins l left pc tg r w HR.out hRM hRn hBR e2 hq.out.2.2 5 (.int .u64 (u : Int)) { r with double := u } rfl
  exact ⟨rfl, dv, rest, true, _, sp_as m1 hs, m2, m3, fun _ => rfl, fun _ h => absurd h Nat.one_ne_zero⟩

set_option maxRecDepth 100000 in
theorem sread_7_ok (s : St) (hs : s.odd = false) (hb : s.bad = 0) (hre : s.rest = rest) (h : SpAt w B M iv dv nv ins rest l false false left pc tg) (hr : rest.length ≤ 1000000) (hR : RgAt w R r) (hRM : R ≠ M) (hRn : nv.ownBlock ≠ some R) (hBR : B ≤ R) (u : Int) (t : List UInt8) (hlg : lg 9 0 0 rest = .ok u t) (htl : t.length ≤ rest.length) (n : Nat) (hn : zig u = n) (h1 : n ≤ 1000) (h2 : n ≤ t.length) :
    Calls Tryd.prog 37 #[.pointer (some ⟨M, 0, none⟩), .int .i64 7, .pointer (some ⟨R, 0, none⟩)] w fun e w' => e = .returned (.tuple #[]) ∧ SRead B M R iv nv ins l left pc tg (rd 9 7 r s) w w' := by
  have H := hid h
  have HR := hid hR
  have c4 := h.c4
  have f4 := h.m.free 4
  obtain ⟨a, c, c1⟩ := h.c1
  have hcall := slong_any B M iv dv nv ins rest l false left pc tg w h hr
  rw [hlg] at hcall
  replace hcall : Calls Tryd.prog 54 #[.pointer (some ⟨M, 0, none⟩)] w (fun e w' => e = .returned (.int .i64 n) ∧ (∃ dv', SpAt w' B M iv dv' nv ins t l false false left pc tg) ∧ Chg (fun k => k = M) w w') := hcall.mono (by rintro e w' ⟨rfl, h2, h3⟩; rw [hn]; exact ⟨rfl, h2, h3⟩)
  replace hcall := hid hcall
  have hrd : rd 9 7 r s = ({ r with bytes := t.take n }, { s with rest := t.drop n }) := by
    unfold rd
    rw [if_neg (by decide), if_neg (by decide), if_neg (by decide), if_neg (by decide), if_neg (by decide), if_neg (by decide), if_neg (by decide), if_pos (by decide), hre, hlg]
    simp only []
    rw [if_neg (by omega), if_neg (by omega)]
    simp only [hn, Int.toNat_natCast]
    rfl
  rw [hrd]
  clear h hR
  go_enter Tryd.func37, Tryd.ntmps37
  go_wp2_with (first | (go_at_call 54; refine (hcall.out).mono ?_; rintro e w1 ⟨rfl, ⟨dv1, j1⟩, j2⟩; have c4 := j1.c4; have f4 := j1.m.free 4; replace j1 := hid j1; replace j2 := hid j2) | (go_at_call 53; refine (stake_ok B M iv dv1 nv ins t l false false left pc tg n _ j1.out h2 (by omega)).mono ?_; rintro e w2 ⟨bv, dv2, rfl, h1, h2, h3⟩; have hcv := run_str h1; have rc : w2.cell? ⟨R, 6, none⟩ = some (.string (strOf r.bytes)) := ((HR.out.keep j2.out hRM).keep h3 hRM).cell 6 rfl; have rf : w2.frozen? ⟨R, 6, none⟩ = false := ((HR.out.keep j2.out hRM).keep h3 hRM).free 6; replace h1 := hid h1; replace h2 := hid h2; replace h3 := hid h3))
  go_end0
  obtain ⟨m1, m2, m3⟩ := reg_write B M R iv nv ins l left pc tg r w HR.out hRM hRn hBR h2.out (j2.out.trans h3.out (fun _ _ e => e)) 6 (.string (strOf (t.take n))) { r with bytes := t.take n } rfl
  exact ⟨rfl, dv2, _, false, _, sp_as m1 hs, m2, m3, fun _ => by show false = decide (s.bad ≠ 0); rw [hb]; rfl, fun _ _ => ⟨rfl, rfl⟩⟩

set_option maxRecDepth 100000 in
theorem sread_7_short (s : St) (hs : s.odd = false) (hb : s.bad = 0) (hre : s.rest = rest) (h : SpAt w B M iv dv nv ins rest l false false left pc tg) (hr : rest.length ≤ 1000000) (hR : RgAt w R r) (hRM : R ≠ M) (hRn : nv.ownBlock ≠ some R) (hBR : B ≤ R) (u : Int) (t : List UInt8) (hlg : lg 9 0 0 rest = .ok u t) (htl : t.length ≤ rest.length) (n : Nat) (hn : zig u = n) (h1 : n ≤ 1000) (h2 : t.length < n) :
    Calls Tryd.prog 37 #[.pointer (some ⟨M, 0, none⟩), .int .i64 7, .pointer (some ⟨R, 0, none⟩)] w fun e w' => e = .returned (.tuple #[]) ∧ SRead B M R iv nv ins l left pc tg (rd 9 7 r s) w w' := by
  have H := hid h
  have HR := hid hR
  have c4 := h.c4
  have f4 := h.m.free 4
  obtain ⟨a, c, c1⟩ := h.c1
  have hcall := slong_any B M iv dv nv ins rest l false left pc tg w h hr
  rw [hlg] at hcall
  replace hcall : Calls Tryd.prog 54 #[.pointer (some ⟨M, 0, none⟩)] w (fun e w' => e = .returned (.int .i64 n) ∧ (∃ dv', SpAt w' B M iv dv' nv ins t l false false left pc tg) ∧ Chg (fun k => k = M) w w') := hcall.mono (by rintro e w' ⟨rfl, h2, h3⟩; rw [hn]; exact ⟨rfl, h2, h3⟩)
  replace hcall := hid hcall
  have hrd : rd 9 7 r s = (r, { s with bad := 1 }) := by
    unfold rd
    rw [if_neg (by decide), if_neg (by decide), if_neg (by decide), if_neg (by decide), if_neg (by decide), if_neg (by decide), if_neg (by decide), if_pos (by decide), hre, hlg]
    simp only []
    rw [if_neg (by omega), if_pos (by omega)]
  rw [hrd]
  clear h hR
  go_enter Tryd.func37, Tryd.ntmps37
  go_wp2_with (first | (go_at_call 54; refine (hcall.out).mono ?_; rintro e w1 ⟨rfl, ⟨dv1, j1⟩, j2⟩; have c4 := j1.c4; have f4 := j1.m.free 4; replace j1 := hid j1; replace j2 := hid j2) | (go_at_call 53; refine (stake_bad B M iv dv1 nv ins t l false false left pc tg n _ j1.out h2 (by omega)).mono ?_; rintro e w2 ⟨m, rfl, hm, h1, h2, h3⟩; have hcv := run_str (rdB_zero m (by omega) h1); have rc : w2.cell? ⟨R, 6, none⟩ = some (.string (strOf r.bytes)) := ((HR.out.keep j2.out hRM).keep h3 hRM).cell 6 rfl; have rf : w2.frozen? ⟨R, 6, none⟩ = false := ((HR.out.keep j2.out hRM).keep h3 hRM).free 6; clear hm; replace h1 := hid h1; replace h2 := hid h2; replace h3 := hid h3))
  go_end0
  obtain ⟨m1, m2, m3⟩ := reg_write B M R iv nv ins l left pc tg r w HR.out hRM hRn hBR h2.out (j2.out.trans h3.out (fun _ _ e => e)) 6 (.string (strOf (List.replicate m 0))) { r with bytes := List.replicate m 0 } rfl
  exact ⟨rfl, dv1, t, true, _, sp_as m1 hs, m2, m3, fun _ => rfl, fun _ h => absurd h Nat.one_ne_zero⟩

set_option maxRecDepth 100000 in
theorem sread_7_far (s : St) (hs : s.odd = false) (hb : s.bad = 0) (hre : s.rest = rest) (h : SpAt w B M iv dv nv ins rest l false false left pc tg) (hr : rest.length ≤ 1000000) (hR : RgAt w R r) (hRM : R ≠ M) (hRn : nv.ownBlock ≠ some R) (hBR : B ≤ R) (u : Int) (t : List UInt8) (hlg : lg 9 0 0 rest = .ok u t) (htl : t.length ≤ rest.length) (h1 : zig u < 0 ∨ 1000 < zig u) :
    Calls Tryd.prog 37 #[.pointer (some ⟨M, 0, none⟩), .int .i64 7, .pointer (some ⟨R, 0, none⟩)] w fun e w' => e = .returned (.tuple #[]) ∧ SRead B M R iv nv ins l left pc tg (rd 9 7 r s) w w' := by
  have H := hid h
  have HR := hid hR
  have c4 := h.c4
  have f4 := h.m.free 4
  obtain ⟨a, c, c1⟩ := h.c1
  have hcall := slong_any B M iv dv nv ins rest l false left pc tg w h hr
  rw [hlg] at hcall
  replace hcall := hid hcall
  have hrd : rd 9 7 r s = (r, { s with odd := true }) := by
    unfold rd
    rw [if_neg (by decide), if_neg (by decide), if_neg (by decide), if_neg (by decide), if_neg (by decide), if_neg (by decide), if_neg (by decide), if_pos (by decide), hre, hlg]
    simp only []
    rw [if_pos h1]
  rw [hrd]
  clear h hR
  go_enter Tryd.func37, Tryd.ntmps37
  go_wp2_with (first | (go_at_call 54; refine (hcall.out).mono ?_; rintro e w1 ⟨rfl, ⟨dv1, j1⟩, j2⟩; have c4 := j1.c4; have f4 := j1.m.free 4; replace j1 := hid j1; replace j2 := hid j2) | fail)
  all_goals refine bodyPost_ret (results_none rfl _ _ _) rfl ?_
  all_goals obtain ⟨m1, m2⟩ := j1.out.oddly true
  all_goals exact ⟨rfl, dv1, t, false, r, m1, (HR.out.keep j2.out hRM).keep m2 hRM, (j2.out.trans m2 (fun _ _ e => e)).mono (fun _ _ e => .inl e), fun h => (by cases h), fun h => (by cases h)⟩

set_option maxRecDepth 100000 in
theorem sread_7_eof (s : St) (hs : s.odd = false) (hb : s.bad = 0) (hre : s.rest = rest) (h : SpAt w B M iv dv nv ins rest l false false left pc tg) (hr : rest.length ≤ 1000000) (hR : RgAt w R r) (hRM : R ≠ M) (hRn : nv.ownBlock ≠ some R) (hBR : B ≤ R) (hlg : lg 9 0 0 rest = .eof) :
    Calls Tryd.prog 37 #[.pointer (some ⟨M, 0, none⟩), .int .i64 7, .pointer (some ⟨R, 0, none⟩)] w fun e w' => e = .returned (.tuple #[]) ∧ SRead B M R iv nv ins l left pc tg (rd 9 7 r s) w w' := by
  have H := hid h
  have HR := hid hR
  have c4 := h.c4
  have f4 := h.m.free 4
  obtain ⟨a, c, c1⟩ := h.c1
  have hcall := slong_any B M iv dv nv ins rest l false left pc tg w h hr
  rw [hlg] at hcall
  replace hcall := hid hcall
  have hrd : rd 9 7 r s = (r, { s with bad := 1 }) := by
    unfold rd
    rw [if_neg (by decide), if_neg (by decide), if_neg (by decide), if_neg (by decide), if_neg (by decide), if_neg (by decide), if_neg (by decide), if_pos (by decide), hre, hlg]
    skip
  rw [hrd]
  clear h hR
  go_enter Tryd.func37, Tryd.ntmps37
  go_wp2_with (first | (go_at_call 54; refine (hcall.out).mono ?_; rintro e w1 ⟨rfl, ⟨dv1, j1⟩, j2⟩; have c4 := j1.c4; have f4 := j1.m.free 4; replace j1 := hid j1; replace j2 := hid j2) | (go_at_call 53; refine (stake_ok B M iv dv1 nv ins [] l true false left pc tg 0 _ j1.out (by simp) (by simp)).mono ?_; rintro e w2 ⟨bv, dv2, rfl, h1, h2, h3⟩; have hcv := run_str h1; have rc : w2.cell? ⟨R, 6, none⟩ = some (.string (strOf r.bytes)) := ((HR.out.keep j2.out hRM).keep h3 hRM).cell 6 rfl; have rf : w2.frozen? ⟨R, 6, none⟩ = false := ((HR.out.keep j2.out hRM).keep h3 hRM).free 6; replace h1 := hid h1; replace h2 := hid h2; replace h3 := hid h3))
  go_end0
  obtain ⟨m1, m2, m3⟩ := reg_write B M R iv nv ins l left pc tg r w HR.out hRM hRn hBR h2.out (j2.out.trans h3.out (fun _ _ e => e)) 6 (.string (strOf (([] : List UInt8).take 0))) { r with bytes := ([] : List UInt8).take 0 } rfl
  exact ⟨rfl, dv2, _, true, _, sp_as m1 hs, m2, m3, fun _ => rfl, fun _ h => absurd h Nat.one_ne_zero⟩

set_option maxRecDepth 100000 in
theorem sread_7_odd (s : St) (hs : s.odd = false) (hb : s.bad = 0) (hre : s.rest = rest) (h : SpAt w B M iv dv nv ins rest l false false left pc tg) (hr : rest.length ≤ 1000000) (hR : RgAt w R r) (hRM : R ≠ M) (hRn : nv.ownBlock ≠ some R) (hBR : B ≤ R) (hlg : lg 9 0 0 rest = .odd) :
    Calls Tryd.prog 37 #[.pointer (some ⟨M, 0, none⟩), .int .i64 7, .pointer (some ⟨R, 0, none⟩)] w fun e w' => e = .returned (.tuple #[]) ∧ SRead B M R iv nv ins l left pc tg (rd 9 7 r s) w w' := by
  have H := hid h
  have HR := hid hR
  have c4 := h.c4
  have f4 := h.m.free 4
  obtain ⟨a, c, c1⟩ := h.c1
  have hcall := slong_any B M iv dv nv ins rest l false left pc tg w h hr
  rw [hlg] at hcall
  replace hcall := hid hcall
  have hrd : rd 9 7 r s = (r, { s with odd := true }) := by
    unfold rd
    rw [if_neg (by decide), if_neg (by decide), if_neg (by decide), if_neg (by decide), if_neg (by decide), if_neg (by decide), if_neg (by decide), if_pos (by decide), hre, hlg]
    skip
  rw [hrd]
  clear h hR
  go_enter Tryd.func37, Tryd.ntmps37
  go_wp2_with (first | (go_at_call 54; refine (hcall.out).mono ?_; rintro e w1 ⟨rfl, ⟨dv1, t1, j1, jt⟩, j2⟩; have c4 := j1.c4; have f4 := j1.m.free 4; replace j1 := hid j1; replace j2 := hid j2) | (go_at_call 53; refine (stake_ok B M iv dv1 nv ins t1 l false true left pc tg 0 _ j1.out (by omega) jt).mono ?_; rintro e w2 ⟨bv, dv2, rfl, h1, h2, h3⟩; have hcv := run_str h1; have rc : w2.cell? ⟨R, 6, none⟩ = some (.string (strOf r.bytes)) := ((HR.out.keep j2.out hRM).keep h3 hRM).cell 6 rfl; have rf : w2.frozen? ⟨R, 6, none⟩ = false := ((HR.out.keep j2.out hRM).keep h3 hRM).free 6; replace h1 := hid h1; replace h2 := hid h2; replace h3 := hid h3))
  go_end0
  obtain ⟨m1, m2, m3⟩ := reg_write B M R iv nv ins l left pc tg r w HR.out hRM hRn hBR h2.out (j2.out.trans h3.out (fun _ _ e => e)) 6 (.string (strOf (t1.take 0))) { r with bytes := t1.take 0 } rfl
  exact ⟨rfl, dv2, _, false, _, m1, m2, m3, fun h => (by cases h), fun h => (by cases h)⟩

set_option maxRecDepth 100000 in
theorem sread_8_ok (s : St) (hs : s.odd = false) (hb : s.bad = 0) (hre : s.rest = rest) (h : SpAt w B M iv dv nv ins rest l false false left pc tg) (hr : rest.length ≤ 1000000) (hR : RgAt w R r) (hRM : R ≠ M) (hRn : nv.ownBlock ≠ some R) (hBR : B ≤ R) (u : Int) (t : List UInt8) (hlg : lg 9 0 0 rest = .ok u t) (htl : t.length ≤ rest.length) (n : Nat) (hn : zig u = n) (h1 : n ≤ 1000) (h2 : n ≤ t.length) :
    Calls Tryd.prog 37 #[.pointer (some ⟨M, 0, none⟩), .int .i64 8, .pointer (some ⟨R, 0, none⟩)] w fun e w' => e = .returned (.tuple #[]) ∧ SRead B M R iv nv ins l left pc tg (rd 9 8 r s) w w' := by
  have H := hid h
  have HR := hid hR
  have c4 := h.c4
  have f4 := h.m.free 4
  obtain ⟨a, c, c1⟩ := h.c1
  have hcall := slong_any B M iv dv nv ins rest l false left pc tg w h hr
  rw [hlg] at hcall
  replace hcall : Calls Tryd.prog 54 #[.pointer (some ⟨M, 0, none⟩)] w (fun e w' => e = .returned (.int .i64 n) ∧ (∃ dv', SpAt w' B M iv dv' nv ins t l false false left pc tg) ∧ Chg (fun k => k = M) w w') := hcall.mono (by rintro e w' ⟨rfl, h2, h3⟩; rw [hn]; exact ⟨rfl, h2, h3⟩)
  replace hcall := hid hcall
  have hrd : rd 9 8 r s = ({ r with text := t.take n }, { s with rest := t.drop n }) := by
    unfold rd
    rw [if_neg (by decide), if_neg (by decide), if_neg (by decide), if_neg (by decide), if_neg (by decide), if_neg (by decide), if_neg (by decide), if_pos (by decide), hre, hlg]
    simp only []
    rw [if_neg (by omega), if_neg (by omega)]
    simp only [hn, Int.toNat_natCast]
    rfl
  rw [hrd]
  clear h hR
  go_enter Tryd.func37, Tryd.ntmps37
  go_wp2_with (first | (go_at_call 54; refine (hcall.out).mono ?_; rintro e w1 ⟨rfl, ⟨dv1, j1⟩, j2⟩; have c4 := j1.c4; have f4 := j1.m.free 4; replace j1 := hid j1; replace j2 := hid j2) | (go_at_call 53; refine (stake_ok B M iv dv1 nv ins t l false false left pc tg n _ j1.out h2 (by omega)).mono ?_; rintro e w2 ⟨bv, dv2, rfl, h1, h2, h3⟩; have hcv := run_str h1; have rc : w2.cell? ⟨R, 7, none⟩ = some (.string (strOf r.text)) := ((HR.out.keep j2.out hRM).keep h3 hRM).cell 7 rfl; have rf : w2.frozen? ⟨R, 7, none⟩ = false := ((HR.out.keep j2.out hRM).keep h3 hRM).free 7; replace h1 := hid h1; replace h2 := hid h2; replace h3 := hid h3))
  go_end0
  obtain ⟨m1, m2, m3⟩ := reg_write B M R iv nv ins l left pc tg r w HR.out hRM hRn hBR h2.out (j2.out.trans h3.out (fun _ _ e => e)) 7 (.string (strOf (t.take n))) { r with text := t.take n } rfl
  exact ⟨rfl, dv2, _, false, _, sp_as m1 hs, m2, m3, fun _ => by show false = decide (s.bad ≠ 0); rw [hb]; rfl, fun _ _ => ⟨rfl, rfl⟩⟩

set_option maxRecDepth 100000 in
theorem sread_8_short (s : St) (hs : s.odd = false) (hb : s.bad = 0) (hre : s.rest = rest) (h : SpAt w B M iv dv nv ins rest l false false left pc tg) (hr : rest.length ≤ 1000000) (hR : RgAt w R r) (hRM : R ≠ M) (hRn : nv.ownBlock ≠ some R) (hBR : B ≤ R) (u : Int) (t : List UInt8) (hlg : lg 9 0 0 rest = .ok u t) (htl : t.length ≤ rest.length) (n : Nat) (hn : zig u = n) (h1 : n ≤ 1000) (h2 : t.length < n) :
    Calls Tryd.prog 37 #[.pointer (some ⟨M, 0, none⟩), .int .i64 8, .pointer (some ⟨R, 0, none⟩)] w fun e w' => e = .returned (.tuple #[]) ∧ SRead B M R iv nv ins l left pc tg (rd 9 8 r s) w w' := by
  have H := hid h
  have HR := hid hR
  have c4 := h.c4
  have f4 := h.m.free 4
  obtain ⟨a, c, c1⟩ := h.c1
  have hcall := slong_any B M iv dv nv ins rest l false left pc tg w h hr
  rw [hlg] at hcall
  replace hcall : Calls Tryd.prog 54 #[.pointer (some ⟨M, 0, none⟩)] w (fun e w' => e = .returned (.int .i64 n) ∧ (∃ dv', SpAt w' B M iv dv' nv ins t l false false left pc tg) ∧ Chg (fun k => k = M) w w') := hcall.mono (by rintro e w' ⟨rfl, h2, h3⟩; rw [hn]; exact ⟨rfl, h2, h3⟩)
  replace hcall := hid hcall
  have hrd : rd 9 8 r s = (r, { s with bad := 1 }) := by
    unfold rd
    rw [if_neg (by decide), if_neg (by decide), if_neg (by decide), if_neg (by decide), if_neg (by decide), if_neg (by decide), if_neg (by decide), if_pos (by decide), hre, hlg]
    simp only []
    rw [if_neg (by omega), if_pos (by omega)]
  rw [hrd]
  clear h hR
  go_enter Tryd.func37, Tryd.ntmps37
  go_wp2_with (first | (go_at_call 54; refine (hcall.out).mono ?_; rintro e w1 ⟨rfl, ⟨dv1, j1⟩, j2⟩; have c4 := j1.c4; have f4 := j1.m.free 4; replace j1 := hid j1; replace j2 := hid j2) | (go_at_call 53; refine (stake_bad B M iv dv1 nv ins t l false false left pc tg n _ j1.out h2 (by omega)).mono ?_; rintro e w2 ⟨m, rfl, hm, h1, h2, h3⟩; have hcv := run_str (rdB_zero m (by omega) h1); have rc : w2.cell? ⟨R, 7, none⟩ = some (.string (strOf r.text)) := ((HR.out.keep j2.out hRM).keep h3 hRM).cell 7 rfl; have rf : w2.frozen? ⟨R, 7, none⟩ = false := ((HR.out.keep j2.out hRM).keep h3 hRM).free 7; clear hm; replace h1 := hid h1; replace h2 := hid h2; replace h3 := hid h3))
  go_end0
  obtain ⟨m1, m2, m3⟩ := reg_write B M R iv nv ins l left pc tg r w HR.out hRM hRn hBR h2.out (j2.out.trans h3.out (fun _ _ e => e)) 7 (.string (strOf (List.replicate m 0))) { r with text := List.replicate m 0 } rfl
  exact ⟨rfl, dv1, t, true, _, sp_as m1 hs, m2, m3, fun _ => rfl, fun _ h => absurd h Nat.one_ne_zero⟩

set_option maxRecDepth 100000 in
theorem sread_8_far (s : St) (hs : s.odd = false) (hb : s.bad = 0) (hre : s.rest = rest) (h : SpAt w B M iv dv nv ins rest l false false left pc tg) (hr : rest.length ≤ 1000000) (hR : RgAt w R r) (hRM : R ≠ M) (hRn : nv.ownBlock ≠ some R) (hBR : B ≤ R) (u : Int) (t : List UInt8) (hlg : lg 9 0 0 rest = .ok u t) (htl : t.length ≤ rest.length) (h1 : zig u < 0 ∨ 1000 < zig u) :
    Calls Tryd.prog 37 #[.pointer (some ⟨M, 0, none⟩), .int .i64 8, .pointer (some ⟨R, 0, none⟩)] w fun e w' => e = .returned (.tuple #[]) ∧ SRead B M R iv nv ins l left pc tg (rd 9 8 r s) w w' := by
  have H := hid h
  have HR := hid hR
  have c4 := h.c4
  have f4 := h.m.free 4
  obtain ⟨a, c, c1⟩ := h.c1
  have hcall := slong_any B M iv dv nv ins rest l false left pc tg w h hr
  rw [hlg] at hcall
  replace hcall := hid hcall
  have hrd : rd 9 8 r s = (r, { s with odd := true }) := by
    unfold rd
    rw [if_neg (by decide), if_neg (by decide), if_neg (by decide), if_neg (by decide), if_neg (by decide), if_neg (by decide), if_neg (by decide), if_pos (by decide), hre, hlg]
    simp only []
    rw [if_pos h1]
  rw [hrd]
  clear h hR
  go_enter Tryd.func37, Tryd.ntmps37
  go_wp2_with (first | (go_at_call 54; refine (hcall.out).mono ?_; rintro e w1 ⟨rfl, ⟨dv1, j1⟩, j2⟩; have c4 := j1.c4; have f4 := j1.m.free 4; replace j1 := hid j1; replace j2 := hid j2) | fail)
  all_goals refine bodyPost_ret (results_none rfl _ _ _) rfl ?_
  all_goals obtain ⟨m1, m2⟩ := j1.out.oddly true
  all_goals exact ⟨rfl, dv1, t, false, r, m1, (HR.out.keep j2.out hRM).keep m2 hRM, (j2.out.trans m2 (fun _ _ e => e)).mono (fun _ _ e => .inl e), fun h => (by cases h), fun h => (by cases h)⟩

set_option maxRecDepth 100000 in
theorem sread_8_eof (s : St) (hs : s.odd = false) (hb : s.bad = 0) (hre : s.rest = rest) (h : SpAt w B M iv dv nv ins rest l false false left pc tg) (hr : rest.length ≤ 1000000) (hR : RgAt w R r) (hRM : R ≠ M) (hRn : nv.ownBlock ≠ some R) (hBR : B ≤ R) (hlg : lg 9 0 0 rest = .eof) :
    Calls Tryd.prog 37 #[.pointer (some ⟨M, 0, none⟩), .int .i64 8, .pointer (some ⟨R, 0, none⟩)] w fun e w' => e = .returned (.tuple #[]) ∧ SRead B M R iv nv ins l left pc tg (rd 9 8 r s) w w' := by
  have H := hid h
  have HR := hid hR
  have c4 := h.c4
  have f4 := h.m.free 4
  obtain ⟨a, c, c1⟩ := h.c1
  have hcall := slong_any B M iv dv nv ins rest l false left pc tg w h hr
  rw [hlg] at hcall
  replace hcall := hid hcall
  have hrd : rd 9 8 r s = (r, { s with bad := 1 }) := by
    unfold rd
    rw [if_neg (by decide), if_neg (by decide), if_neg (by decide), if_neg (by decide), if_neg (by decide), if_neg (by decide), if_neg (by decide), if_pos (by decide), hre, hlg]
    skip
  rw [hrd]
  clear h hR
  go_enter Tryd.func37, Tryd.ntmps37
  go_wp2_with (first | (go_at_call 54; refine (hcall.out).mono ?_; rintro e w1 ⟨rfl, ⟨dv1, j1⟩, j2⟩; have c4 := j1.c4; have f4 := j1.m.free 4; replace j1 := hid j1; replace j2 := hid j2) | (go_at_call 53; refine (stake_ok B M iv dv1 nv ins [] l true false left pc tg 0 _ j1.out (by simp) (by simp)).mono ?_; rintro e w2 ⟨bv, dv2, rfl, h1, h2, h3⟩; have hcv := run_str h1; have rc : w2.cell? ⟨R, 7, none⟩ = some (.string (strOf r.text)) := ((HR.out.keep j2.out hRM).keep h3 hRM).cell 7 rfl; have rf : w2.frozen? ⟨R, 7, none⟩ = false := ((HR.out.keep j2.out hRM).keep h3 hRM).free 7; replace h1 := hid h1; replace h2 := hid h2; replace h3 := hid h3))
  go_end0
  obtain ⟨m1, m2, m3⟩ := reg_write B M R iv nv ins l left pc tg r w HR.out hRM hRn hBR h2.out (j2.out.trans h3.out (fun _ _ e => e)) 7 (.string (strOf (([] : List UInt8).take 0))) { r with text := ([] : List UInt8).take 0 } rfl
  exact ⟨rfl, dv2, _, true, _, sp_as m1 hs, m2, m3, fun _ => rfl, fun _ h => absurd h Nat.one_ne_zero⟩

set_option maxRecDepth 100000 in
theorem sread_8_odd (s : St) (hs : s.odd = false) (hb : s.bad = 0) (hre : s.rest = rest) (h : SpAt w B M iv dv nv ins rest l false false left pc tg) (hr : rest.length ≤ 1000000) (hR : RgAt w R r) (hRM : R ≠ M) (hRn : nv.ownBlock ≠ some R) (hBR : B ≤ R) (hlg : lg 9 0 0 rest = .odd) :
    Calls Tryd.prog 37 #[.pointer (some ⟨M, 0, none⟩), .int .i64 8, .pointer (some ⟨R, 0, none⟩)] w fun e w' => e = .returned (.tuple #[]) ∧ SRead B M R iv nv ins l left pc tg (rd 9 8 r s) w w' := by
  have H := hid h
  have HR := hid hR
  have c4 := h.c4
  have f4 := h.m.free 4
  obtain ⟨a, c, c1⟩ := h.c1
  have hcall := slong_any B M iv dv nv ins rest l false left pc tg w h hr
  rw [hlg] at hcall
  replace hcall := hid hcall
  have hrd : rd 9 8 r s = (r, { s with odd := true }) := by
    unfold rd
    rw [if_neg (by decide), if_neg (by decide), if_neg (by decide), if_neg (by decide), if_neg (by decide), if_neg (by decide), if_neg (by decide), if_pos (by decide), hre, hlg]
    skip
  rw [hrd]
  clear h hR
  go_enter Tryd.func37, Tryd.ntmps37
  go_wp2_with (first | (go_at_call 54; refine (hcall.out).mono ?_; rintro e w1 ⟨rfl, ⟨dv1, t1, j1, jt⟩, j2⟩; have c4 := j1.c4; have f4 := j1.m.free 4; replace j1 := hid j1; replace j2 := hid j2) | (go_at_call 53; refine (stake_ok B M iv dv1 nv ins t1 l false true left pc tg 0 _ j1.out (by omega) jt).mono ?_; rintro e w2 ⟨bv, dv2, rfl, h1, h2, h3⟩; have hcv := run_str h1; have rc : w2.cell? ⟨R, 7, none⟩ = some (.string (strOf r.text)) := ((HR.out.keep j2.out hRM).keep h3 hRM).cell 7 rfl; have rf : w2.frozen? ⟨R, 7, none⟩ = false := ((HR.out.keep j2.out hRM).keep h3 hRM).free 7; replace h1 := hid h1; replace h2 := hid h2; replace h3 := hid h3))
  go_end0
  obtain ⟨m1, m2, m3⟩ := reg_write B M R iv nv ins l left pc tg r w HR.out hRM hRn hBR h2.out (j2.out.trans h3.out (fun _ _ e => e)) 7 (.string (strOf (t1.take 0))) { r with text := t1.take 0 } rfl
  exact ⟨rfl, dv2, _, false, _, m1, m2, m3, fun h => (by cases h), fun h => (by cases h)⟩

end
end Go.Proofs.YtkhicabfmkldpaaDoor

namespace Go.Proofs.YtkhicabfmkldpaaDoor
open Go Go.RowKit

section
variable (B M R : Nat) (iv dv nv : Value) (ins : List (Nat × Int)) (rest : List UInt8) (l : List Note) (left pc tg : Int) (r : Regs) (w : World)

set_option maxRecDepth 100000 in
theorem sread_other (s : St) (hs : s.odd = false) (hb : s.bad = 0) (hre : s.rest = rest) (h : SpAt w B M iv dv nv ins rest l false false left pc tg) (hr : rest.length ≤ 1000000) (hR : RgAt w R r) (hRM : R ≠ M) (hRn : nv.ownBlock ≠ some R) (hBR : B ≤ R) (k : Int) (hk : k < 1 ∨ k = 9 ∨ 1011 ≤ k) :
    Calls Tryd.prog 37 #[.pointer (some ⟨M, 0, none⟩), .int .i64 k, .pointer (some ⟨R, 0, none⟩)] w fun e w' => e = .returned (.tuple #[]) ∧ SRead B M R iv nv ins l left pc tg (rd 9 k r s) w w' := by
  have H := hid h
  have HR := hid hR
  have c4 := h.c4
  have f4 := h.m.free 4
  obtain ⟨a, c, c1⟩ := h.c1
  have n1 : ¬ k = 1 := by omega
  have n2 : ¬ k = 2 := by omega
  have n3 : ¬ k = 3 := by omega
  have n4 : ¬ k = 4 := by omega
  have n5 : ¬ k = 5 := by omega
  have n6 : ¬ k = 6 := by omega
  have n7 : ¬ k = 7 := by omega
  have n8 : ¬ k = 8 := by omega
  have n10 : ¬ k = 10 := by omega
  have b7 : (k == 7) = false := beq_false_of_ne n7
  have b8 : (k == 8) = false := beq_false_of_ne n8
  have hk2 : ¬ (11 ≤ k ∧ k < 1011) := by omega
  have hrd : rd 9 k r s = (r, { s with odd := true }) := by
    unfold rd
    rw [if_neg n1, if_neg n2, if_neg n3, if_neg n10, if_neg n4, if_neg n5, if_neg n6, if_neg (by omega), if_neg hk2]
  rw [hrd]
  clear h hR
  have d11 : (decide (11 ≤ k) && decide (k < 1011)) = false := by simp only [Bool.and_eq_false_iff, decide_eq_false_iff_not]; omega
  by_cases hk11 : 11 ≤ k
  all_goals go_enter Tryd.func37, Tryd.ntmps37
  all_goals go_wp2
  all_goals go_end0
  all_goals obtain ⟨m1, m2⟩ := H.out.oddly true
  all_goals exact ⟨rfl, dv, rest, false, r, m1, HR.out.keep m2 hRM, m2.mono (fun _ _ e => .inl e), fun h => (by cases h), fun h => (by cases h)⟩
set_option maxRecDepth 100000 in
theorem sread_fixed_ok (s : St) (hs : s.odd = false) (hb : s.bad = 0) (hre : s.rest = rest) (h : SpAt w B M iv dv nv ins rest l false false left pc tg) (hr : rest.length ≤ 1000000) (hR : RgAt w R r) (hRM : R ≠ M) (hRn : nv.ownBlock ≠ some R) (hBR : B ≤ R) (k : Int) (n : Nat) (hk : k = (n : Int) + 11) (hn : n < 1000) (h2 : n ≤ rest.length) :
    Calls Tryd.prog 37 #[.pointer (some ⟨M, 0, none⟩), .int .i64 k, .pointer (some ⟨R, 0, none⟩)] w fun e w' => e = .returned (.tuple #[]) ∧ SRead B M R iv nv ins l left pc tg (rd 9 k r s) w w' := by
  have H := hid h
  have HR := hid hR
  have c4 := h.c4
  have f4 := h.m.free 4
  obtain ⟨a, c, c1⟩ := h.c1
  have n1 : ¬ k = 1 := by omega
  have n2 : ¬ k = 2 := by omega
  have n3 : ¬ k = 3 := by omega
  have n4 : ¬ k = 4 := by omega
  have n5 : ¬ k = 5 := by omega
  have n6 : ¬ k = 6 := by omega
  have n7 : ¬ k = 7 := by omega
  have n8 : ¬ k = 8 := by omega
  have n10 : ¬ k = 10 := by omega
  have b7 : (k == 7) = false := beq_false_of_ne n7
  have b8 : (k == 8) = false := beq_false_of_ne n8
  have hk11 : 11 ≤ k := by omega
  have hk12 : k < 1011 := by omega
  have d11 : decide (11 ≤ k) = true := decide_eq_true hk11
  have d12 : decide (k < 1011) = true := decide_eq_true hk12
  have hkn : k - 11 = (n : Int) := by omega
  have hrd : rd 9 k r s = ({ r with bytes := rest.take n }, { s with rest := rest.drop n }) := by
    unfold rd
    rw [if_neg n1, if_neg n2, if_neg n3, if_neg n10, if_neg n4, if_neg n5, if_neg n6, if_neg (by omega), if_pos ⟨hk11, hk12⟩, hre, hkn]
    rw [if_neg (by omega)]; rfl
  rw [hrd]
  clear hk hrd
  clear h hR
  go_enter Tryd.func37, Tryd.ntmps37
  go_wp2_with (go_at_call 53; refine (stake_ok B M iv dv nv ins rest l false false left pc tg n _ H.out h2 hr).mono ?_; rintro e w1 ⟨bv, dv2, rfl, h1, h2, h3⟩; have hcv := run_str h1; have rc : w1.cell? ⟨R, 6, none⟩ = some (.string (strOf r.bytes)) := (HR.out.keep h3 hRM).cell 6 rfl; have rf : w1.frozen? ⟨R, 6, none⟩ = false := (HR.out.keep h3 hRM).free 6; replace h1 := hid h1; replace h2 := hid h2; replace h3 := hid h3)
  go_end0
  obtain ⟨m1, m2, m3⟩ := reg_write B M R iv nv ins l left pc tg r w HR.out hRM hRn hBR h2.out h3.out 6 (.string (strOf (rest.take n))) { r with bytes := rest.take n } rfl
  exact ⟨rfl, dv2, _, false, _, sp_as m1 hs, m2, m3, fun _ => by show false = decide (s.bad ≠ 0); rw [hb]; rfl, fun _ _ => ⟨rfl, rfl⟩⟩

set_option maxRecDepth 100000 in
theorem sread_fixed_bad (s : St) (hs : s.odd = false) (hb : s.bad = 0) (hre : s.rest = rest) (h : SpAt w B M iv dv nv ins rest l false false left pc tg) (hr : rest.length ≤ 1000000) (hR : RgAt w R r) (hRM : R ≠ M) (hRn : nv.ownBlock ≠ some R) (hBR : B ≤ R) (k : Int) (n : Nat) (hk : k = (n : Int) + 11) (hn : n < 1000) (h2 : rest.length < n) :
    Calls Tryd.prog 37 #[.pointer (some ⟨M, 0, none⟩), .int .i64 k, .pointer (some ⟨R, 0, none⟩)] w fun e w' => e = .returned (.tuple #[]) ∧ SRead B M R iv nv ins l left pc tg (rd 9 k r s) w w' := by
  have H := hid h
  have HR := hid hR
  have c4 := h.c4
  have f4 := h.m.free 4
  obtain ⟨a, c, c1⟩ := h.c1
  have n1 : ¬ k = 1 := by omega
  have n2 : ¬ k = 2 := by omega
  have n3 : ¬ k = 3 := by omega
  have n4 : ¬ k = 4 := by omega
  have n5 : ¬ k = 5 := by omega
  have n6 : ¬ k = 6 := by omega
  have n7 : ¬ k = 7 := by omega
  have n8 : ¬ k = 8 := by omega
  have n10 : ¬ k = 10 := by omega
  have b7 : (k == 7) = false := beq_false_of_ne n7
  have b8 : (k == 8) = false := beq_false_of_ne n8
  have hk11 : 11 ≤ k := by omega
  have hk12 : k < 1011 := by omega
  have d11 : decide (11 ≤ k) = true := decide_eq_true hk11
  have d12 : decide (k < 1011) = true := decide_eq_true hk12
  have hkn : k - 11 = (n : Int) := by omega
  have hrd : rd 9 k r s = (r, { s with bad := 1 }) := by
    unfold rd
    rw [if_neg n1, if_neg n2, if_neg n3, if_neg n10, if_neg n4, if_neg n5, if_neg n6, if_neg (by omega), if_pos ⟨hk11, hk12⟩, hre, hkn]
    rw [if_pos (by omega)]
  rw [hrd]
  clear hk hrd
  clear h hR
  go_enter Tryd.func37, Tryd.ntmps37
  go_wp2_with (go_at_call 53; refine (stake_bad B M iv dv nv ins rest l false false left pc tg n _ H.out h2 (by omega)).mono ?_; rintro e w1 ⟨m, rfl, hm, h1, h2, h3⟩; have hcv := run_str (rdB_zero m (by omega) h1); have rc : w1.cell? ⟨R, 6, none⟩ = some (.string (strOf r.bytes)) := (HR.out.keep h3 hRM).cell 6 rfl; have rf : w1.frozen? ⟨R, 6, none⟩ = false := (HR.out.keep h3 hRM).free 6; clear hm; replace h1 := hid h1; replace h2 := hid h2; replace h3 := hid h3)
  go_end0
  obtain ⟨m1, m2, m3⟩ := reg_write B M R iv nv ins l left pc tg r w HR.out hRM hRn hBR h2.out h3.out 6 (.string (strOf (List.replicate m 0))) { r with bytes := List.replicate m 0 } rfl
  exact ⟨rfl, dv, _, true, _, sp_as m1 hs, m2, m3, fun _ => rfl, fun _ h => absurd h Nat.one_ne_zero⟩

theorem sread_any (s : St) (hs : s.odd = false) (hb : s.bad = 0) (hre : s.rest = rest) (h : SpAt w B M iv dv nv ins rest l false false left pc tg) (hr : rest.length ≤ 1000000) (hR : RgAt w R r) (hRM : R ≠ M) (hRn : nv.ownBlock ≠ some R) (hBR : B ≤ R) (k : Int) :
    Calls Tryd.prog 37 #[.pointer (some ⟨M, 0, none⟩), .int .i64 k, .pointer (some ⟨R, 0, none⟩)] w fun e w' => e = .returned (.tuple #[]) ∧ SRead B M R iv nv ins l left pc tg (rd 9 k r s) w w' := by
  by_cases k1 : k = 1
  · subst k1; exact sread_1 B M R iv dv nv ins rest l left pc tg r w s hs hb hre h hr hR hRM hRn hBR
  by_cases k2 : k = 2
  · subst k2
    cases rest with
    | nil => exact sread_2_none B M R iv dv nv ins l left pc tg r w s hs hb hre h hR hRM hRn hBR
    | cons x t => exact sread_2_some B M R iv dv nv ins l left pc tg r w x t s hs hb hre h hr hR hRM hRn hBR
  by_cases k3 : k = 3
  · subst k3
    cases hlg : lg 9 0 0 rest with
    | ok u t =>
      have htl : t.length ≤ rest.length := Nat.le_of_lt (lg_le hlg)
      by_cases h1 : 2147483647 < zig u
      · exact sread_3_big B M R iv dv nv ins rest l left pc tg r w s hs hb hre h hr hR hRM hRn hBR u t hlg h1 htl
      by_cases h2 : zig u < -2147483648
      · exact sread_3_low B M R iv dv nv ins rest l left pc tg r w s hs hb hre h hr hR hRM hRn hBR u t hlg h1 h2 htl
      by_cases h3 : (5 : Int) < (rest.length : Int) - (t.length : Int)
      · exact sread_3_long B M R iv dv nv ins rest l left pc tg r w s hs hb hre h hr hR hRM hRn hBR u t hlg h1 h2 h3 htl
      · exact sread_3_ok B M R iv dv nv ins rest l left pc tg r w s hs hb hre h hr hR hRM hRn hBR u t hlg h1 h2 h3 htl
    | eof =>
      by_cases h3 : (5 : Int) < (rest.length : Int)
      · exact sread_3_eof5 B M R iv dv nv ins rest l left pc tg r w s hs hb hre h hr hR hRM hRn hBR hlg h3
      · exact sread_3_eof B M R iv dv nv ins rest l left pc tg r w s hs hb hre h hr hR hRM hRn hBR hlg h3
    | odd => exact sread_3_odd B M R iv dv nv ins rest l left pc tg r w s hs hb hre h hr hR hRM hRn hBR hlg
  by_cases k10 : k = 10
  · subst k10
    cases hlg : lg 9 0 0 rest with
    | ok u t => exact sread_10_ok B M R iv dv nv ins rest l left pc tg r w s hs hb hre h hr hR hRM hRn hBR u t hlg
    | eof => exact sread_10_eof B M R iv dv nv ins rest l left pc tg r w s hs hb hre h hr hR hRM hRn hBR hlg
    | odd => exact sread_10_odd B M R iv dv nv ins rest l left pc tg r w s hs hb hre h hr hR hRM hRn hBR hlg
  by_cases k4 : k = 4
  · subst k4
    cases hlg : lg 9 0 0 rest with
    | ok u t => exact sread_4_ok B M R iv dv nv ins rest l left pc tg r w s hs hb hre h hr hR hRM hRn hBR u t hlg
    | eof => exact sread_4_eof B M R iv dv nv ins rest l left pc tg r w s hs hb hre h hr hR hRM hRn hBR hlg
    | odd => exact sread_4_odd B M R iv dv nv ins rest l left pc tg r w s hs hb hre h hr hR hRM hRn hBR hlg
  by_cases k5 : k = 5
  · subst k5
    by_cases h4 : rest.length < 4
    · exact sread_5_bad B M R iv dv nv ins rest l left pc tg r w s hs hb hre h hr hR hRM hRn hBR h4
    · exact sread_5_ok B M R iv dv nv ins rest l left pc tg r w s hs hb hre h hr hR hRM hRn hBR h4
  by_cases k6 : k = 6
  · subst k6
    by_cases h4 : rest.length < 8
    · exact sread_6_bad B M R iv dv nv ins rest l left pc tg r w s hs hb hre h hr hR hRM hRn hBR h4
    · exact sread_6_ok B M R iv dv nv ins rest l left pc tg r w s hs hb hre h hr hR hRM hRn hBR h4
  by_cases k7 : k = 7
  · subst k7
    cases hlg : lg 9 0 0 rest with
    | ok u t =>
      have htl : t.length ≤ rest.length := Nat.le_of_lt (lg_le hlg)
      by_cases h1 : zig u < 0 ∨ 1000 < zig u
      · exact sread_7_far B M R iv dv nv ins rest l left pc tg r w s hs hb hre h hr hR hRM hRn hBR u t hlg htl h1
      · obtain ⟨n, hn⟩ : ∃ n : Nat, zig u = n := ⟨(zig u).toNat, by omega⟩
        by_cases h2 : t.length < n
        · exact sread_7_short B M R iv dv nv ins rest l left pc tg r w s hs hb hre h hr hR hRM hRn hBR u t hlg htl n hn (by omega) h2
        · exact sread_7_ok B M R iv dv nv ins rest l left pc tg r w s hs hb hre h hr hR hRM hRn hBR u t hlg htl n hn (by omega) (by omega)
    | eof => exact sread_7_eof B M R iv dv nv ins rest l left pc tg r w s hs hb hre h hr hR hRM hRn hBR hlg
    | odd => exact sread_7_odd B M R iv dv nv ins rest l left pc tg r w s hs hb hre h hr hR hRM hRn hBR hlg
  by_cases k8 : k = 8
  · subst k8
    cases hlg : lg 9 0 0 rest with
    | ok u t =>
      have htl : t.length ≤ rest.length := Nat.le_of_lt (lg_le hlg)
      by_cases h1 : zig u < 0 ∨ 1000 < zig u
      · exact sread_8_far B M R iv dv nv ins rest l left pc tg r w s hs hb hre h hr hR hRM hRn hBR u t hlg htl h1
      · obtain ⟨n, hn⟩ : ∃ n : Nat, zig u = n := ⟨(zig u).toNat, by omega⟩
        by_cases h2 : t.length < n
        · exact sread_8_short B M R iv dv nv ins rest l left pc tg r w s hs hb hre h hr hR hRM hRn hBR u t hlg htl n hn (by omega) h2
        · exact sread_8_ok B M R iv dv nv ins rest l left pc tg r w s hs hb hre h hr hR hRM hRn hBR u t hlg htl n hn (by omega) (by omega)
    | eof => exact sread_8_eof B M R iv dv nv ins rest l left pc tg r w s hs hb hre h hr hR hRM hRn hBR hlg
    | odd => exact sread_8_odd B M R iv dv nv ins rest l left pc tg r w s hs hb hre h hr hR hRM hRn hBR hlg
  by_cases h11 : 11 ≤ k ∧ k < 1011
  · obtain ⟨n, hn⟩ : ∃ n : Nat, k = (n : Int) + 11 := ⟨(k - 11).toNat, by omega⟩
    by_cases h2 : rest.length < n
    · exact sread_fixed_bad B M R iv dv nv ins rest l left pc tg r w s hs hb hre h hr hR hRM hRn hBR k n hn (by omega) h2
    · exact sread_fixed_ok B M R iv dv nv ins rest l left pc tg r w s hs hb hre h hr hR hRM hRn hBR k n hn (by omega) (by omega)
  · exact sread_other B M R iv dv nv ins rest l left pc tg r w s hs hb hre h hr hR hRM hRn hBR k (by omega)
end
end Go.Proofs.YtkhicabfmkldpaaDoor
