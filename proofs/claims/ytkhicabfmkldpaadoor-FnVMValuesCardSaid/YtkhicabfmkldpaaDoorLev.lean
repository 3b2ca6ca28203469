/-
  The machine as plain functions: its registers, its state, one level of a run. No program in sight.
-/
import Derived.Test.YtkhicabfmkldpaaDoorRead6
set_option linter.unusedSimpArgs false
set_option linter.unusedVariables false
namespace Go.Proofs.YtkhicabfmkldpaaDoor
open Go Go.RowKit

structure Regs where
  truth : Bool
  cond : Bool
  num : Int
  long : Int
  float : Nat
  double : Nat
  bytes : List UInt8
  text : List UInt8

def regs0 : Regs := ⟨false, false, 0, 0, 0, 0, [], []⟩

/-- A run's state. bad: 0 no error; 1 the data has ended; 2 no such operation; k + 2 halted with text k. -/
structure St where
  pc : Int
  rest : List UInt8
  notes : List Note
  tg : Int
  left : Nat
  bad : Nat
  odd : Bool
  viol : Bool

inductive LR where
  | ok (u : Int) (r : List UInt8)
  | eof
  | odd

/-- The next whole number, of at most mx bytes, not yet turned. -/
def lg (mx : Nat) : Nat → Int → List UInt8 → LR
  | _, _, [] => .eof
  | i, acc, b :: r => if mx ≤ i then .odd else if b.toNat < 128 then .ok (orS .u64 acc b i) r else lg mx (i + 1) (orS .u64 acc b i) r

def nmSetBoolean : ByteArray := ⟨#[83, 101, 116, 66, 111, 111, 108, 101, 97, 110]⟩
def nmSetInt : ByteArray := ⟨#[83, 101, 116, 73, 110, 116]⟩
def nmSetLong : ByteArray := ⟨#[83, 101, 116, 76, 111, 110, 103]⟩
def nmSetFloat : ByteArray := ⟨#[83, 101, 116, 70, 108, 111, 97, 116]⟩
def nmSetDouble : ByteArray := ⟨#[83, 101, 116, 68, 111, 117, 98, 108, 101]⟩
def nmSetBytes : ByteArray := ⟨#[83, 101, 116, 66, 121, 116, 101, 115]⟩
def nmSetString : ByteArray := ⟨#[83, 101, 116, 83, 116, 114, 105, 110, 103]⟩
def nmSetDefault : ByteArray := ⟨#[83, 101, 116, 68, 101, 102, 97, 117, 108, 116]⟩
def nmNullField : ByteArray := ⟨#[78, 117, 108, 108, 70, 105, 101, 108, 100]⟩
def nmHintSize : ByteArray := ⟨#[72, 105, 110, 116, 83, 105, 122, 101]⟩
def nmFinalize : ByteArray := ⟨#[70, 105, 110, 97, 108, 105, 122, 101]⟩
def nmGet : ByteArray := ⟨#[71, 101, 116]⟩
def nmAppendMap : ByteArray := ⟨#[65, 112, 112, 101, 110, 100, 77, 97, 112]⟩
def nmAppendArray : ByteArray := ⟨#[65, 112, 112, 101, 110, 100, 65, 114, 114, 97, 121]⟩

def St.note (s : St) (name : ByteArray) (tgt n : Int) (text : ByteArray) : St := { s with notes := s.notes ++ [⟨name, n, text, tgt⟩] }

/-- A value is read into its register. -/
def rd (mx : Nat) (k : Int) (r : Regs) (s : St) : Regs × St :=
  if k = 1 then (r, s)
  else if k = 2 then
    match s.rest with
    | [] => (r, { s with odd := true })
    | b :: t => ({ r with truth := (b.toNat : Int) == 1 }, { s with rest := t })
  else if k = 3 then
    match lg mx 0 0 s.rest with
    | .ok u t => if zig u ≤ 2147483647 ∧ -2147483648 ≤ zig u ∧ s.rest.length ≤ t.length + 5 then ({ r with num := zig u }, { s with rest := t }) else (r, { s with odd := true })
    | .eof => (r, if s.rest.length ≤ 5 then { s with bad := 1 } else { s with odd := true })
    | .odd => (r, { s with odd := true })
  else if k = 10 then
    match lg mx 0 0 s.rest with
    | .ok _ t => (r, { s with rest := t })
    | .eof => (r, { s with bad := 1 })
    | .odd => (r, { s with odd := true })
  else if k = 4 then
    match lg mx 0 0 s.rest with
    | .ok u t => ({ r with long := zig u }, { s with rest := t })
    | .eof => (r, { s with bad := 1 })
    | .odd => (r, { s with odd := true })
  else if k = 5 then
    if s.rest.length < 4 then (r, { s with bad := 1 }) else ({ r with float := leN (s.rest.take 4) }, { s with rest := s.rest.drop 4 })
  else if k = 6 then
    if s.rest.length < 8 then (r, { s with bad := 1 }) else ({ r with double := leN (s.rest.take 8) }, { s with rest := s.rest.drop 8 })
  else if k = 7 ∨ k = 8 then
    match lg mx 0 0 s.rest with
    | .ok u t =>
      if zig u < 0 ∨ 1000 < zig u then (r, { s with odd := true })
      else if (t.length : Int) < zig u then (r, { s with bad := 1 })
      else (if k = 7 then { r with bytes := t.take (zig u).toNat } else { r with text := t.take (zig u).toNat }, { s with rest := t.drop (zig u).toNat })
    | .eof => (r, { s with bad := 1 })
    | .odd => (r, { s with odd := true })
  else if 11 ≤ k ∧ k < 1011 then
    if (s.rest.length : Int) < k - 11 then (r, { s with bad := 1 }) else ({ r with bytes := s.rest.take (k - 11).toNat }, { s with rest := s.rest.drop (k - 11).toNat })
  else (r, { s with odd := true })

/-- A register is handed on. -/
def st (k : Int) (tgt : Int) (r : Regs) (s : St) : St :=
  if k = 2 then s.note nmSetBoolean tgt (if r.truth then 1 else 0) ⟨#[]⟩
  else if k = 3 then s.note nmSetInt tgt r.num ⟨#[]⟩
  else if k = 4 then s.note nmSetLong tgt r.long ⟨#[]⟩
  else if k = 5 then s.note nmSetFloat tgt (asLong112 r.float) ⟨#[]⟩
  else if k = 6 then s.note nmSetDouble tgt (asLong111 r.double) ⟨#[]⟩
  else if k = 7 then s.note nmSetBytes tgt 0 (strOf r.bytes)
  else if k = 8 then s.note nmSetString tgt 0 (strOf r.text)
  else s

def St.jump (s : St) (x : Int) : St := { s with pc := x, odd := s.odd || decide (x < 0) }

/-- An operation that neither enters nor leaves. -/
def simple (mx : Nat) (op : Nat) (x : Int) (tgt : Int) (r : Regs) (s : St) : Regs × St :=
  match op with
  | 0 => rd mx x r s
  | 1 => (r, st x tgt r s)
  | 7 => (r, s.note nmSetDefault tgt x ⟨#[]⟩)
  | 11 => (r, s.jump x)
  | 12 => ({ r with cond := r.long == x }, s)
  | 13 => ({ r with cond := decide (x < r.long) }, s)
  | 14 => (r, if r.cond then s.jump x else s)
  | 15 => ({ r with long := x }, s)
  | 16 => ({ r with long := wrap64 (r.long + x) }, s)
  | 17 => ({ r with long := wrap64 (r.long * x) }, s)
  | 18 => ({ r with num := x }, s)
  | 21 => (r, s.note nmNullField tgt x ⟨#[]⟩)
  | 22 => (r, s.note nmHintSize tgt r.long ⟨#[]⟩)
  | _ => (r, { s with bad := 2 })

/-- The instruction that is next. -/
def fetch (ins : List (Nat × Int)) (pc : Int) : Option (Nat × Int) := if 0 ≤ pc then ins[pc.toNat]? else none

/-- A step is counted. -/
def St.tick (s : St) : St := { s with left := s.left - 1, pc := s.pc + 1 }

/-- A further target, by a call that is noted. -/
def St.enter (s : St) (name : ByteArray) (tgt n : Int) (text : ByteArray) : St := { s.note name tgt n text with tg := s.tg + 1 }

/-- What is noted where a level is left by Exit. -/
def St.leave (s : St) (tgt outer field : Int) (null kind : Bool) : St :=
  let s1 := s.note nmFinalize tgt 0 ⟨#[]⟩
  if null then { s1.note nmNullField outer field ⟨#[]⟩ with viol := s.viol || !kind } else s1

/-- One level, until it is left; kind: it was entered by a field. -/
def lev (mx : Nat) (ins : List (Nat × Int)) : Nat → Regs → Int → Int → Int → Bool → Bool → St → St
  | 0, _, _, _, _, _, _, s => { s with left := 0 }
  | f + 1, r, tgt, outer, field, null, kind, s =>
    if s.bad = 0 ∧ s.odd = false then
      match fetch ins s.pc with
      | none => s
      | some (op, x) =>
        if s.left ≤ 1 then { s with left := 0 }
        else
          match op with
          | 2 => lev mx ins f r tgt outer field null kind (lev mx ins f regs0 (s.tg + 1) tgt x false true (s.tick.enter nmGet tgt x ⟨#[]⟩))
          | 3 => s.tick.leave tgt outer field null kind
          | 4 => lev mx ins f r tgt outer field true kind s.tick
          | 5 => lev mx ins f r tgt outer field null kind (lev mx ins f regs0 (s.tg + 1) tgt (-1) false true (s.tick.enter nmAppendArray tgt 0 ⟨#[]⟩))
          | 6 => lev mx ins f r tgt outer field null kind (lev mx ins f regs0 (s.tg + 1) tgt (-1) false true (s.tick.enter nmAppendMap tgt 0 (strOf r.text)))
          | 8 => lev mx ins f r tgt outer field null kind { lev mx ins f regs0 tgt outer field false false { s.tick with pc := x } with pc := s.pc + 1 }
          | 9 => s.tick
          | 10 => { s.tick with bad := if 0 < x then x.toNat + 2 else 0 }
          | 19 => lev mx ins f r tgt outer field null kind (lev mx ins f regs0 tgt outer field false false s.tick)
          | 20 => s.tick
          | op => lev mx ins f (simple mx op x tgt r s.tick).1 tgt outer field null kind (simple mx op x tgt r s.tick).2
    else s
end Go.Proofs.YtkhicabfmkldpaaDoor
