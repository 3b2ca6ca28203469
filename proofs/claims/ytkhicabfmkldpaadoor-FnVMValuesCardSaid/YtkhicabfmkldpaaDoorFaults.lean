/-
  impl.fault: what is told of an error.
  fault of a halted run: its text.
-/
import Derived.Test.YtkhicabfmkldpaaDoorRun0
import Derived.LaidEql
import Derived.Stop.Asserts
set_option linter.unusedSimpArgs false
set_option linter.unusedVariables false
namespace Go.Proofs.YtkhicabfmkldpaaDoor
open Go Go.RowKit

theorem fault_nil (w : World) : Calls Tryd.prog 29 #[.nilIface] w fun e w' => e = .returned (.string ⟨#[]⟩) ∧ w' = w := by
  go_enter Tryd.func29, Tryd.ntmps29
  go_wp2
  go_ret
  exact ⟨rfl, rfl⟩

theorem size185 : ((Tryd.prog.info? (Tryd.prog.pointee 185)).getD Tryd.t185).size = 1 := by kernel_rfl

theorem eql_other (a b : Addr) (ca cb : Array Value) (ta tb : TypeId) (w : World) (hne : a ≠ b) (ha : w.heap[a.block]? = some (.cells ca ta (0, 0))) (hb : w.heap[b.block]? = some (.cells cb tb (0, 0))) :
    (binOp .eql 82 (.iface 185 (.pointer (some a))) (.iface 185 (.pointer (some b)))).run Tryd.prog w = .ok (.bool false) w :=
  run_eql_iface_ptr_other (ti := 82) (tp := 185) (te := Tryd.prog.pointee 185) (ms := Tryd.prog.methodsAt 82) (i := Tryd.t185) (j := (Tryd.prog.info? (Tryd.prog.pointee 185)).getD Tryd.t185) w (by kernel_rfl) (by kernel_rfl) (by kernel_rfl) (by kernel_rfl) (by kernel_rfl) (by rw [size185]; decide) hne ha hb

theorem fault_e0 (B : Nat) (e0 e1 : Addr) (w : World) (he : Eofs w B e0 e1) : Calls Tryd.prog 29 #[.iface 185 (.pointer (some e0))] w fun e w' => e = .returned (.string ⟨#[101, 111, 102]⟩) ∧ ∃ k, w' = w.drewN k := by
  have g0 := he.1
  have g1 := he.2.1
  have hq := eof_same e0
  clear he
  go_enter Tryd.func29, Tryd.ntmps29
  go_wp2
  go_ret
  exact ⟨rfl, 0, rfl⟩
theorem fault_e1 (B : Nat) (e0 e1 : Addr) (ca cb : Array Value) (ta tb : TypeId) (w : World) (he : Eofs w B e0 e1) (hne : e1 ≠ e0) (ha : w.heap[e1.block]? = some (.cells ca ta (0, 0))) (hb : w.heap[e0.block]? = some (.cells cb tb (0, 0))) :
    Calls Tryd.prog 29 #[.iface 185 (.pointer (some e1))] w fun e w' => e = .returned (.string ⟨#[101, 111, 102]⟩) ∧ ∃ k, w' = w.drewN k := by
  have g0 := he.1
  have g1 := he.2.1
  have hq := eof_same e1
  have hq2 := eql_other e1 e0 ca cb ta tb w hne ha hb
  clear he
  go_enter Tryd.func29, Tryd.ntmps29
  go_wp2
  go_ret
  exact ⟨rfl, 0, rfl⟩

/-- A slice of calls reads as a list of notes. -/
def CallsAt (w : World) (v : Value) (l : List Note) : Prop :=
  (v = .slice none 0 0 ∧ l = []) ∨ ∃ b off cap, v = .slice (some ⟨b, off, none⟩) l.length cap ∧ l.length ≤ cap ∧ cap ≤ maxLen ∧ ∀ (i : Nat) (n : Note), l[i]? = some n → w.cell? ⟨b, off + i * 4, none⟩ = some (.string n.name) ∧ w.cell? ⟨b, off + i * 4 + 1, none⟩ = some (.int .i64 n.n) ∧ w.cell? ⟨b, off + i * 4 + 2, none⟩ = some (.string n.s) ∧ w.cell? ⟨b, off + i * 4 + 3, none⟩ = some (.int .i64 n.tg)

theorem flat_get : ∀ (l : List Note) (i : Nat) (n : Note), l[i]? = some n → ∀ j, j < 4 → (l.flatMap Note.cells)[i * 4 + j]? = n.cells[j]?
  | [], i, n, h, j, hj => by simp at h
  | m :: r, 0, n, h, j, hj => by
    simp at h
    subst h
    rw [List.flatMap_cons, List.getElem?_append_left (by simp [Note.cells]; omega)]
    congr 1
    omega
  | m :: r, i + 1, n, h, j, hj => by
    rw [List.flatMap_cons, List.getElem?_append_right (by simp [Note.cells]; omega)]
    rw [show (i + 1) * 4 + j - m.cells.length = i * 4 + j by simp [Note.cells]; omega]
    exact flat_get r i n (by simpa using h) j hj

theorem callsAt_of_own {w : World} {B : Nat} {v : Value} {l : List Note} (h : w.ownsRow B 47 4 v l.length (l.flatMap Note.cells)) : CallsAt w v l := by
  rcases h.2 with ⟨rfl, h0⟩ | ⟨g, cap, cur, rfl, hb, hg, hle, hmx, hsz, ht⟩
  · exact .inl ⟨rfl, List.length_eq_zero_iff.1 h0⟩
  · refine .inr ⟨g, 0, cap, rfl, hle, hmx, fun i n hi => ?_⟩
    have hil := (List.getElem?_eq_some_iff.1 hi).1
    have key : ∀ j, j < 4 → w.cell? ⟨g, 0 + i * 4 + j, none⟩ = n.cells[j]? := by
      intro j hj
      have h1 := flat_get l i n hi j hj
      rw [← ht, List.getElem?_take_of_lt (by omega)] at h1
      rw [Nat.zero_add, ← h1]
      have hlt : i * 4 + j < cur.size := by rw [hsz]; omega
      have hb' : blk w g cur 47 := hg
      rw [hb'.cell (i * 4 + j) (v := cur[i * 4 + j]) (by simp [hlt])]
      simp [hlt]
    exact ⟨key 0 (by omega), key 1 (by omega), key 2 (by omega), key 3 (by omega)⟩

theorem CallsAt.chg {w w' : World} {S : Nat → Prop} {v : Value} {l : List Note} (h : CallsAt w v l) (hc : Chg S w w') (hS : ∀ g, v.ownBlock = some g → ¬ S g) : CallsAt w' v l := by
  rcases h with h | ⟨b, off, cap, rfl, h1, h2, h3⟩
  · exact .inl h
  · refine .inr ⟨b, off, cap, rfl, h1, h2, fun i n hi => ?_⟩
    have h4 := h3 i n hi
    have hb := hc.block b (World.block_lt_of_cell? w _ h4.1) (hS b rfl)
    rw [cell_of hb, cell_of hb, cell_of hb, cell_of hb]
    exact h4
end Go.Proofs.YtkhicabfmkldpaaDoor

namespace Go.Proofs.YtkhicabfmkldpaaDoor
open Go Go.RowKit

theorem said_error (b : Nat) (s : ByteArray) (w : World) (hb : blk w b #[.string s] 131) : Calls Tryd.prog 114 #[.pointer (some ⟨b, 0, none⟩)] w fun e w' => e = .returned (.string s) ∧ w' = w := by
  have c0 : w.cell? ⟨b, 0, none⟩ = some (.string s) := hb.cell 0 rfl
  clear hb
  go_enter Tryd.func114, Tryd.ntmps114
  go_wp2
  go_ret
  exact ⟨rfl, rfl⟩

set_option maxRecDepth 100000 in
theorem prefix65 (s p : ByteArray) (h1 : p.size ≤ s.size) (h2 : s.extract 0 p.size = p) (h3 : s.size ≤ 2000000) (w : World) : Calls Tryd.prog 65 #[.string s, .string p] w fun e w' => e = .returned (.bool true) ∧ w' = w := by
  have h4 : (p.size : Int) ≤ s.size := by omega
  go_enter Tryd.func65, Tryd.ntmps65
  go_wp2
  go_ret
  exact ⟨rfl, rfl⟩

set_option maxRecDepth 100000 in
theorem prefix45 (s p : ByteArray) (h1 : p.size ≤ s.size) (h2 : s.extract 0 p.size = p) (h3 : s.size ≤ 2000000) (w : World) : Calls Tryd.prog 45 #[.string s, .string p] w fun e w' => e = .returned (.bool true) ∧ w' = w := by
  go_enter Tryd.func45, Tryd.ntmps45
  go_wp2_with (go_at_call 65; refine (prefix65 s p h1 h2 h3 _).mono ?_; rintro e w' ⟨rfl, rfl⟩)
  go_ret
  exact ⟨rfl, rfl⟩

set_option maxRecDepth 100000 in
theorem trim66 (s p : ByteArray) (h1 : p.size ≤ s.size) (h2 : s.extract 0 p.size = p) (h3 : s.size ≤ 2000000) (w : World) : Calls Tryd.prog 66 #[.string s, .string p] w fun e w' => e = .returned (.string (s.extract p.size s.size)) ∧ w' = w := by
  have h4 : (p.size : Int) ≤ s.size := by omega
  have H2 := hid h2
  clear h2
  go_enter Tryd.func66, Tryd.ntmps66
  go_wp2_with (go_at_call 65; refine (prefix65 s p h1 H2.out h3 _).mono ?_; rintro e w' ⟨rfl, rfl⟩)
  go_ret
  exact ⟨rfl, rfl⟩

set_option maxRecDepth 100000 in
theorem trim46 (s p : ByteArray) (h1 : p.size ≤ s.size) (h2 : s.extract 0 p.size = p) (h3 : s.size ≤ 2000000) (w : World) : Calls Tryd.prog 46 #[.string s, .string p] w fun e w' => e = .returned (.string (s.extract p.size s.size)) ∧ w' = w := by
  have H2 := hid h2
  clear h2
  go_enter Tryd.func46, Tryd.ntmps46
  go_wp2_with (go_at_call 66; refine (trim66 s p h1 H2.out h3 _).mono ?_; rintro e w' ⟨rfl, rfl⟩)
  go_ret
  exact ⟨rfl, rfl⟩

theorem bytes_append_left (p s : ByteArray) : (p ++ s).extract 0 p.size = p := by
  apply ByteArray.ext
  apply Array.ext'
  simp [ByteArray.data_extract, ByteArray.data_append, ← ByteArray.size_data]
theorem bytes_append_right (p s : ByteArray) : (p ++ s).extract p.size (p ++ s).size = s := by
  apply ByteArray.ext
  apply Array.ext'
  simp [ByteArray.data_extract, ByteArray.data_append, ← ByteArray.size_data]

set_option maxRecDepth 100000 in
theorem fault_text (B : Nat) (e0 e1 : Addr) (b : Nat) (s : ByteArray) (w : World) (he : Eofs w B e0 e1) (hb : blk w b #[.string (runErr ++ s)] 131) (hs : s.size ≤ 1000000) : Calls Tryd.prog 29 #[.iface 129 (.pointer (some ⟨b, 0, none⟩))] w fun e w' => e = .returned (.string s) ∧ w' = w := by
  have g0 := he.1
  have g1 := he.2.1
  have q0 : ∀ (x : Addr) (w : World), (binOp .eql 82 (.iface 129 (.pointer (some ⟨b, 0, none⟩))) (.iface 185 (.pointer (some x)))).run Tryd.prog w = .ok (.bool false) w := fun x w => run_eql_iface_types (ti := 82) (ms := Tryd.prog.methodsAt 82) 129 185 _ _ (by kernel_rfl) (by decide) w
  have hsz : (runErr ++ s).size = 15 + s.size := by rw [ByteArray.size_append]; rfl
  have h2 := bytes_append_left runErr s
  have h3 := bytes_append_right runErr s
  obtain ⟨t, ht⟩ : ∃ t, runErr ++ s = t := ⟨_, rfl⟩
  rw [ht] at hsz h2 h3 hb
  have Hb := hid hb
  have H2 := hid h2
  have H3 := hid h3
  have Hs := hid hsz
  clear he hb h2 h3 hsz ht
  go_enter Tryd.func29, Tryd.ntmps29
  go_wp2_with (first | (go_at_call 114; refine (said_error b t _ Hb.out).mono ?_; rintro e w' ⟨rfl, rfl⟩) | (go_at_call 45; refine (prefix45 t runErr (by have := Hs.out; show 15 ≤ t.size; omega) H2.out (by have := Hs.out; omega) _).mono ?_; rintro e w' ⟨rfl, rfl⟩) | (go_at_call 46; refine (trim46 t runErr (by have := Hs.out; show 15 ≤ t.size; omega) H2.out (by have := Hs.out; omega) _).mono ?_; rintro e w' ⟨rfl, rfl⟩))

  go_ret
  refine ⟨?_, rfl⟩
  conv => rhs; rw [← H3.out]
  rfl
end Go.Proofs.YtkhicabfmkldpaaDoor
