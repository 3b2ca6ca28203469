/-
  impl.fault: what is told of an error.
-/
import Derived.Test.YtkhicabfmkldpaaDoorRun0
import Derived.LaidEql
set_option linter.unusedSimpArgs false
set_option linter.unusedVariables false
namespace Go.Proofs.YtkhicabfmkldpaaDoor
open Go Go.RowKit

theorem fault_nil (w : World) : Calls Tryd.prog 29 #[.nilIface] w fun e w' => e = .returned (.string ⟨#[]⟩) ∧ w' = w := by
  go_enter Tryd.func29, Tryd.ntmps29
  go_wp2
  go_ret
  exact ⟨rfl, rfl⟩

theorem size185 : ((Tryd.prog.info? (Tryd.prog.pointee 185)).getD Tryd.t185).size = 1 := by kernel_rfl

theorem eql_other (a b : Addr) (ca cb : Array Value) (ta tb : TypeId) (w : World) (hne : a ≠ b) (ha : w.heap[a.block]? = some (.cells ca ta (0, 0))) (hb : w.heap[b.block]? = some (.cells cb tb (0, 0))) :
    (binOp .eql 82 (.iface 185 (.pointer (some a))) (.iface 185 (.pointer (some b)))).run Tryd.prog w = .ok (.bool false) w :=
  run_eql_iface_ptr_other (ti := 82) (tp := 185) (te := Tryd.prog.pointee 185) (ms := Tryd.prog.methodsAt 82) (i := Tryd.t185) (j := (Tryd.prog.info? (Tryd.prog.pointee 185)).getD Tryd.t185) w (by kernel_rfl) (by kernel_rfl) (by kernel_rfl) (by kernel_rfl) (by kernel_rfl) (by rw [size185]; decide) hne ha hb

theorem fault_e0 (B : Nat) (e0 e1 : Addr) (w : World) (he : Eofs w B e0 e1) : Calls Tryd.prog 29 #[.iface 185 (.pointer (some e0))] w fun e w' => e = .returned (.string ⟨#[101, 111, 102]⟩) ∧ ∃ k, w' = w.drewN k := by
  have g0 := he.1
  have g1 := he.2.1
  have hq := eof_same e0
  clear he
  go_enter Tryd.func29, Tryd.ntmps29
  go_wp2
  go_ret
  exact ⟨rfl, 0, rfl⟩
theorem fault_e1 (B : Nat) (e0 e1 : Addr) (ca cb : Array Value) (ta tb : TypeId) (w : World) (he : Eofs w B e0 e1) (hne : e1 ≠ e0) (ha : w.heap[e1.block]? = some (.cells ca ta (0, 0))) (hb : w.heap[e0.block]? = some (.cells cb tb (0, 0))) :
    Calls Tryd.prog 29 #[.iface 185 (.pointer (some e1))] w fun e w' => e = .returned (.string ⟨#[101, 111, 102]⟩) ∧ ∃ k, w' = w.drewN k := by
  have g0 := he.1
  have g1 := he.2.1
  have hq := eof_same e1
  have hq2 := eql_other e1 e0 ca cb ta tb w hne ha hb
  clear he
  go_enter Tryd.func29, Tryd.ntmps29
  go_wp2
  go_ret
  exact ⟨rfl, 0, rfl⟩

/-- A slice of calls reads as a list of notes. -/
def CallsAt (w : World) (v : Value) (l : List Note) : Prop :=
  (v = .slice none 0 0 ∧ l = []) ∨ ∃ b off cap, v = .slice (some ⟨b, off, none⟩) l.length cap ∧ l.length ≤ cap ∧ cap ≤ maxLen ∧ ∀ (i : Nat) (n : Note), l[i]? = some n → w.cell? ⟨b, off + i * 4, none⟩ = some (.string n.name) ∧ w.cell? ⟨b, off + i * 4 + 1, none⟩ = some (.int .i64 n.n) ∧ w.cell? ⟨b, off + i * 4 + 2, none⟩ = some (.string n.s) ∧ w.cell? ⟨b, off + i * 4 + 3, none⟩ = some (.int .i64 n.tg)

theorem flat_get : ∀ (l : List Note) (i : Nat) (n : Note), l[i]? = some n → ∀ j, j < 4 → (l.flatMap Note.cells)[i * 4 + j]? = n.cells[j]?
  | [], i, n, h, j, hj => by simp at h
  | m :: r, 0, n, h, j, hj => by
    simp at h
    subst h
    rw [List.flatMap_cons, List.getElem?_append_left (by simp [Note.cells]; omega)]
    congr 1
    omega
  | m :: r, i + 1, n, h, j, hj => by
    rw [List.flatMap_cons, List.getElem?_append_right (by simp [Note.cells]; omega)]
    rw [show (i + 1) * 4 + j - m.cells.length = i * 4 + j by simp [Note.cells]; omega]
    exact flat_get r i n (by simpa using h) j hj

theorem callsAt_of_own {w : World} {B : Nat} {v : Value} {l : List Note} (h : w.ownsRow B 47 4 v l.length (l.flatMap Note.cells)) : CallsAt w v l := by
  rcases h.2 with ⟨rfl, h0⟩ | ⟨g, cap, cur, rfl, hb, hg, hle, hmx, hsz, ht⟩
  · exact .inl ⟨rfl, List.length_eq_zero_iff.1 h0⟩
  · refine .inr ⟨g, 0, cap, rfl, hle, hmx, fun i n hi => ?_⟩
    have hil := (List.getElem?_eq_some_iff.1 hi).1
    have key : ∀ j, j < 4 → w.cell? ⟨g, 0 + i * 4 + j, none⟩ = n.cells[j]? := by
      intro j hj
      have h1 := flat_get l i n hi j hj
      rw [← ht, List.getElem?_take_of_lt (by omega)] at h1
      rw [Nat.zero_add, ← h1]
      have hlt : i * 4 + j < cur.size := by rw [hsz]; omega
      have hb' : blk w g cur 47 := hg
      rw [hb'.cell (i * 4 + j) (v := cur[i * 4 + j]) (by simp [hlt])]
      simp [hlt]
    exact ⟨key 0 (by omega), key 1 (by omega), key 2 (by omega), key 3 (by omega)⟩

theorem CallsAt.chg {w w' : World} {S : Nat → Prop} {v : Value} {l : List Note} (h : CallsAt w v l) (hc : Chg S w w') (hS : ∀ g, v.ownBlock = some g → ¬ S g) : CallsAt w' v l := by
  rcases h with h | ⟨b, off, cap, rfl, h1, h2, h3⟩
  · exact .inl h
  · refine .inr ⟨b, off, cap, rfl, h1, h2, fun i n hi => ?_⟩
    have h4 := h3 i n hi
    have hb := hc.block b (World.block_lt_of_cell? w _ h4.1) (hS b rfl)
    rw [cell_of hb, cell_of hb, cell_of hb, cell_of hb]
    exact h4
end Go.Proofs.YtkhicabfmkldpaaDoor
