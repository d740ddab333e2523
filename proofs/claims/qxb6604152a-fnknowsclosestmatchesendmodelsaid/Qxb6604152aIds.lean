/-
  Ids of 16 bytes, peers of 17 cells: how they lie in memory, how they are read and laid.
-/
import Derived.Test.Qxb6604152aRows
import Derived.Test.Qxb6604152aNum
import Derived.WalkKit
import Derived.ProofKit
import Derived.OpenShut
import Derived.Below
import Derived.OneCell
import Derived.Laws.Rows
import Derived.Deep.OwnRows
import Derived.Deep.WholeRow
import Derived.Deep.MidRow
import Derived.WalkSpells
import Derived.RegionTactic
import Derived.Deep.QuietTactic
import Derived.BigQuiet
import Derived.StillTailTactics
import Derived.Deep.RegionHeld
namespace Go.Proofs.Qxb6604152a.Ids
open Go.RowKit

theorem hid {p : Prop} (h : p) : Hid p := h
theorem bthen {a b c : World} (h : Below a.heap.size a b) (k : Below b.heap.size b c) : Below a.heap.size a c := h.trans (k.mono h.size)

/-! ### values -/
def idL (g : Nat → Int) : List Value := (List.range 16).map (fun i => Value.int .u8 (g i))
def idOf (g : Nat → Int) : Array Value := (idL g).toArray
def peerL (g : Nat → Int) (s : ByteArray) : List Value := idL g ++ [.string s]
def peerOf (g : Nat → Int) (s : ByteArray) : Array Value := (peerL g s).toArray

theorem idL_len (g : Nat → Int) : (idL g).length = 16 := by simp [idL]
theorem peerL_len (g : Nat → Int) (s : ByteArray) : (peerL g s).length = 17 := by simp [peerL, idL]
theorem idL_get (g : Nat → Int) (i : Nat) (h : i < 16) : (idL g)[i]? = some (.int .u8 (g i)) := by simp [idL, h]
theorem idOf_get (g : Nat → Int) (i : Nat) (h : i < 16) : (idOf g)[i]? = some (.int .u8 (g i)) := by simp [idOf, idL, h]
theorem idOf_size (g : Nat → Int) : (idOf g).size = 16 := by simp [idOf, idL]
theorem peerOf_size (g : Nat → Int) (s : ByteArray) : (peerOf g s).size = 17 := by simp [peerOf, peerL, idL]
theorem idOf_one (g : Nat → Int) : (idOf g).all (·.oneCell') = true := by
  unfold idOf; apply all_oneCell_toArray; intro v hv
  simp [idL] at hv; obtain ⟨i, _, rfl⟩ := hv; rfl
theorem peerOf_one (g : Nat → Int) (s : ByteArray) : (peerOf g s).all (·.oneCell') = true := by
  unfold peerOf; apply all_oneCell_toArray; intro v hv
  simp [peerL, idL] at hv
  rcases hv with ⟨i, _, rfl⟩ | rfl <;> rfl
theorem idL_congr {g h : Nat → Int} (e : ∀ i, i < 16 → g i = h i) : idL g = idL h := by
  unfold idL
  apply List.map_congr_left
  intro i hi
  rw [e i (by simpa using hi)]

/-! ### this program's types -/
theorem info22 : (Try.prog.info? 22).map (·.size) = some 16 := by kernel_rfl
theorem info32 : (Try.prog.info? 32).map (·.size) = some 16 := by kernel_rfl
theorem info24 : (Try.prog.info? 24).map (·.size) = some 17 := by kernel_rfl
theorem info34 : (Try.prog.info? 34).map (·.size) = some 17 := by kernel_rfl

/-! ### loads and stores of many cells -/
theorem ld22 {w : World} {b o : Nat} {g : Nat → Int} (h : w.rangeAt b o (idL g)) : (Instr.loadAt 22 (.pointer (some ⟨b, o, none⟩))).run Try.prog w = .ok (.agg (idOf g)) w :=
  run_loadAt_mid w b o 22 (idL g) _ h Try.underlying22 rfl (by rw [idL_len]; exact info22)
theorem ld32 {w : World} {b o : Nat} {g : Nat → Int} (h : w.rangeAt b o (idL g)) : (Instr.loadAt 32 (.pointer (some ⟨b, o, none⟩))).run Try.prog w = .ok (.agg (idOf g)) w :=
  run_loadAt_mid w b o 32 (idL g) _ h Try.underlying32 rfl (by rw [idL_len]; exact info32)
theorem ld24 {w : World} {b o : Nat} {g : Nat → Int} {s : ByteArray} (h : w.rangeAt b o (peerL g s)) : (Instr.loadAt 24 (.pointer (some ⟨b, o, none⟩))).run Try.prog w = .ok (.agg (peerOf g s)) w :=
  run_loadAt_mid w b o 24 (peerL g s) _ h Try.underlying24 rfl (by rw [peerL_len]; exact info24)
theorem ld34 {w : World} {b o : Nat} {g : Nat → Int} {s : ByteArray} (h : w.rangeAt b o (peerL g s)) : (Instr.loadAt 34 (.pointer (some ⟨b, o, none⟩))).run Try.prog w = .ok (.agg (peerOf g s)) w :=
  run_loadAt_mid w b o 34 (peerL g s) _ h Try.underlying34 rfl (by rw [peerL_len]; exact info34)

section
variable {P : Program} {ops : Array Oper} {rest : List Oper} {o : Oper} {a : Act} {w : World} {Q : Exit → Act → World → Prop}
/-- A load, in a plain region, by a fact on its run. -/
theorem wl_load (hgd : o.guard = none) (ty : TypeId) (x : Operand) (ho : o.op = .load ty x) {p : Value} (hx : a.eval x = p) {v : Value}
    (hl : (Instr.loadAt ty p).run P w = .ok v w) (h : wpList P ops Q rest (a.put o.dst v) w) : wpList P ops Q (o :: rest) a w :=
  wpList_plain hgd fun _ hK => by
    unfold Oper.wp execOp
    simp only [ho, hx, Sem.run_bind, hl, Sem.run_pure, Result.andThen_ok]
    exact hK _ _ h
/-- A store, in a plain region, by a fact on its run. -/
theorem wl_store (hgd : o.guard = none) (ty : TypeId) (x y : Operand) (ho : o.op = .store ty x y) {p v : Value} (hx : a.eval x = p) (hy : a.eval y = v) {w2 : World}
    (hl : (Instr.storeAt ty p v).run P w = .ok () w2) (h : wpList P ops Q rest (a.put o.dst undef) w2) : wpList P ops Q (o :: rest) a w :=
  wpList_plain hgd fun _ hK => by
    unfold Oper.wp execOp
    simp only [ho, hx, hy, Sem.run_bind, hl, Sem.run_pure, Result.andThen_ok]
    exact hK _ _ h
end

/-! ### regions that draw, whose operations read and whose callees leave what was there -/
def CW (B : Nat) (w : World) : Type := { w' : World // Below B w w' }
theorem cw_some (B : Nat) (w : World) : Nonempty (CW B w) := ⟨⟨w, Below.refl _ _⟩⟩
theorem region_cw {P : Program} {id : Nat} {Q : Exit → Act → World → Prop} {a : Act} {w : World} {l : List Oper} (B : Nat) (hm : P.follows .mixedOrders = true) (hB : Region.lexB .any l.toArray = true)
    (h : wpQuiet P l.toArray (fun w' => ∃ x : CW B w, w' = x.val) (fun a' => ∀ w', (∃ x : CW B w, w' = x.val) → Q .normal a' w') l a) : (Code.region id l.toArray true).wp P Q a w :=
  wp_region_quiet (C := fun w' => ∃ x : CW B w, w' = x.val) hm hB ⟨⟨w.drew, (Below.refl _ _).drew⟩, rfl⟩ (by simpa using h)
theorem quiet_ld {P : Program} {C : World → Prop} {K : Act → Prop} {o : Oper} {a : Act} (ty : TypeId) (x : Operand) (ho : o.op = .load ty x) {p : Value} (hx : a.eval x = p) {v : Value}
    (hl : ∀ w, C w → (Instr.loadAt ty p).run P w = .ok v w) (hk : K (a.put o.dst v)) : o.quiet P a C K :=
  ⟨v, fun w hw => by
    unfold Oper.quietAt execOp
    simp only [ho, hx, Sem.run_bind, hl w hw, Sem.run_pure, Result.andThen_ok]
    exact ⟨rfl, rfl⟩, hk⟩
end Go.Proofs.Qxb6604152a.Ids
