/-
  The arguments of this seat's laws, opened.
-/
import Derived.Test.Qxb6604152aGate
import Derived.Deep.Slices
import Derived.ChangeOld
namespace Go.Proofs.Qxb6604152a.Ids
open Go.ChangeShapes Go.WideShapes Go.ChangeAt Go.RowKit
open Go.Proofs.Qxb6604152a.Num

theorem cells24 : Try.prog.cellsOf 24 = 17 := by kernel_rfl
theorem cells22 : Try.prog.cellsOf 22 = 16 := by kernel_rfl
theorem cells9 : Try.prog.cellsOf 9 = 1 := by kernel_rfl
theorem cells5 : Try.prog.cellsOf 5 = 1 := by kernel_rfl

section
variable {H : Type} {enc : TypeId × Value → H} {w : World} {base : Nat} {spare : Nat → Bool} {held : Bool}
theorem open_peer {fuel : Nat} {cs : List Value} {x : DataW H × List MemPlace} (h : DataW.trod enc Try.prog w base spare held fuel 24 cs = some x) : ∃ (g : Nat → Int) (s : ByteArray), cs = peerL g s ∧ Byt g := by
  obtain ⟨y0, y1, n, _, hl, h0, h1⟩ := trod_struct2 Try.underlying24 h
  rw [cells24] at hl
  have h0' : DataW.trod enc Try.prog w base spare held n 22 ((cs.drop 0).take 16) = some y0 := h0
  have h1' : DataW.trod enc Try.prog w base spare held n 9 ((cs.drop 16).take 1) = some y1 := h1
  obtain ⟨xs, m, _, _, _, hxl, hx⟩ := DataW.trod_array Try.underlying22 h0'
  obtain ⟨s, hs, _, _⟩ := DataW.trod_string Try.underlying9 h1'
  have key : ∀ i, i < 16 → ∃ z : Int, cs[i]? = some (.int .u8 z) ∧ 0 ≤ z ∧ z ≤ 255 := by
    intro i hi
    have := hx i hi
    rw [List.getElem?_eq_getElem (show i < xs.length by omega), cells5, Nat.mul_one] at this
    obtain ⟨z, hz, _, hwf⟩ := DataW.trod_int Try.underlying5 this
    have hb := bounds_u8 hwf
    refine ⟨z, ?_, by omega, by omega⟩
    have e : ((((cs.drop 0).take 16).drop i).take 1)[0]? = some (.int .u8 z) := by rw [hz]; rfl
    rw [List.getElem?_take, if_pos (by omega), List.getElem?_drop, List.getElem?_take, if_pos (by omega), List.getElem?_drop] at e
    simpa using e
  have hs16 : cs[16]? = some (.string s) := by
    have e : ((cs.drop 16).take 1)[0]? = some (.string s) := by rw [hs]; rfl
    rw [List.getElem?_take, if_pos (by omega), List.getElem?_drop] at e
    simpa using e
  obtain ⟨g, hg⟩ : ∃ g : Nat → Int, ∀ i, i < 16 → cs[i]? = some (.int .u8 (g i)) ∧ 0 ≤ g i ∧ g i ≤ 255 :=
    Deep.choose_lt (α := Int) (p := fun i z => cs[i]? = some (.int .u8 z) ∧ 0 ≤ z ∧ z ≤ 255) key
  refine ⟨g, s, ?_, fun i hi => (hg i hi).2⟩
  apply List.ext_getElem?
  intro i
  by_cases h16 : i < 16
  · rw [(hg i h16).1]
    unfold peerL
    rw [List.getElem?_append_left (by rw [idL_len]; exact h16), idL_get g i h16]
  · by_cases e16 : i = 16
    · subst e16; rw [hs16, peerL_str]
    · rw [List.getElem?_eq_none (by omega), List.getElem?_eq_none (by rw [peerL_len]; omega)]

theorem open_self {v : Value} {d : DataW H} {p : List MemPlace} {r : Reach} {b0 : Nat} (hv : Value.okWide Try.prog w r b0 24 v) (h : DataW.Trod enc Try.prog w base spare held 24 v d p) : ∃ (g : Nat → Int) (s : ByteArray), v = .agg (peerOf g s) ∧ Byt g := by
  obtain ⟨cs, rfl, _⟩ := okWide_struct Try.underlying24 hv
  obtain ⟨fuel, hf⟩ := h
  obtain ⟨g, s, e, hb⟩ := open_peer hf
  refine ⟨g, s, ?_, hb⟩
  have e2 : cs.toList = peerL g s := e
  unfold peerOf
  rw [← e2]

theorem open_peers {a : Option Addr} {len cap : Nat} {d : DataW H} {p : List MemPlace} (h : DataW.Trod enc Try.prog w 0 (fun _ => true) true 25 (.slice a len cap) d p) : ∃ (G : Nat → Nat → Int) (S : Nat → ByteArray), PView w a len G S := by
  obtain ⟨fuel, hf⟩ := h
  have hf' : DataW.trod enc Try.prog w 0 (fun _ => true) true fuel 25 [.slice a len cap] = some (d, p) := by simpa [Value.cells] using hf
  rcases Deep.open_slice Try.underlying25 hf' with ⟨hcs, _⟩ | ⟨x, l, c, m, n, D, Pl, hcs, _, hl, _, hm, _, hx⟩
  · simp at hcs
    obtain ⟨_, rfl, _⟩ := hcs
    exact ⟨fun _ _ => 0, fun _ => ByteArray.empty, fun h => by omega⟩
  · simp at hcs
    obtain ⟨rfl, rfl, rfl⟩ := hcs
    simp only [if_true] at hm
    subst hm
    rw [cells24] at hx
    have key : ∀ i, i < m → ∃ gs : (Nat → Int) × ByteArray, (w.cells? 0 (x.add (i * 17)) 17 = some (peerL gs.1 gs.2)) ∧ Byt gs.1 := by
      intro i hi
      obtain ⟨cs', h1, h2⟩ := hx i hi
      obtain ⟨g, s, rfl, hb⟩ := open_peer h2
      exact ⟨(g, s), h1, hb⟩
    obtain ⟨F, hF⟩ := Deep.choose_lt (α := (Nat → Int) × ByteArray) (p := fun i gs => (w.cells? 0 (x.add (i * 17)) 17 = some (peerL gs.1 gs.2)) ∧ Byt gs.1) key
    refine ⟨fun i => (F i).1, fun i => (F i).2, fun hlen => ?_⟩
    obtain ⟨b, off, spot⟩ := x
    have cellOf : ∀ i, i < m → ∀ j, j < 17 → w.cell? (((⟨b, off, spot⟩ : Addr).add (i * 17)).add j) = (peerL (F i).1 (F i).2)[j]? := fun i hi j hj => (World.cells?_some (hF i hi).1).2.2 j hj
    have c0 := cellOf 0 (by omega) 16 (by omega)
    rw [peerL_str] at c0
    have hspot : spot = none := by
      have c00 := cellOf 0 (by omega) 0 (by omega)
      have : (peerL (F 0).1 (F 0).2)[0]? = some (.int .u8 ((F 0).1 0)) := by
        unfold peerL
        rw [List.getElem?_append_left (by rw [idL_len]; omega), idL_get _ 0 (by omega)]
      rw [this] at c00
      simpa [Addr.add] using World.cell?_spot c00
    subst hspot
    refine ⟨b, off, rfl, World.block_lt_of_cell? w _ c0, fun k hk j v hv => ?_, fun k hk => (hF k (by omega)).2⟩
    have hj : j < 17 := by have := (List.getElem?_eq_some_iff.1 hv).1; rw [peerL_len] at this; exact this
    have := cellOf k (by omega) j hj
    rw [Addr.add_mid, Addr.add_mid] at this
    rw [this]; exact hv
end
end Go.Proofs.Qxb6604152a.Ids
