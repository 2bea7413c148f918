/-
  Seat b6630111a: what the two slices that came in lead to, opened to the bottom.
-/
import Derived.Test.Qxb6630111aSplit
import Derived.OpenShut
import Derived.ShutString
import Derived.ChangeOld
import Derived.Deep.SlicePairs
namespace Go.Proofs.Qxb6630111a
open Go.ChangeShapes Go.WideShapes Go.ChangeAt Go.RowKit

theorem Try.own : ownKnob Try.prog.godebug = none := by kernel_rfl
theorem Try.laidOut : laidOutB Try.prog = true := by kernel_rfl
theorem Try.cells9 : Try.prog.cellsOf 9 = 1 := by kernel_rfl
theorem Try.cells32 : Try.prog.cellsOf 32 = 1 := by kernel_rfl
theorem Try.cells43 : Try.prog.cellsOf 43 = 1 := by kernel_rfl
theorem Try.cells34 : Try.prog.cellsOf 34 = 4 := by kernel_rfl
theorem Try.cells45 : Try.prog.cellsOf 45 = 3 := by kernel_rfl
theorem Try.cells47 : Try.prog.cellsOf 47 = 2 := by kernel_rfl
theorem Try.cells49 : Try.prog.cellsOf 49 = 2 := by kernel_rfl

/-- an address behind which a cell lies bears no spot, and its block is there -/
theorem plain_addr {W : World} {a : Addr} {v : Value} (h : W.cell? (a.add 0) = some v) : ∃ b off, a = ⟨b, off, none⟩ ∧ b < W.heap.size := by
  obtain ⟨b, off, spot⟩ := a
  have hlt := World.block_lt_of_cell? W _ h
  have hspot : spot = none := by
    simpa [Addr.add] using World.cell?_spot h
  subst hspot
  rw [add_plain] at hlt
  exact ⟨b, off, rfl, hlt⟩

section
variable {H : Type} {enc : TypeId × Value → H} {W : World}

/-- a slice of structs of two strings -/
theorem open_two {t e : TypeId} {f0 f1 : Field} {fuel : Nat} {cs : List Value} {x : DataW H × List MemPlace} (ht : Try.prog.underlying t = some (.slice e)) (he : Try.prog.underlying e = some (.struct #[f0, f1]))
    (ce : Try.prog.cellsOf e = 2) (o0 : f0.offset = 0) (o1 : f1.offset = 1) (t0 : f0.type = 9) (t1 : f1.type = 9)
    (h : DataW.trod enc Try.prog W 0 (fun _ => true) true fuel t cs = some x) :
    ∃ a n c, cs = [.slice a n c] ∧ (a = none → n = 0) ∧ Pairs W 0 a n := by
  rcases Go.Deep.open_slice_pairs ht he ce o0 o1 (by rw [t0]; exact Try.cells9) (by rw [t1]; exact Try.cells9) h with ⟨hcs, _⟩ | ⟨a, l, c, m, n, V0, V1, D0, D1, P0, P1, hcs, _, hl, _, hm, _, hcell⟩
  · exact ⟨none, 0, 0, hcs, fun _ => rfl, .inl rfl⟩
  · refine ⟨some a, l, c, hcs, fun h => (by cases h), ?_⟩
    simp only [if_true] at hm
    subst hm
    by_cases h0 : l = 0
    · exact .inl h0
    · obtain ⟨b, off, rfl, hb⟩ := plain_addr (hcell 0 (by omega)).1
      refine .inr ⟨b, off, rfl, Nat.zero_le _, hb, fun j hj => ?_⟩
      obtain ⟨c0, c1, u0, u1⟩ := hcell j (by omega)
      rw [t0] at u0
      rw [t1] at u1
      obtain ⟨s, e0, _, _⟩ := DataW.trod_string Try.underlying9 u0
      obtain ⟨s', e1, _, _⟩ := DataW.trod_string Try.underlying9 u1
      simp at e0 e1
      rw [add_plain] at c0 c1
      exact ⟨s, s', by rw [c0, e0], by rw [← Nat.add_assoc] at c1; rw [c1, e1]⟩

/-- the groups -/
theorem open_groups {d : DataW H} {p : List MemPlace} {ao : Option Addr} {len cap : Nat}
    (h : DataW.Trod enc Try.prog W 0 (fun _ => true) true 23 (.slice ao len cap) d p) :
    ∃ (MA : Nat → Option Addr) (MN MC : Nat → Nat), (ao = none → len = 0) ∧ Groups W 0 ao len MA MN MC ∧ ∀ i, i < len → MA i = none → MN i = 0 := by
  obtain ⟨fuel, hf⟩ := h
  rcases Go.Deep.open_slice Try.underlying23 hf with ⟨hcs, _⟩ | ⟨a, l, c, m, n, D, Pl, hcs, _, hl, _, hm, _, hcell⟩
  · simp [Value.cells] at hcs
    obtain ⟨rfl, rfl, rfl⟩ := hcs
    exact ⟨fun _ => none, fun _ => 0, fun _ => 0, fun _ => rfl, .inl rfl, fun _ _ _ => rfl⟩
  · simp [Value.cells] at hcs
    obtain ⟨rfl, rfl, rfl⟩ := hcs
    simp only [if_true] at hm
    subst hm
    have key : ∀ i, i < len → ∃ q : ByteArray × ByteArray × ByteArray × Option Addr × Nat × Nat, W.cell? (a.add (i * 4)) = some (.string q.1) ∧ W.cell? (a.add (i * 4 + 1)) = some (.string q.2.1) ∧
        W.cell? (a.add (i * 4 + 2)) = some (.string q.2.2.1) ∧ W.cell? (a.add (i * 4 + 3)) = some (.slice q.2.2.2.1 q.2.2.2.2.1 q.2.2.2.2.2) ∧ (q.2.2.2.1 = none → q.2.2.2.2.1 = 0) ∧ Pairs W 0 q.2.2.2.1 q.2.2.2.2.1 := by
      intro i hi
      obtain ⟨cs', h1, h2⟩ := hcell i (by omega)
      rw [Try.cells34] at h1
      obtain ⟨_, hlen, hcl⟩ := World.cells?_some h1
      obtain ⟨xs, k, hk, _, _, hxl, hfl⟩ := DataW.trod_struct Try.underlying34 h2
      match xs, hxl, cs', hlen with
      | [y0, y1, y2, y3], _, [v0, v1, v2, v3], _ =>
        have g0 := hfl 0 _ rfl
        have g1 := hfl 1 _ rfl
        have g2 := hfl 2 _ rfl
        have g3 := hfl 3 _ rfl
        simp [Try.cells9, Try.cells32] at g0 g1 g2 g3
        obtain ⟨s0, e0, _, _⟩ := DataW.trod_string Try.underlying9 g0
        obtain ⟨s1, e1, _, _⟩ := DataW.trod_string Try.underlying9 g1
        obtain ⟨s2, e2, _, _⟩ := DataW.trod_string Try.underlying9 g2
        obtain ⟨ma, mn, mc, e3, hz, hP⟩ := open_two Try.underlying32 Try.underlying49 Try.cells49 rfl rfl rfl rfl g3
        simp at e0 e1 e2 e3
        have c0 := hcl 0 (by omega)
        have c1 := hcl 1 (by omega)
        have c2 := hcl 2 (by omega)
        have c3 := hcl 3 (by omega)
        rw [Go.Deep.add_add] at c0 c1 c2 c3
        simp at c0 c1 c2 c3
        exact ⟨(s0, s1, s2, ma, mn, mc), by rw [c0, e0], by rw [c1, e1], by rw [c2, e2], by rw [c3, e3], hz, hP⟩
    obtain ⟨q, hq⟩ := Go.Deep.choose_lt (α := ByteArray × ByteArray × ByteArray × Option Addr × Nat × Nat) key
    refine ⟨fun i => (q i).2.2.2.1, fun i => (q i).2.2.2.2.1, fun i => (q i).2.2.2.2.2, fun h => (by cases h), ?_, fun i hi => (hq i hi).2.2.2.2.1⟩
    by_cases h0 : len = 0
    · exact .inl h0
    · obtain ⟨b, off, rfl, hb⟩ := plain_addr (hq 0 (by omega)).1
      refine .inr ⟨b, off, rfl, hb, fun i hi => ?_⟩
      obtain ⟨c0, c1, c2, c3, _, hP⟩ := hq i hi
      rw [add_plain] at c0 c1 c2 c3
      rw [← Nat.add_assoc] at c1 c2 c3
      exact ⟨⟨_, _, _, c0, c1, c2⟩, c3, hP⟩

/-- the people -/
theorem open_people {d : DataW H} {p : List MemPlace} {ao : Option Addr} {len cap : Nat}
    (h : DataW.Trod enc Try.prog W 0 (fun _ => true) true 22 (.slice ao len cap) d p) :
    ∃ (EA : Nat → Option Addr) (EN EC : Nat → Nat), (ao = none → len = 0) ∧ People W ao len EA EN EC ∧ ∀ i, i < len → EA i = none → EN i = 0 := by
  obtain ⟨fuel, hf⟩ := h
  rcases Go.Deep.open_slice Try.underlying22 hf with ⟨hcs, _⟩ | ⟨a, l, c, m, n, D, Pl, hcs, _, hl, _, hm, _, hcell⟩
  · simp [Value.cells] at hcs
    obtain ⟨rfl, rfl, rfl⟩ := hcs
    exact ⟨fun _ => none, fun _ => 0, fun _ => 0, fun _ => rfl, .inl rfl, fun _ _ _ => rfl⟩
  · simp [Value.cells] at hcs
    obtain ⟨rfl, rfl, rfl⟩ := hcs
    simp only [if_true] at hm
    subst hm
    have key : ∀ i, i < len → ∃ q : ByteArray × ByteArray × Option Addr × Nat × Nat, W.cell? (a.add (i * 3)) = some (.string q.1) ∧ W.cell? (a.add (i * 3 + 1)) = some (.string q.2.1) ∧
        W.cell? (a.add (i * 3 + 2)) = some (.slice q.2.2.1 q.2.2.2.1 q.2.2.2.2) ∧ (q.2.2.1 = none → q.2.2.2.1 = 0) ∧ Pairs W 0 q.2.2.1 q.2.2.2.1 := by
      intro i hi
      obtain ⟨cs', h1, h2⟩ := hcell i (by omega)
      rw [Try.cells45] at h1
      obtain ⟨_, hlen, hcl⟩ := World.cells?_some h1
      obtain ⟨xs, k, hk, _, _, hxl, hfl⟩ := DataW.trod_struct Try.underlying45 h2
      match xs, hxl, cs', hlen with
      | [y0, y1, y2], _, [v0, v1, v2], _ =>
        have g0 := hfl 0 _ rfl
        have g1 := hfl 1 _ rfl
        have g2 := hfl 2 _ rfl
        simp [Try.cells9, Try.cells43] at g0 g1 g2
        obtain ⟨s0, e0, _, _⟩ := DataW.trod_string Try.underlying9 g0
        obtain ⟨s1, e1, _, _⟩ := DataW.trod_string Try.underlying9 g1
        obtain ⟨ma, mn, mc, e2, hz, hP⟩ := open_two Try.underlying43 Try.underlying47 Try.cells47 rfl rfl rfl rfl g2
        simp at e0 e1 e2
        have c0 := hcl 0 (by omega)
        have c1 := hcl 1 (by omega)
        have c2 := hcl 2 (by omega)
        rw [Go.Deep.add_add] at c0 c1 c2
        simp at c0 c1 c2
        exact ⟨(s0, s1, ma, mn, mc), by rw [c0, e0], by rw [c1, e1], by rw [c2, e2], hz, hP⟩
    obtain ⟨q, hq⟩ := Go.Deep.choose_lt (α := ByteArray × ByteArray × Option Addr × Nat × Nat) key
    refine ⟨fun i => (q i).2.2.1, fun i => (q i).2.2.2.1, fun i => (q i).2.2.2.2, fun h => (by cases h), ?_, fun i hi => (hq i hi).2.2.2.1⟩
    by_cases h0 : len = 0
    · exact .inl h0
    · obtain ⟨b, off, rfl, hb⟩ := plain_addr (hq 0 (by omega)).1
      refine .inr ⟨b, off, rfl, hb, fun i hi => ?_⟩
      obtain ⟨c0, c1, c2, _, hP⟩ := hq i hi
      rw [add_plain] at c0 c1 c2
      rw [← Nat.add_assoc] at c1 c2
      exact ⟨⟨_, _, c0, c1⟩, c2, hP⟩
end
end Go.Proofs.Qxb6630111a
