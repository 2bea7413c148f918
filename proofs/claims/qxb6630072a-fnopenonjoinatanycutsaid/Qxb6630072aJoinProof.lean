/-
  'Rows.FnOpenOnJoinAtAnyCutSaid', proved. The frame after the guide's shell for a law over slices (howto/shells), turned to a slice of structs of two integers.
-/
import Derived.Test.Qxb6630072aJoinEdge
import Derived.OpenShut
import Derived.ShutString
import Derived.ChangeOld
import Derived.Below
import Derived.Deep.SlicePairs
namespace Go.Proofs.Qxb6630072a
open Go.ChangeShapes Go.WideShapes Go.ChangeAt Go.RowKit

theorem Try.own : ownKnob Try.prog.godebug = none := by kernel_rfl
theorem Try.laidOut : laidOutB Try.prog = true := by kernel_rfl
theorem Try.cells3 : Try.prog.cellsOf 3 = 1 := by kernel_rfl
theorem Try.cells34 : Try.prog.cellsOf 34 = 2 := by kernel_rfl

/-- THE SLICE THAT CAME IN: nil, or it leads to its periods. -/
theorem open_periods {H : Type} {enc : TypeId × Value → H} {W : World} {d : DataW H} {p : List MemPlace} {ao : Option Addr} {len cap : Nat}
    (h : DataW.Trod enc Try.prog W 0 (fun _ => true) true 22 (.slice ao len cap) d p) :
    (ao = none ∧ len = 0 ∧ cap = 0) ∨ ∃ a F T, ao = some a ∧ Lies W a len F T := by
  obtain ⟨fuel, hf⟩ := h
  rcases Go.Deep.open_slice_pairs Try.underlying22 Try.underlying34 Try.cells34 rfl rfl Try.cells3 Try.cells3 hf with ⟨hcs, _⟩ | ⟨a, l, c, m, n, V0, V1, D0, D1, P0, P1, hcs, _, hl, _, hm, hx, hcell⟩
  · simp [Value.cells] at hcs
    exact .inl hcs
  · simp [Value.cells] at hcs
    obtain ⟨rfl, rfl, rfl⟩ := hcs
    simp only [if_true] at hm
    subst hm
    have key : ∀ i, i < m → ∃ q : Int × Int, W.cell? (a.add (i * 2)) = some (.int .i64 q.1) ∧ W.cell? (a.add (i * 2 + 1)) = some (.int .i64 q.2) := by
      intro i hi
      obtain ⟨c0, c1, t0, t1⟩ := hcell i hi
      obtain ⟨x0, e0, _, _⟩ := DataW.trod_int Try.underlying3 t0
      obtain ⟨x1, e1, _, _⟩ := DataW.trod_int Try.underlying3 t1
      simp at e0 e1
      exact ⟨(x0, x1), by rw [c0, e0], by rw [c1, e1]⟩
    obtain ⟨q, hq⟩ := Go.Deep.choose_lt key
    refine .inr ⟨a, fun i => (q i).1, fun i => (q i).2, rfl, ?_⟩
    by_cases h0 : len = 0
    · exact .inl h0
    · right
      have hc0 := (hq 0 (by omega)).1
      obtain ⟨b, off, spot⟩ := a
      have hspot : spot = none := by simpa [Addr.add] using World.cell?_spot hc0
      subst hspot
      refine ⟨b, off, rfl, ?_, fun i hi => ?_⟩
      · have : b < W.heap.size := by
          simp [Addr.add] at hc0
          exact World.block_lt_of_cell? W _ hc0
        exact this
      · have := hq i (by omega)
        rw [add_plain, add_plain] at this
        exact ⟨this.1, by have := this.2; rwa [← Nat.add_assoc] at this⟩

theorem join_walk (e y mn mx : Int) (ao : Option Addr) (len cap : Nat) (d k : Int) (w : World) (h4 : (ao = none ∧ len = 0 ∧ cap = 0) ∨ ∃ a F T, ao = some a ∧ Lies w a len F T) :
    Calls Try.prog 3 #[.int .i64 e, .int .i64 y, .int .i64 mn, .int .i64 mx, .slice ao len cap, .int .i64 d, .int .i64 k] w fun r w' => r = .returned (.bool true) ∧ Below w.heap.size w w' := by
  by_cases hn : (65536 : Int) < (len : Int)
  · exact join_long e y mn mx d k ao len cap w hn
  by_cases hk : k < 0 ∨ (len : Int) < k
  · exact join_out e y mn mx d k ao len cap w (by omega) hk
  rcases h4 with ⟨rfl, rfl, rfl⟩ | ⟨a, F, T, rfl, hL⟩
  · obtain rfl : k = 0 := by omega
    exact join_nil e y mn mx d w
  · obtain ⟨kn, rfl⟩ : ∃ kn : Nat, k = (kn : Int) := ⟨k.toNat, by omega⟩
    refine join_some e y mn mx d a len cap kn F T w (by omega) (by omega) hL _ _ _ _ rfl rfl rfl rfl ?_
    by_cases hy : 0 < y
    · rw [if_neg (by omega), openB_yes hy, openB_yes hy, openB_yes hy, openB_yes hy, hit_zero, hit_split d F T len kn (by omega)]
      simp
    · rw [if_pos (by omega), openB_no hy, openB_no hy, openB_no hy, openB_no hy]
      rfl

set_option maxRecDepth 100000 in
theorem join_lifted (os : Os) (started : os.Started) (H : Type) (enc : TypeId × Value → H) :
    ReturnsInHanded {} Try.checked os 3 .any (Rows.fnOpenOnJoinAtAnyCutSpec.pre6 enc Try.prog Try.f3 Rows.fnOpenOnJoinAtAnyCutRow.domain false) (Rows.fnOpenOnJoinAtAnyCutSpec.post enc Try.prog Try.f3 false true false false) := by
  refine returnsInHanded_of_change (C := Try.checked) Try.own started (by kernel_rfl) Try.func3
    (ChangeSpec.witness6 (enc := enc) (C := Try.checked) false ⟨#[], #[.int .i64 0, .int .i64 0, .int .i64 0, .int .i64 0, .slice none 0 0, .int .i64 0, .int .i64 0], []⟩ 8 (by kernel_rfl) (by kernel_rfl) (by kernel_rfl) (by kernel_rfl)) ?_
  intro W base args ds gs before hval0 hW hcnd _
  have hval : ∀ (j : Nat) t v, Try.f3.params[j]? = some t → args[j]? = some v → Value.okWide Try.prog W .any base t v := hval0
  have hW' := hW
  obtain ⟨p, q, hA0, hV, rfl, hfz, hnd⟩ := hW
  have hA : DataW.TrodAll enc Try.prog W 0 (fun _ => true) true Try.f3.params.toList args.toList ds p := hA0
  rw [Try.params3] at hA hval
  obtain ⟨v0, vs0, d0, ds0, p0, q0, hargs, rfl, rfl, h0, r0⟩ := trodAll_cons hA
  obtain ⟨v1, vs1, d1, ds1, p1, q1, rfl, rfl, rfl, h1, r1⟩ := trodAll_cons r0
  obtain ⟨v2, vs2, d2, ds2, p2, q2, rfl, rfl, rfl, h2, r2⟩ := trodAll_cons r1
  obtain ⟨v3, vs3, d3, ds3, p3, q3, rfl, rfl, rfl, h3, r3⟩ := trodAll_cons r2
  obtain ⟨v4, vs4, d4, ds4, p4, q4, rfl, rfl, rfl, h4, r4⟩ := trodAll_cons r3
  obtain ⟨v5, vs5, d5, ds5, p5, q5, rfl, rfl, rfl, h5, r5⟩ := trodAll_cons r4
  obtain ⟨v6, vs6, d6, ds6, p6, q6, rfl, rfl, rfl, h6, r6⟩ := trodAll_cons r5
  obtain ⟨rfl, rfl, rfl⟩ := trodAll_nil r6
  obtain rfl : args = #[v0, v1, v2, v3, v4, v5, v6] := by cases args; simp_all
  obtain ⟨rfl, rfl⟩ := trodVars_none hV
  obtain ⟨a0, rfl, rfl, rfl, w0⟩ := open_int Try.underlying3 (hval 0 3 v0 rfl rfl) h0
  obtain ⟨a1, rfl, rfl, rfl, w1⟩ := open_int Try.underlying3 (hval 1 3 v1 rfl rfl) h1
  obtain ⟨a2, rfl, rfl, rfl, w2⟩ := open_int Try.underlying3 (hval 2 3 v2 rfl rfl) h2
  obtain ⟨a3, rfl, rfl, rfl, w3⟩ := open_int Try.underlying3 (hval 3 3 v3 rfl rfl) h3
  obtain ⟨a4, len4, cap4, rfl⟩ := okWide_slice Try.underlying22 (hval 4 22 v4 rfl rfl)
  have k4 := h4
  have lt4 : ∀ x ∈ p4, x.block < W.heap.size := by obtain ⟨m, hm⟩ := k4; exact DataW.trod_lt m _ _ _ hm
  have w4 := open_periods h4
  obtain ⟨a5, rfl, rfl, rfl, w5⟩ := open_int Try.underlying3 (hval 5 3 v5 rfl rfl) h5
  obtain ⟨a6, rfl, rfl, rfl, w6⟩ := open_int Try.underlying3 (hval 6 3 v6 rfl rfl) h6
  clear hA0 hval0
  refine (join_walk a0 a1 a2 a3 a4 len4 cap4 a5 a6 W w4).mono fun e W' ⟨he, bel⟩ => ?_
  subst he
  exact ⟨_, rfl, _, _, _, [], _, [], hW', trodAll_mk1 (shut_bool Try.underlying4 _), (trodAll_cons_mk (shut_int Try.underlying3 w0) (trodAll_cons_mk (shut_int Try.underlying3 w1) (trodAll_cons_mk (shut_int Try.underlying3 w2) (trodAll_cons_mk (shut_int Try.underlying3 w3) (trodAll_cons_mk (Below.trod Try.laidOut (by kernel_rfl) (of_decide_eq_true (by kernel_rfl)) k4 bel lt4) (trodAll_cons_mk (shut_int Try.underlying3 w5) (trodAll_cons_mk (shut_int Try.underlying3 w6) trodAll_mk0))))))), rfl, bel.frame _, fun h => by cases h⟩

theorem join_over : Rows.fnOpenOnJoinAtAnyCutRow.holds Try.pinned (OpenSpec.ofChange Rows.fnOpenOnJoinAtAnyCutSpec) :=
  OpenClaim.holds_of_wide 3 Try.f3 rfl rfl rfl rfl rfl rfl rfl ⟨rfl, rfl, rfl, rfl, rfl⟩ rfl rfl rfl rfl rfl (by kernel_rfl) Try.func3 (by kernel_rfl)
    (of_decide_eq_true (by kernel_rfl)) (by unfold Func.isWrapper; first | (rw [if_pos (by decide +kernel)]; kernel_rfl) | (rw [if_neg (by decide +kernel)]; exact ⟨rfl, rfl⟩))
    (fun os started H enc _ => join_lifted os started H enc)

/-- THE STATEMENT -/
theorem join_proved : Rows.FnOpenOnJoinAtAnyCutSaid := join_over
end Go.Proofs.Qxb6630072a
