/-
  'Rows.FnOpenOnInsertAnyPlaceSaid', proved. The frame after the guide's shell for a law over slices, turned to a slice of structs of two integers.
-/
import Derived.Test.Qxb6630072aInsEdge
import Derived.Test.Qxb6630072aOpen
namespace Go.Proofs.Qxb6630072a
open Go.ChangeShapes Go.WideShapes Go.ChangeAt Go.RowKit

theorem ins_law {y d f t : Int} {F T : Nat → Int} {n k : Nat} (hk : k ≤ n) :
    (if y ≤ 0 then (openB y d F T n && openB y d (put F k f) (put T k t) (n + 1)) else if f ≤ d ∧ d ≤ t then openB y d (put F k f) (put T k t) (n + 1) else (openB y d (put F k f) (put T k t) (n + 1) == openB y d F T n)) = true := by
  by_cases hy : 0 < y
  · rw [if_neg (by omega), openB_yes hy, openB_yes hy, hit_put d F T n k hk]
    by_cases hin : f ≤ d ∧ d ≤ t
    · rw [if_pos hin, decide_eq_true hin, Bool.or_true]
    · rw [if_neg hin, decide_eq_false hin, Bool.or_false]
      simp
  · rw [if_pos (by omega), openB_no hy, openB_no hy]
    rfl

theorem ins_walk (e y mn mx : Int) (ao : Option Addr) (len cap : Nat) (d k f t : Int) (w : World) (h4 : (ao = none ∧ len = 0 ∧ cap = 0) ∨ ∃ a F T, ao = some a ∧ Lies w a len F T) :
    Calls Try.prog 4 #[.int .i64 e, .int .i64 y, .int .i64 mn, .int .i64 mx, .slice ao len cap, .int .i64 d, .int .i64 k, .int .i64 f, .int .i64 t] w fun r w' => r = .returned (.bool true) ∧ Below w.heap.size w w' := by
  by_cases hn : (65536 : Int) < (len : Int)
  · exact ins_long e y mn mx d k f t ao len cap w hn
  by_cases hk : k < 0 ∨ (len : Int) < k
  · exact ins_out e y mn mx d k f t ao len cap w (by omega) hk
  rcases h4 with ⟨rfl, rfl, rfl⟩ | ⟨a, F, T, rfl, hL⟩
  · obtain rfl : k = 0 := by omega
    exact ins_nil e y mn mx d f t (fun _ => 0) (fun _ => 0) w _ _ rfl rfl (ins_law (Nat.le_refl _))
  · obtain ⟨kn, rfl⟩ : ∃ kn : Nat, k = (kn : Int) := ⟨k.toNat, by omega⟩
    exact ins_some e y mn mx d f t a len cap kn F T w (by omega) (by omega) hL _ _ rfl rfl (ins_law (by omega))

set_option maxRecDepth 100000 in
theorem ins_lifted (os : Os) (started : os.Started) (H : Type) (enc : TypeId × Value → H) :
    ReturnsInHanded {} Try.checked os 4 .any (Rows.fnOpenOnInsertAnyPlaceSpec.pre6 enc Try.prog Try.f4 Rows.fnOpenOnInsertAnyPlaceRow.domain false) (Rows.fnOpenOnInsertAnyPlaceSpec.post enc Try.prog Try.f4 false true false false) := by
  refine returnsInHanded_of_change (C := Try.checked) Try.own started (by kernel_rfl) Try.func4
    (ChangeSpec.witness6 (enc := enc) (C := Try.checked) false ⟨#[], #[.int .i64 0, .int .i64 0, .int .i64 0, .int .i64 0, .slice none 0 0, .int .i64 0, .int .i64 0, .int .i64 0, .int .i64 0], []⟩ 8 (by kernel_rfl) (by kernel_rfl) (by kernel_rfl) (by kernel_rfl)) ?_
  intro W base args ds gs before hval0 hW hcnd _
  have hval : ∀ (j : Nat) t v, Try.f4.params[j]? = some t → args[j]? = some v → Value.okWide Try.prog W .any base t v := hval0
  have hW' := hW
  obtain ⟨p, q, hA0, hV, rfl, hfz, hnd⟩ := hW
  have hA : DataW.TrodAll enc Try.prog W 0 (fun _ => true) true Try.f4.params.toList args.toList ds p := hA0
  rw [Try.params4] at hA hval
  obtain ⟨v0, vs0, d0, ds0, p0, q0, hargs, rfl, rfl, h0, r0⟩ := trodAll_cons hA
  obtain ⟨v1, vs1, d1, ds1, p1, q1, rfl, rfl, rfl, h1, r1⟩ := trodAll_cons r0
  obtain ⟨v2, vs2, d2, ds2, p2, q2, rfl, rfl, rfl, h2, r2⟩ := trodAll_cons r1
  obtain ⟨v3, vs3, d3, ds3, p3, q3, rfl, rfl, rfl, h3, r3⟩ := trodAll_cons r2
  obtain ⟨v4, vs4, d4, ds4, p4, q4, rfl, rfl, rfl, h4, r4⟩ := trodAll_cons r3
  obtain ⟨v5, vs5, d5, ds5, p5, q5, rfl, rfl, rfl, h5, r5⟩ := trodAll_cons r4
  obtain ⟨v6, vs6, d6, ds6, p6, q6, rfl, rfl, rfl, h6, r6⟩ := trodAll_cons r5
  obtain ⟨v7, vs7, d7, ds7, p7, q7, rfl, rfl, rfl, h7, r7⟩ := trodAll_cons r6
  obtain ⟨v8, vs8, d8, ds8, p8, q8, rfl, rfl, rfl, h8, r8⟩ := trodAll_cons r7
  obtain ⟨rfl, rfl, rfl⟩ := trodAll_nil r8
  obtain rfl : args = #[v0, v1, v2, v3, v4, v5, v6, v7, v8] := by cases args; simp_all
  obtain ⟨rfl, rfl⟩ := trodVars_none hV
  obtain ⟨a0, rfl, rfl, rfl, w0⟩ := open_int Try.underlying3 (hval 0 3 v0 rfl rfl) h0
  obtain ⟨a1, rfl, rfl, rfl, w1⟩ := open_int Try.underlying3 (hval 1 3 v1 rfl rfl) h1
  obtain ⟨a2, rfl, rfl, rfl, w2⟩ := open_int Try.underlying3 (hval 2 3 v2 rfl rfl) h2
  obtain ⟨a3, rfl, rfl, rfl, w3⟩ := open_int Try.underlying3 (hval 3 3 v3 rfl rfl) h3
  obtain ⟨a4, len4, cap4, rfl⟩ := okWide_slice Try.underlying22 (hval 4 22 v4 rfl rfl)
  have k4 := h4
  have lt4 : ∀ x ∈ p4, x.block < W.heap.size := by obtain ⟨m, hm⟩ := k4; exact DataW.trod_lt m _ _ _ hm
  have w4 := open_periods h4
  obtain ⟨a5, rfl, rfl, rfl, w5⟩ := open_int Try.underlying3 (hval 5 3 v5 rfl rfl) h5
  obtain ⟨a6, rfl, rfl, rfl, w6⟩ := open_int Try.underlying3 (hval 6 3 v6 rfl rfl) h6
  obtain ⟨a7, rfl, rfl, rfl, w7⟩ := open_int Try.underlying3 (hval 7 3 v7 rfl rfl) h7
  obtain ⟨a8, rfl, rfl, rfl, w8⟩ := open_int Try.underlying3 (hval 8 3 v8 rfl rfl) h8
  clear hA0 hval0
  refine (ins_walk a0 a1 a2 a3 a4 len4 cap4 a5 a6 a7 a8 W w4).mono fun e W' ⟨he, bel⟩ => ?_
  subst he
  exact ⟨_, rfl, _, _, _, [], _, [], hW', trodAll_mk1 (shut_bool Try.underlying4 _), (trodAll_cons_mk (shut_int Try.underlying3 w0) (trodAll_cons_mk (shut_int Try.underlying3 w1) (trodAll_cons_mk (shut_int Try.underlying3 w2) (trodAll_cons_mk (shut_int Try.underlying3 w3) (trodAll_cons_mk (Below.trod Try.laidOut (by kernel_rfl) (of_decide_eq_true (by kernel_rfl)) k4 bel lt4) (trodAll_cons_mk (shut_int Try.underlying3 w5) (trodAll_cons_mk (shut_int Try.underlying3 w6) (trodAll_cons_mk (shut_int Try.underlying3 w7) (trodAll_cons_mk (shut_int Try.underlying3 w8) trodAll_mk0))))))))), rfl, bel.frame _, fun h => by cases h⟩

theorem ins_over : Rows.fnOpenOnInsertAnyPlaceRow.holds Try.pinned (OpenSpec.ofChange Rows.fnOpenOnInsertAnyPlaceSpec) :=
  OpenClaim.holds_of_wide 4 Try.f4 rfl rfl rfl rfl rfl rfl rfl ⟨rfl, rfl, rfl, rfl, rfl⟩ rfl rfl rfl rfl rfl (by kernel_rfl) Try.func4 (by kernel_rfl)
    (of_decide_eq_true (by kernel_rfl)) (by unfold Func.isWrapper; first | (rw [if_pos (by decide +kernel)]; kernel_rfl) | (rw [if_neg (by decide +kernel)]; exact ⟨rfl, rfl⟩))
    (fun os started H enc _ => ins_lifted os started H enc)

/-- THE STATEMENT -/
theorem ins_proved : Rows.FnOpenOnInsertAnyPlaceSaid := ins_over
end Go.Proofs.Qxb6630072a
