/-
  'Rows.FnStringParsesBackExactlySaid' (the row) and 'Rows.FnStringParsesBackExactlyCardSaid' (the tied card), proved. The frame after the guide's worked examples for a row with listed variables and for a tied card.
-/
import Derived.Test.Qxb6630177aDoorParses
import Derived.Test.Qxb6630177aDoorParsesOut
import Derived.Test.Qxb6630177aDoorOpen
import Derived.Test.Qxb6630177aDoorTie
import Derived.Test.Qxb6630177aDoorCards
import Derived.SevenTiedAt
namespace Go.Proofs.Qxb6630177aDoor
open Go.ChangeShapes Go.WideShapes Go.ChangeAt Go.RowKit Go.Lib

theorem parses_any (a1 a2 a3 : Option Addr) (n1 n2 n3 c1 c2 c3 : Nat) (D S Q : Nat → Nat) (w : World) (h1 : Ints .u32 w a1 n1 D) (h2 : Ints .u32 w a2 n2 S) (h3 : Ints .u64 w a3 n3 Q)
    (f1 : ∀ i, i < n1 → (Lit.int .u32 (D i : Nat)).wf = true) (f2 : ∀ i, i < n2 → (Lit.int .u32 (S i : Nat)).wf = true) (f3 : ∀ i, i < n3 → (Lit.int .u64 (Q i : Nat)).wf = true) (htab : TabIs Tryd.prog w pow10Name .u64 pow10Tab) :
    Calls Tryd.prog 3 #[.slice a1 n1 c1, .slice a2 n2 c2, .slice a3 n3 c3] w fun e w' => e = .returned (.bool true) ∧ Below w.heap.size w w' := by
  by_cases hbad : ((n1 : Int) ≤ 65536 ∧ (n2 : Int) = (n1 : Int) ∧ (n3 : Int) = (n1 : Int))
  · obtain ⟨hn, e2, e3⟩ := hbad
    obtain rfl : n2 = n1 := by omega
    obtain rfl : n3 = n2 := by omega
    have hf : Fit n3 D S Q := fun i hi => by
      have x1 := (bounds_u32 (f1 i hi)).2
      have x2 := (bounds_u32 (f2 i hi)).2
      have x3 := (bounds_u64 (f3 i hi)).2
      exact ⟨by omega, by omega, by omega⟩
    exact parses_main a1 a2 a3 n3 c1 c2 c3 D S Q w hn h1 h2 h3 hf htab
  · exact parses_edge a1 a2 a3 n1 n2 n3 c1 c2 c3 w hbad

set_option maxRecDepth 100000 in
theorem parses_lifted (os : Os) (started : os.Started) (H : Type) (enc : TypeId × Value → H) :
    ReturnsInHanded {} Tryd.checked os 3 .any (fun w args => (Rows.fnStringParsesBackExactlySpec.pre enc Tryd.prog Tryd.f3 [] false w args ∧ laidMetH Tryd.prog laidL w) ∧ sizedMet enc Tryd.prog Tryd.f3 (OpenSpec.ofChange Rows.fnStringParsesBackExactlySpec) false w args)
      (Rows.fnStringParsesBackExactlySpec.post enc Tryd.prog Tryd.f3 false true false false) := by
  refine returnsInHanded_of_change_and (C := Tryd.checked) (X := fun w _ => laidMetH Tryd.prog laidL w) (fun _ _ _ hh h => h.of_heap hh) Tryd.own started (by kernel_rfl) Tryd.func3
    (ChangeSpec.witness_shaped (enc := enc) (C := Tryd.checked) (os := os) (X := fun w _ => laidMetH Tryd.prog laidL w) false (World.doorLaid Tryd.prog 400 os) #[.slice none 0 0, .slice none 0 0, .slice none 0 0] 8 rfl (World.shaped_of_RefB (by kernel_rfl) (by kernel_rfl)) (by kernel_rfl) (by kernel_rfl) (by kernel_rfl) (door_met os _)) ?_
  intro W base args ds gs before hval0 hW _ _ hL _
  have hval : ∀ (j : Nat) t v, Tryd.f3.params[j]? = some t → args[j]? = some v → Value.okWide Tryd.prog W .any base t v := hval0
  have hW' := hW
  obtain ⟨p, q, hA0, hV, rfl, hfz, hnd⟩ := hW
  have hA : DataW.TrodAll enc Tryd.prog W 0 (fun _ => true) true Tryd.f3.params.toList args.toList ds p := hA0
  rw [Tryd.params3] at hA hval
  obtain ⟨v0, vs0, d0, ds0, p0, q0, hargs, rfl, rfl, h0, r0⟩ := trodAll_cons hA
  obtain ⟨v1, vs1, d1, ds1, p1, q1, rfl, rfl, rfl, h1, r1⟩ := trodAll_cons r0
  obtain ⟨v2, vs2, d2, ds2, p2, q2, rfl, rfl, rfl, h2, r2⟩ := trodAll_cons r1
  obtain ⟨rfl, rfl, rfl⟩ := trodAll_nil r2
  obtain rfl : args = #[v0, v1, v2] := by cases args; simp_all
  obtain ⟨rfl, rfl⟩ := trodVars_none hV
  obtain ⟨a0, len0, cap0, rfl⟩ := okWide_slice Tryd.underlying22 (hval 0 22 v0 rfl rfl)
  obtain ⟨a1, len1, cap1, rfl⟩ := okWide_slice Tryd.underlying22 (hval 1 22 v1 rfl rfl)
  obtain ⟨a2, len2, cap2, rfl⟩ := okWide_slice Tryd.underlying23 (hval 2 23 v2 rfl rfl)
  have k0 := h0
  have k1 := h1
  have k2 := h2
  have lt0 : ∀ x ∈ p0, x.block < W.heap.size := by obtain ⟨m, hm⟩ := k0; exact DataW.trod_lt m _ _ _ hm
  have lt1 : ∀ x ∈ p1, x.block < W.heap.size := by obtain ⟨m, hm⟩ := k1; exact DataW.trod_lt m _ _ _ hm
  have lt2 : ∀ x ∈ p2, x.block < W.heap.size := by obtain ⟨m, hm⟩ := k2; exact DataW.trod_lt m _ _ _ hm
  obtain ⟨D, hD, fD⟩ := open_nums Tryd.underlying22 Tryd.underlying36 Tryd.cells36 rfl h0
  obtain ⟨S, hS, fS⟩ := open_nums Tryd.underlying22 Tryd.underlying36 Tryd.cells36 rfl h1
  obtain ⟨Q, hQ, fQ⟩ := open_nums Tryd.underlying23 Tryd.underlying33 Tryd.cells33 rfl h2
  have htab := tab_of_laid hL
  clear hA0 hval0
  simp only [List.append_nil] at hW'
  refine (parses_any a0 a1 a2 len0 len1 len2 cap0 cap1 cap2 D S Q W hD hS hQ fD fS fQ htab).mono fun e W' ⟨he, bel⟩ => ?_
  subst he
  exact ⟨_, rfl, _, _, _, [], _, [], hW', trodAll_mk1 (shut_bool Tryd.underlying4 _), (trodAll_cons_mk (Below.trod Tryd.laidOut (by kernel_rfl) (of_decide_eq_true (by kernel_rfl)) k0 bel lt0) (trodAll_cons_mk (Below.trod Tryd.laidOut (by kernel_rfl) (of_decide_eq_true (by kernel_rfl)) k1 bel lt1) (trodAll_cons_mk (Below.trod Tryd.laidOut (by kernel_rfl) (of_decide_eq_true (by kernel_rfl)) k2 bel lt2) trodAll_mk0))), rfl, bel.frame _, fun h => by cases h⟩

theorem parses_row : Rows.FnStringParsesBackExactlySaid :=
  OpenClaim.holds_of_wide 3 Tryd.f3 rfl rfl rfl rfl rfl rfl rfl ⟨rfl, rfl, rfl, rfl, rfl⟩ rfl rfl rfl rfl rfl (by kernel_rfl) Tryd.func3 (by kernel_rfl)
    (of_decide_eq_true (by kernel_rfl)) (by unfold Func.isWrapper; first | (rw [if_pos (by decide +kernel)]; kernel_rfl) | (rw [if_neg (by decide +kernel)]; exact ⟨rfl, rfl⟩))
    (fun os started H enc _ => parses_lifted os started H enc)

/-- THE STATEMENT: the tied card -/
theorem parses_card : Rows.FnStringParsesBackExactlyCardSaid :=
  Claim7.holds_tied_plain_at .later [] [.data, .data, .data] true (true, "c45d1635c77d39b2568956881e410352773f58ec08e5385fe2c41c4d1dcf29a3") false
    parses_row (fun _ h => by cases h) (by kernel_rfl) (fun _ h => by cases h) fnStringParsesBackExactly_row_tie rfl ⟨rfl, rfl⟩ (by kernel_rfl) rfl
    (fun f fn hf hfn => by
      obtain rfl : f = 3 := Option.some.inj ((show Tryd.prog.funcNamed Rows.fnStringParsesBackExactlyRow.func = some 3 by kernel_rfl).symm.trans hf) |>.symm
      obtain rfl : fn = Tryd.f3 := (Option.some.inj (Tryd.func3.symm.trans hfn)).symm
      exact ⟨by kernel_rfl, fun j t ht => by
        rw [Tryd.params3] at ht
        have h3 : t = 22 ∨ t = 23 ∨ t = 3 := by
          rcases j with _ | _ | _ | _ | j
          all_goals first | (simp at ht; done) | (simp at ht; first | exact .inl ht.symm | exact .inr (.inl ht.symm) | exact .inr (.inr ht.symm))
        rcases h3 with rfl | rfl | rfl
        · exact (show Tryd.prog.wantsStandIn 22 = false by kernel_rfl)
        · exact (show Tryd.prog.wantsStandIn 23 = false by kernel_rfl)
        · exact (show Tryd.prog.wantsStandIn 3 = false by kernel_rfl)⟩)
    (by kernel_rfl)
end Go.Proofs.Qxb6630177aDoor
