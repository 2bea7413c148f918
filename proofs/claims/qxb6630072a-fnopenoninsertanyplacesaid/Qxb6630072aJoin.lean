import Derived.Test.Qxb6630072aOpenOn
import Derived.Test.Qxb6630072aToOpen
import Derived.Deep.RegionWith
import Derived.Deep.OwnRows
namespace Go.Proofs.Qxb6630072a
open Go.RowKit
theorem undrew {w w' : World} (h : Below w.drew.heap.size w.drew w') : Below w.heap.size w w' := (Below.refl _ _).drew.trans h
theorem hid {p : Prop} (h : p) : Hid p := h

theorem openOn_all (e y mn mx d : Int) (ao : Option Addr) (n cap : Nat) (F T : Nat → Int) (v : Bool) (w : World) (hn : (n : Int) ≤ 65537) (hv : openB y d F T n = v)
    (hc : n = 0 ∨ ∃ b off, ao = some ⟨b, off, none⟩ ∧ b < w.heap.size ∧ ∀ i, i < n → w.cell? ⟨b, off + i * 2, none⟩ = some (.int .i64 (F i)) ∧ w.cell? ⟨b, off + i * 2 + 1, none⟩ = some (.int .i64 (T i))) :
    Calls Try.prog 7 #[.agg #[.int .i64 e, .int .i64 y, .int .i64 mn, .int .i64 mx], .slice ao n cap, .int .i64 d] w fun r w' => r = .returned (.bool v) ∧ Below w.heap.size w w' := by
  subst hv
  by_cases hy : 0 < y
  · rw [openB_yes hy]
    rcases hc with rfl | ⟨b, off, rfl, hb, hc⟩
    · exact openOn_empty e y mn mx d ao cap w hy
    · exact openOn_some e y mn mx d b off n cap F T w hy hn hb hc
  · rw [openB_no hy]
    exact openOn_no e y mn mx d _ w hy

theorem bcell {W w1 : World} (hb : Below W.heap.size W w1) : (∀ b o, b < W.heap.size → w1.cell? ⟨b, o, none⟩ = W.cell? ⟨b, o, none⟩) ∧ (∀ b o, b < W.heap.size → w1.frozen? ⟨b, o, none⟩ = W.frozen? ⟨b, o, none⟩) :=
  ⟨fun b o h => hb.cell (p := ⟨b, o, none⟩) h, fun b o h => hb.frozen (p := ⟨b, o, none⟩) h⟩

theorem row_pairs {w : World} {g m : Nat} {F T : Nat → Int} (h : w.rowIs g 32 (m * 2) (rowF F T m)) (k n : Nat) (hk : k + n ≤ m) :
    ∀ i, i < n → w.cell? ⟨g, k * 2 + i * 2, none⟩ = some (.int .i64 (F (k + i))) ∧ w.cell? ⟨g, k * 2 + i * 2 + 1, none⟩ = some (.int .i64 (T (k + i))) := by
  intro i hi
  constructor
  · rw [h.cell (by omega)]
    unfold rowF
    rw [if_pos (by omega), if_pos (by omega), show (k * 2 + i * 2) / 2 = k + i by omega]
  · rw [h.cell (by omega)]
    unfold rowF
    rw [if_pos (by omega), if_neg (by omega), show (k * 2 + i * 2 + 1) / 2 = k + i by omega]

/-- the struct c in its box -/
def Box (w : World) (g : Nat) (a0 a1 a2 a3 : Value) : Prop := w.cell? ⟨g, 0, none⟩ = some a0 ∧ w.cell? ⟨g, 1, none⟩ = some a1 ∧ w.cell? ⟨g, 2, none⟩ = some a2 ∧ w.cell? ⟨g, 3, none⟩ = some a3
theorem Box.below {w w1 : World} {B g : Nat} {a0 a1 a2 a3 : Value} (h : Box w g a0 a1 a2 a3) (hb : Below B w w1) (hg : g < B) : Box w1 g a0 a1 a2 a3 := by
  obtain ⟨h0, h1, h2, h3⟩ := h
  exact ⟨(hb.cell (p := ⟨g, 0, none⟩) hg).trans h0, (hb.cell (p := ⟨g, 1, none⟩) hg).trans h1, (hb.cell (p := ⟨g, 2, none⟩) hg).trans h2, (hb.cell (p := ⟨g, 3, none⟩) hg).trans h3⟩
theorem Box.new (w : World) (a0 a1 a2 a3 : Value) (t : TypeId) : Box (w.alloc (.cells #[a0, a1, a2, a3] t)) w.heap.size a0 a1 a2 a3 := by
  refine ⟨?_, ?_, ?_, ?_⟩ <;> simp

theorem row_below {w w1 : World} {B g m : Nat} {t : TypeId} {f : Nat → Value} (h : w.rowIs g t m f) (hb : Below B w w1) (hg : g < B) : w1.rowIs g t m f := h.of_block (hb.block g hg)

set_option maxHeartbeats 1000000 in
theorem join_some (e y mn mx d : Int) (a : Addr) (n cap k : Nat) (F T : Nat → Int) (w : World) (hn : (n : Int) ≤ 65536) (hk : k ≤ n) (hc : Lies w a n F T)
    (vw vl vr vn : Bool) (h1 : openB y d F T n = vw) (h2 : openB y d F T k = vl) (h3 : openB y d (fun i => F (k + i)) (fun i => T (k + i)) (n - k) = vr) (h4 : openB y d F T 0 = vn)
    (hres : (if y ≤ 0 then (vw && vl && vr && vn) else (vw == (vl || vr) && !vn)) = true) :
    Calls Try.prog 3 #[.int .i64 e, .int .i64 y, .int .i64 mn, .int .i64 mx, .slice (some a) n cap, .int .i64 d, .int .i64 k] w fun r w' => r = .returned (.bool true) ∧ Below w.heap.size w w' := by
  have H1 := h1
  have HH : Hid ((openB y d F T n = vw) ∧ (openB y d F T k = vl) ∧ (openB y d (fun i => F (k + i)) (fun i => T (k + i)) (n - k) = vr) ∧ (openB y d F T 0 = vn) ∧ (if y ≤ 0 then (vw && vl && vr && vn) else (vw == (vl || vr) && !vn)) = true ∧ 
    Lies w a n F T) := ⟨h1, h2, h3, h4, hres, hc⟩
  clear h1 h2 h3 h4 hres hc H1
  go_enter Try.func3, Try.ntmps3
  go_wp2_with fail
  refine (bytes5 _ _ _ _ _ _ _ _ _ _ hn).mono ?_
  rintro _ _ ⟨rfl, rfl⟩
  go_wp2_with fail
  refine (toOpen_row a n cap F T _ hn (HH.out.2.2.2.2.2.alloc _)).mono ?_
  rintro _ w1 ⟨rfl, hb1, hr1⟩
  simp only [World.size_alloc] at hb1 hr1
  have bx1 := (Box.new w (.int .i64 e) (.int .i64 y) (.int .i64 mn) (.int .i64 mx) 26).below hb1 (by omega)
  have hs1 : w.heap.size + 1 < w1.heap.size := hr1.lt
  have hB1 : Below w.heap.size w w1 := (((Below.refl _ _).alloc (Nat.le_refl _) _).trans (hb1.mono (by omega)))
  clear hb1
  obtain ⟨q0, q1, q2, q3⟩ := id bx1
  go_wp2_with fail
  refine (openOn_all e y mn mx d _ n n F T vw _ (by omega) HH.out.1 (.inr ⟨_, _, rfl, hr1.lt, by simpa using row_pairs hr1 0 n (by omega)⟩)).mono ?_
  rintro _ w2 ⟨rfl, hb2⟩
  have bx2 := bx1.below hb2 (by omega)
  have hr2 := row_below hr1 hb2 hs1
  have hs2 : w.heap.size + 1 < w2.heap.size := hr2.lt
  have hB2 : Below w.heap.size w w2 := hB1.trans (hb2.mono (by omega))
  clear hb2 hB1 bx1 hr1 hs1 q0 q1 q2 q3
  clear w1
  obtain ⟨q0, q1, q2, q3⟩ := id bx2
  go_wp2_with fail
  have A2 := hid (openOn_all e y mn mx d (some ⟨w.heap.size + 1, 0, none⟩) k n F T vl w2.drew (by omega) HH.out.2.1 (.inr ⟨_, _, rfl, hs2, by simpa using row_pairs hr2.drew 0 k (by omega)⟩))
  go_region_with (go_at_call 7; refine A2.out.mono ?_; rintro _ w3 ⟨rfl, hb3⟩)
  go_wp2_with fail
  have bx3 : Box w3 _ _ _ _ _ := bx2.below (undrew hb3) (by omega)
  have hr3 := row_below hr2 (undrew hb3) hs2
  have hs3 : w.heap.size + 1 < w3.heap.size := hr3.lt
  have hB3 : Below w.heap.size w w3 := hB2.trans ((undrew hb3).mono (by omega))
  clear hb3 hB2 bx2 hr2 hs2 q0 q1 q2 q3 A2
  clear w2
  obtain ⟨q0, q1, q2, q3⟩ := id bx3
  rcases Nat.eq_or_lt_of_le hk with hkn | hkn
  · subst hkn
    have A3 := hid (openOn_all e y mn mx d (some ⟨w.heap.size + 1, 0, none⟩) 0 0 F T vr w3.drew (by omega) (by have := HH.out.2.2.1; rw [Nat.sub_self] at this; exact this) (.inl rfl))
    go_region_with (go_at_call 7; refine A3.out.mono ?_; rintro _ w4 ⟨rfl, hb4⟩)
    go_wp2_with fail
    have bx4 : Box w4 _ _ _ _ _ := bx3.below (undrew hb4) (by omega)
    have hr4 := row_below hr3 (undrew hb4) hs3
    have hs4 : w.heap.size + 1 < w4.heap.size := hr4.lt
    have hB4 : Below w.heap.size w w4 := hB3.trans ((undrew hb4).mono (by omega))
    clear hb4 hB3 bx3 hr3 hs3 q0 q1 q2 q3 A3
    clear w3
    obtain ⟨q0, q1, q2, q3⟩ := id bx4
    have A4 := hid (openOn_all e y mn mx d (some ⟨w.heap.size + 1, 0, none⟩) 0 k F T vn w4.drew (by omega) HH.out.2.2.2.1 (.inl rfl))
    go_region_with (go_at_call 7; refine A4.out.mono ?_; rintro _ w5 ⟨rfl, hb5⟩)
    have hB5 : Below w.heap.size w w5 := hB4.trans ((undrew hb5).mono (by omega))
    have hres := HH.out.2.2.2.2.1
    clear hb5 hB4 bx4 hr4 hs4 q0 q1 q2 q3 A4 HH
    clear w4
    by_cases hy : y ≤ 0
    · rw [if_pos hy] at hres
      simp only [Bool.and_eq_true] at hres
      obtain ⟨⟨⟨rfl, rfl⟩, rfl⟩, rfl⟩ := hres
      go_wp2
      go_ret
      exact ⟨rfl, hB5⟩
    · rw [if_neg hy] at hres
      cases vw <;> cases vl <;> cases vr <;> cases vn <;> first | (simp at hres; done) | skip
      all_goals
        clear hres
        go_wp2
        go_ret
        exact ⟨rfl, hB5⟩
  · have hnk : ¬ n = k := by omega
    have A3 := hid (openOn_all e y mn mx d (some ⟨w.heap.size + 1, k * 2, none⟩) (n - k) (n - k) (fun i => F (k + i)) (fun i => T (k + i)) vr w3.drew (by omega) HH.out.2.2.1 (.inr ⟨_, _, rfl, hs3, row_pairs hr3.drew k (n - k) (by omega)⟩))
    go_region_with (go_at_call 7; refine A3.out.mono ?_; rintro _ w4 ⟨rfl, hb4⟩)
    go_wp2_with fail
    have bx4 : Box w4 _ _ _ _ _ := bx3.below (undrew hb4) (by omega)
    have hr4 := row_below hr3 (undrew hb4) hs3
    have hs4 : w.heap.size + 1 < w4.heap.size := hr4.lt
    have hB4 : Below w.heap.size w w4 := hB3.trans ((undrew hb4).mono (by omega))
    clear hb4 hB3 bx3 hr3 hs3 q0 q1 q2 q3 A3
    clear w3
    obtain ⟨q0, q1, q2, q3⟩ := id bx4
    have A4 := hid (openOn_all e y mn mx d (some ⟨w.heap.size + 1, 0, none⟩) 0 n F T vn w4.drew (by omega) HH.out.2.2.2.1 (.inl rfl))
    go_region_with (go_at_call 7; refine A4.out.mono ?_; rintro _ w5 ⟨rfl, hb5⟩)
    have hB5 : Below w.heap.size w w5 := hB4.trans ((undrew hb5).mono (by omega))
    have hres := HH.out.2.2.2.2.1
    clear hb5 hB4 bx4 hr4 hs4 q0 q1 q2 q3 A4 HH
    clear w4
    by_cases hy : y ≤ 0
    · rw [if_pos hy] at hres
      simp only [Bool.and_eq_true] at hres
      obtain ⟨⟨⟨rfl, rfl⟩, rfl⟩, rfl⟩ := hres
      go_wp2
      go_ret
      exact ⟨rfl, hB5⟩
    · rw [if_neg hy] at hres
      cases vw <;> cases vl <;> cases vr <;> cases vn <;> first | (simp at hres; done) | skip
      all_goals
        clear hres
        go_wp2
        go_ret
        exact ⟨rfl, hB5⟩
end Go.Proofs.Qxb6630072a
