import Derived.Test.Qxb6630111aMembers
import Derived.Deep.RegionHeld3
namespace Go.Proofs.Qxb6630111a
open Go.RowKit

theorem Try.info42 : (Try.prog.info? 42).map (fun i => (i.zero, i.size, i.bytes)) = some (some (.agg #[.string ByteArray.empty, .string ByteArray.empty, .string ByteArray.empty, .slice none 0 0]), 4, 72) := by kernel_rfl

/-- a made row of groups: zero values -/
def zeroG (j : Nat) : Value := if j % 4 = 3 then .slice none 0 0 else .string ByteArray.empty

theorem made_rowG (n : Nat) (w : World) : (w.alloc (.cells (madeCells #[.string ByteArray.empty, .string ByteArray.empty, .string ByteArray.empty, .slice none 0 0] (n * 4)) 42)).rowIs w.heap.size 42 (n * 4) zeroG := by
  have := World.rowIs_alloc w (madeCells #[.string ByteArray.empty, .string ByteArray.empty, .string ByteArray.empty, .slice none 0 0] (n * 4)) 42 zeroG (by
    intro i hi
    rw [size_madeCells] at hi
    have h2 : i % 4 = 0 ∨ i % 4 = 1 ∨ i % 4 = 2 ∨ i % 4 = 3 := by omega
    rcases h2 with h | h | h | h <;> simp [madeCells, zeroG, hi, h])
  rwa [size_madeCells] at this

theorem run_make27 (n : Nat) (hn : (n : Int) ≤ 2000000) (w : World) :
    (Instr.makeSlice 27 (.int .i64 n) (.int .i64 n)).run Try.prog w = .ok (.slice (some ⟨w.heap.size, 0, none⟩) n n) (w.alloc (.cells (madeCells #[.string ByteArray.empty, .string ByteArray.empty, .string ByteArray.empty, .slice none 0 0] (n * 4)) 42)) := by
  obtain ⟨i0, hi, hz0, hz1, hz2⟩ := info_parts Try.info42
  have := run_make (P := Try.prog) w 27 42 i0 _ Try.underlying27 hi hz0 .i64 .i64 n n (by omega) (Int.le_refl _) (by rw [hz2]; omega) (by omega)
  simpa [hz1, Value.cells] using this

theorem groups_nil (w : World) (cap : Nat) :
    Calls Try.prog 8 #[.slice none 0 cap] w fun r w' => r = .returned (.slice none 0 0) ∧ w = w' := by
  have hq := fun (w : World) (a : Option Addr) (n c n' c' : Nat) => Lib.run_eql_slice_nil (P := Try.prog) w 23 34 a n c n' c' Try.underlying23
  go_enter Try.func8, Try.ntmps8
  go_wp2
  go_ret
  exact ⟨rfl, rfl⟩

set_option maxHeartbeats 400000 in
theorem groups_empty (a : Addr) (cap : Nat) (w : World) :
    Calls Try.prog 8 #[.slice (some a) 0 cap] w fun r w' => r = .returned (.slice (some ⟨w.heap.size, 0, none⟩) 0 0) ∧ Below w.heap.size w w' ∧ ∃ f, w'.rowIs w.heap.size 42 (0 * 4) f := by
  have hmk : ∀ w : World, (Instr.makeSlice 27 (.int .i64 0) (.int .i64 0)).run Try.prog w = .ok (.slice (some ⟨w.heap.size, 0, none⟩) 0 0) (w.alloc (.cells (madeCells #[.string ByteArray.empty, .string ByteArray.empty, .string ByteArray.empty, .slice none 0 0] (0 * 4)) 42)) := fun w => run_make27 0 (by omega) w
  have hq := fun (w : World) (a : Option Addr) (n c n' c' : Nat) => Lib.run_eql_slice_nil (P := Try.prog) w 23 34 a n c n' c' Try.underlying23
  go_enter Try.func8, Try.ntmps8
  go_wp2
  clear hq hmk
  refine wp_loop_rounds 1 ?_; rw [rounds_succ]; go_wp2
  go_ret
  exact ⟨rfl, ((Below.refl _ _).alloc (Nat.le_refl _) _), _, made_rowG 0 w⟩

/-- the four cells of one group that came in -/
def One (w : World) (b o : Nat) (s t u : ByteArray) (v : Value) : Prop :=
  w.cell? ⟨b, o, none⟩ = some (.string s) ∧ w.cell? ⟨b, o + 1, none⟩ = some (.string t) ∧ w.cell? ⟨b, o + 2, none⟩ = some (.string u) ∧ w.cell? ⟨b, o + 3, none⟩ = some v
theorem One.below {w w' : World} {B b o : Nat} {s t u : ByteArray} {v : Value} (h : One w b o s t u v) (hb : Below B w w') (hB : b < B) : One w' b o s t u v :=
  ⟨(hb.cell (p := ⟨b, o, none⟩) hB).trans h.1, (hb.cell (p := ⟨b, o + 1, none⟩) hB).trans h.2.1, (hb.cell (p := ⟨b, o + 2, none⟩) hB).trans h.2.2.1, (hb.cell (p := ⟨b, o + 3, none⟩) hB).trans h.2.2.2⟩
theorem One.setCell {w : World} {b o : Nat} {s t u : ByteArray} {v : Value} (h : One w b o s t u v) {p : Addr} (hp : b < p.block) (x : Value) : One (w.setCell p x) b o s t u v :=
  h.below ((Below.refl (b + 1) w).setCell hp x) (Nat.lt_succ_self _)

/-- the copy's row in block g holds f; of its first k groups it is known what they are -/
def Laid (w : World) (g n k : Nat) (f : Nat → Value) (MA : Nat → Option Addr) (MN MC : Nat → Nat) : Prop :=
  w.rowIs g 42 (n * 4) f ∧ ∀ i, i < k → (∃ s t u : ByteArray, f (i * 4) = .string s ∧ f (i * 4 + 1) = .string t ∧ f (i * 4 + 2) = .string u) ∧ f (i * 4 + 3) = .slice (MA i) (MN i) (MC i) ∧ Pairs w (g + 1) (MA i) (MN i)

/-- one group more -/
theorem laid_step {wr w1 : World} {g n k : Nat} {f : Nat → Value} {MA : Nat → Option Addr} {MN MC : Nat → Nat} (h : Laid wr g n k f MA MN MC) (hb1 : Below wr.drew.heap.size wr.drew w1)
    {a' : Option Addr} {c' : Nat} (hP1 : Pairs w1 wr.drew.heap.size a' (MN k)) (s t u : ByteArray) :
    ∃ f', Laid ((((w1.setCell ⟨g, k * 4, none⟩ (.string s)).setCell ⟨g, k * 4 + 1, none⟩ (.string t)).setCell ⟨g, k * 4 + 2, none⟩ (.string u)).setCell ⟨g, k * 4 + 3, none⟩ (.slice a' (MN k) c'))
      g n (k + 1) f' (fun i => if i = k then a' else MA i) MN (fun i => if i = k then c' else MC i) := by
  obtain ⟨hr, hL⟩ := h
  have hlt := hr.lt
  have hr1 := row_below hr (undrew hb1) hlt
  refine ⟨_, ((((hr1.set (k * 4) _).set (k * 4 + 1) _).set (k * 4 + 2) _).set (k * 4 + 3) _), fun i hi => ?_⟩
  by_cases hik : i = k
  · subst hik
    refine ⟨⟨s, t, u, ?_, ?_, ?_⟩, ?_, ?_⟩
    · show (if _ then _ else if _ then _ else if _ then _ else if _ then _ else _) = _
      rw [if_neg (by omega), if_neg (by omega), if_neg (by omega), if_pos rfl]
    · show (if _ then _ else if _ then _ else if _ then _ else if _ then _ else _) = _
      rw [if_neg (by omega), if_neg (by omega), if_pos rfl]
    · show (if _ then _ else if _ then _ else if _ then _ else if _ then _ else _) = _
      rw [if_neg (by omega), if_pos rfl]
    · show (if _ then _ else if _ then _ else if _ then _ else if _ then _ else _) = _
      rw [if_pos rfl]
      simp only [if_true]
    · simp only [if_true]
      exact ((((hP1.lower (lo' := g + 1) hlt).setCell (by show g < g + 1; omega) _).setCell (by show g < g + 1; omega) _).setCell (by show g < g + 1; omega) _).setCell (by show g < g + 1; omega) _
  · obtain ⟨⟨s', t', u', h1, h2, h3⟩, h4, h5⟩ := hL i (by omega)
    refine ⟨⟨s', t', u', ?_, ?_, ?_⟩, ?_, ?_⟩
    · show (if _ then _ else if _ then _ else if _ then _ else if _ then _ else _) = _
      rw [if_neg (by omega), if_neg (by omega), if_neg (by omega), if_neg (by omega)]; exact h1
    · show (if _ then _ else if _ then _ else if _ then _ else if _ then _ else _) = _
      rw [if_neg (by omega), if_neg (by omega), if_neg (by omega), if_neg (by omega)]; exact h2
    · show (if _ then _ else if _ then _ else if _ then _ else if _ then _ else _) = _
      rw [if_neg (by omega), if_neg (by omega), if_neg (by omega), if_neg (by omega)]; exact h3
    · show (if _ then _ else if _ then _ else if _ then _ else if _ then _ else _) = _
      rw [if_neg (by omega), if_neg (by omega), if_neg (by omega), if_neg (by omega)]
      simp only [hik, if_false]
      exact h4
    · simp only [hik, if_false]
      exact ((((h5.below (undrew hb1)).setCell (by show g < g + 1; omega) _).setCell (by show g < g + 1; omega) _).setCell (by show g < g + 1; omega) _).setCell (by show g < g + 1; omega) _

theorem Laid.groups {w : World} {g n : Nat} {f : Nat → Value} {MA : Nat → Option Addr} {MN MC : Nat → Nat} (h : Laid w g n n f MA MN MC) (k m : Nat) (hk : k + m ≤ n) :
    Groups w (g + 1) (some ⟨g, k * 4, none⟩) m (fun i => MA (k + i)) (fun i => MN (k + i)) (fun i => MC (k + i)) := by
  refine .inr ⟨g, k * 4, rfl, h.1.lt, fun i hi => ?_⟩
  obtain ⟨⟨s, t, u, h1, h2, h3⟩, h4, h5⟩ := h.2 (k + i) (by omega)
  have e : k * 4 + i * 4 = (k + i) * 4 := by omega
  rw [e]
  exact ⟨⟨s, t, u, by rw [h.1.cell (by omega), h1], by rw [h.1.cell (by omega), h2], by rw [h.1.cell (by omega), h3]⟩, by rw [h.1.cell (by omega), h4], h5⟩

theorem outs {w : World} {g n k : Nat} {t : TypeId} {f : Nat → Value} (h : w.rowIs g t (n * 4) f) (hk : k < n) :
    w.cell? ⟨g, k * 4, none⟩ = some (f (k * 4)) ∧ w.cell? ⟨g, k * 4 + 1, none⟩ = some (f (k * 4 + 1)) ∧ w.cell? ⟨g, k * 4 + 2, none⟩ = some (f (k * 4 + 2)) ∧ w.cell? ⟨g, k * 4 + 3, none⟩ = some (f (k * 4 + 3)) ∧
    w.frozen? ⟨g, k * 4, none⟩ = false ∧ w.frozen? ⟨g, k * 4 + 1, none⟩ = false ∧ w.frozen? ⟨g, k * 4 + 2, none⟩ = false ∧ w.frozen? ⟨g, k * 4 + 3, none⟩ = false :=
  ⟨h.cell (by omega), h.cell (by omega), h.cell (by omega), h.cell (by omega), h.frozen _, h.frozen _, h.frozen _, h.frozen _⟩

set_option maxHeartbeats 1000000 in
theorem groups_some (b off n cap : Nat) (MA : Nat → Option Addr) (MN MC : Nat → Nat) (w : World) (hn : (n : Int) ≤ 2000000) (hb : b < w.heap.size)
    (hN : ∀ i, i < n → ((MN i : Nat) : Int) ≤ 2000000) (h0 : ∀ i, i < n → MA i = none → MN i = 0)
    (hc : ∀ i, i < n → (∃ s t u : ByteArray, One w b (off + i * 4) s t u (.slice (MA i) (MN i) (MC i))) ∧ Pairs w 0 (MA i) (MN i)) :
    Calls Try.prog 8 #[.slice (some ⟨b, off, none⟩) n cap] w fun r w' => r = .returned (.slice (some ⟨w.heap.size, 0, none⟩) n n) ∧ Below w.heap.size w w' ∧
      ∃ f MA' MC', Laid w' w.heap.size n n f MA' MN MC' := by
  have hmk := run_make27 n hn
  have hq := fun (w : World) (a : Option Addr) (n c n' c' : Nat) => Lib.run_eql_slice_nil (P := Try.prog) w 23 34 a n c n' c' Try.underlying23
  go_enter Try.func8, Try.ntmps8
  go_wp2
  clear hq hmk
  go_loopg [4] n (fun g i wr => ∃ k : Nat, k + g = n ∧ i = .int .i64 k ∧ Below w.heap.size w wr ∧ ∃ f MA' MC', Laid wr w.heap.size n k f MA' MN MC')
  case atStart => exact ⟨0, Nat.zero_add _, rfl, ((Below.refl _ _).alloc (Nat.le_refl _) _), _, fun _ => none, fun _ => 0, made_rowG _ _, fun i hi => absurd hi (Nat.not_lt_zero _)⟩
  case round =>
    obtain ⟨k, hk0, rfl, hbel, f, MA', MC', hlaid⟩ := hrel
    have hk : k ≤ n := by omega
    have HK : Hid (k + gk = n) := hk0
    clear hk0
    have hsz := hbel.size
    have HL := hid hlaid
    clear hlaid
    by_cases hlt : k < n
    · obtain ⟨⟨s, t, u, hone0⟩, hP⟩ := hc k hlt
      have hone := hid (hone0.below hbel hb)
      have hNk := hN k hlt
      have A := hid (members_any (MA k) (MN k) (MC k) 0 wr.drew hNk (h0 k hlt) ((hP.below hbel).below (Below.refl _ _).drew))
      have hbr : b < wr.heap.size := by omega
      clear hc hN h0 hP hone0
      go_wp2
      go_region_held3 (fun w' => w'.cell? ⟨b, off + k * 4, none⟩ = some (.string s) ∧ w'.cell? ⟨b, off + k * 4 + 1, none⟩ = some (.string t) ∧ w'.cell? ⟨b, off + k * 4 + 2, none⟩ = some (.string u) ∧ w'.cell? ⟨b, off + k * 4 + 3, none⟩ = some (.slice (MA k) (MN k) (MC k)))
        (first | exact hone.out | (change One _ b (off + k * 4) s t u (.slice (MA k) (MN k) (MC k)); first | exact hone.out.below (undrew hb1) hbr | exact ((((hone.out.below (undrew hb1) hbr).setCell hb _).setCell hb _).setCell hb _).setCell hb _))
        (first | (go_at_call 11; refine A.out.mono ?_; rintro _ w1 ⟨a', c', rfl, hb1, hP1⟩; obtain ⟨e0, e1, e2, e3, f0, f1, f2, f3⟩ := outs (row_below HL.out.1 (undrew hb1) HL.out.1.lt) hlt))
      have R := hid (laid_step HL.out hb1 hP1 (c' := c') s t u)
      have hb2 : Below w.heap.size w w1 := hbel.trans ((undrew hb1).mono hsz)
      clear e0 e1 e2 e3 f0 f1 f2 f3 hb1 hP1 A hone
      rename_i hHeld
      clear hHeld
      go_wp2
      have hk1 := HK.out
      obtain ⟨f', hL'⟩ := R.out
      go_roundg (gk - 1)
      case measure => omega
      case rel => exact ⟨k + 1, by omega, by go_num, (((hb2.setCell (Nat.le_refl _) _).setCell (Nat.le_refl _) _).setCell (Nat.le_refl _) _).setCell (Nat.le_refl _) _, f', _, _, hL'⟩
    · clear hc hN h0
      obtain rfl : k = n := by omega
      go_wp2
      go_ret
      exact ⟨rfl, hbel, _, _, _, HL.out⟩

/-- zzGroups of a slice that is not nil -/
theorem groups_row (a : Addr) (n cap : Nat) (MA : Nat → Option Addr) (MN MC : Nat → Nat) (w : World) (hn : (n : Int) ≤ 2000000)
    (hN : ∀ i, i < n → ((MN i : Nat) : Int) ≤ 2000000) (h0 : ∀ i, i < n → MA i = none → MN i = 0) (hG : Groups w 0 (some a) n MA MN MC) :
    Calls Try.prog 8 #[.slice (some a) n cap] w fun r w' => r = .returned (.slice (some ⟨w.heap.size, 0, none⟩) n n) ∧ Below w.heap.size w w' ∧
      ∃ f MA' MC', Laid w' w.heap.size n n f MA' MN MC' := by
  rcases hG with rfl | ⟨b, off, hab, hlt, hc⟩
  · refine (groups_empty a cap w).mono ?_
    rintro _ w' ⟨rfl, hb, f, hf⟩
    exact ⟨rfl, hb, f, fun _ => none, fun _ => 0, hf, fun i hi => absurd hi (Nat.not_lt_zero _)⟩
  · cases hab
    exact groups_some b off n cap MA MN MC w hn hlt hN h0 fun i hi => by
      obtain ⟨⟨s, t, u, h1, h2, h3⟩, h4, h5⟩ := hc i hi
      exact ⟨⟨s, t, u, h1, h2, h3, h4⟩, h5⟩
end Go.Proofs.Qxb6630111a
