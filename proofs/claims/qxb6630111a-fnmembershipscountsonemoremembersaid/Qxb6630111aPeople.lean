import Derived.Test.Qxb6630111aMembers
namespace Go.Proofs.Qxb6630111a
open Go.RowKit

theorem Try.info54 : (Try.prog.info? 54).map (fun i => (i.zero, i.size, i.bytes)) = some (some (.agg #[.string ByteArray.empty, .string ByteArray.empty, .slice none 0 0]), 3, 56) := by kernel_rfl
theorem Try.info52 : (Try.prog.info? 52).map (fun i => (i.zero, i.size, i.bytes)) = some (some (.agg #[.string ByteArray.empty, .string ByteArray.empty]), 2, 32) := by kernel_rfl

def zeroP (j : Nat) : Value := if j % 3 = 2 then .slice none 0 0 else .string ByteArray.empty
theorem made_rowP (n : Nat) (w : World) : (w.alloc (.cells (madeCells #[.string ByteArray.empty, .string ByteArray.empty, .slice none 0 0] (n * 3)) 54)).rowIs w.heap.size 54 (n * 3) zeroP := by
  have := World.rowIs_alloc w (madeCells #[.string ByteArray.empty, .string ByteArray.empty, .slice none 0 0] (n * 3)) 54 zeroP (by
    intro i hi
    rw [size_madeCells] at hi
    have h2 : i % 3 = 0 ∨ i % 3 = 1 ∨ i % 3 = 2 := by omega
    rcases h2 with h | h | h <;> simp [madeCells, zeroP, hi, h])
  rwa [size_madeCells] at this

theorem run_make25 (n : Nat) (hn : (n : Int) ≤ 2000000) (w : World) :
    (Instr.makeSlice 25 (.int .i64 n) (.int .i64 n)).run Try.prog w = .ok (.slice (some ⟨w.heap.size, 0, none⟩) n n) (w.alloc (.cells (madeCells #[.string ByteArray.empty, .string ByteArray.empty, .slice none 0 0] (n * 3)) 54)) := by
  obtain ⟨i0, hi, hz0, hz1, hz2⟩ := info_parts Try.info54
  have := run_make (P := Try.prog) w 25 54 i0 _ Try.underlying25 hi hz0 .i64 .i64 n n (by omega) (Int.le_refl _) (by rw [hz2]; omega) (by omega)
  simpa [hz1, Value.cells] using this
theorem run_make50 (n : Nat) (hn : (n : Int) ≤ 2000000) (w : World) :
    (Instr.makeSlice 50 (.int .i64 n) (.int .i64 n)).run Try.prog w = .ok (.slice (some ⟨w.heap.size, 0, none⟩) n n) (w.alloc (.cells (madeCells #[.string ByteArray.empty, .string ByteArray.empty] (n * 2)) 52)) := by
  obtain ⟨i0, hi, hz0, hz1, hz2⟩ := info_parts Try.info52
  have := run_make (P := Try.prog) w 50 52 i0 _ Try.underlying50 hi hz0 .i64 .i64 n n (by omega) (Int.le_refl _) (by rw [hz2]; omega) (by omega)
  simpa [hz1, Value.cells] using this

theorem people_nil (w : World) (cap : Nat) :
    Calls Try.prog 7 #[.slice none 0 cap] w fun r w' => r = .returned (.slice none 0 0) ∧ w = w' := by
  have hq := fun (w : World) (a : Option Addr) (n c n' c' : Nat) => Lib.run_eql_slice_nil (P := Try.prog) w 22 45 a n c n' c' Try.underlying22
  go_enter Try.func7, Try.ntmps7
  go_wp2
  go_ret
  exact ⟨rfl, rfl⟩

set_option maxHeartbeats 400000 in
theorem people_empty (a : Addr) (cap : Nat) (w : World) :
    Calls Try.prog 7 #[.slice (some a) 0 cap] w fun r w' => r = .returned (.slice (some ⟨w.heap.size, 0, none⟩) 0 0) ∧ Below w.heap.size w w' := by
  have hmk : ∀ w : World, (Instr.makeSlice 25 (.int .i64 0) (.int .i64 0)).run Try.prog w = .ok (.slice (some ⟨w.heap.size, 0, none⟩) 0 0) (w.alloc (.cells (madeCells #[.string ByteArray.empty, .string ByteArray.empty, .slice none 0 0] (0 * 3)) 54)) := fun w => run_make25 0 (by omega) w
  have hq := fun (w : World) (a : Option Addr) (n c n' c' : Nat) => Lib.run_eql_slice_nil (P := Try.prog) w 22 45 a n c n' c' Try.underlying22
  go_enter Try.func7, Try.ntmps7
  go_wp2
  clear hq hmk
  refine wp_loop_rounds 1 ?_; rw [rounds_succ]; go_wp2
  go_ret
  exact ⟨rfl, ((Below.refl _ _).alloc (Nat.le_refl _) _)⟩

theorem outs3 {w : World} {g n k : Nat} {t : TypeId} {f : Nat → Value} (h : w.rowIs g t (n * 3) f) (hk : k < n) :
    w.cell? ⟨g, k * 3, none⟩ = some (f (k * 3)) ∧ w.cell? ⟨g, k * 3 + 1, none⟩ = some (f (k * 3 + 1)) ∧ w.cell? ⟨g, k * 3 + 2, none⟩ = some (f (k * 3 + 2)) ∧
    w.frozen? ⟨g, k * 3, none⟩ = false ∧ w.frozen? ⟨g, k * 3 + 1, none⟩ = false ∧ w.frozen? ⟨g, k * 3 + 2, none⟩ = false :=
  ⟨h.cell (by omega), h.cell (by omega), h.cell (by omega), h.frozen _, h.frozen _, h.frozen _⟩
theorem outs2 {w : World} {g n k : Nat} {t : TypeId} {f : Nat → Value} (h : w.rowIs g t (n * 2) f) (hk : k < n) :
    w.cell? ⟨g, k * 2, none⟩ = some (f (k * 2)) ∧ w.cell? ⟨g, k * 2 + 1, none⟩ = some (f (k * 2 + 1)) ∧
    w.frozen? ⟨g, k * 2, none⟩ = false ∧ w.frozen? ⟨g, k * 2 + 1, none⟩ = false :=
  ⟨h.cell (by omega), h.cell (by omega), h.frozen _, h.frozen _⟩
/-- block g is a row of m cells, whatever they hold -/
def Row (w : World) (g : Nat) (t : TypeId) (m : Nat) : Prop := ∃ f, w.rowIs g t m f
theorem Row.set {w : World} {g m : Nat} {t : TypeId} (h : Row w g t m) (i : Nat) (v : Value) : Row (w.setCell ⟨g, i, none⟩ v) g t m := by
  obtain ⟨f, h⟩ := h
  exact ⟨_, h.set i v⟩
theorem Row.other {w : World} {g m : Nat} {t : TypeId} (h : Row w g t m) {a : Addr} (ha : g ≠ a.block) (v : Value) : Row (w.setCell a v) g t m := by
  obtain ⟨f, h⟩ := h
  exact ⟨_, h.setOther ha v⟩
theorem Row.drew {w : World} {g m : Nat} {t : TypeId} (h : Row w g t m) : Row w.drew g t m := by
  obtain ⟨f, h⟩ := h
  exact ⟨_, h.drew⟩
theorem Row.alloc {w : World} {g m : Nat} {t : TypeId} (h : Row w g t m) (o : Obj) : Row (w.alloc o) g t m := by
  obtain ⟨f, h⟩ := h
  exact ⟨_, h.alloc o⟩
theorem Row.lt {w : World} {g m : Nat} {t : TypeId} (h : Row w g t m) : g < w.heap.size := by
  obtain ⟨f, h⟩ := h
  exact h.lt

set_option maxHeartbeats 2000000 in
theorem people_some (b off n cap : Nat) (EA : Nat → Option Addr) (EN EC : Nat → Nat) (w : World) (hn : (n : Int) ≤ 2000000) (hb : b < w.heap.size)
    (hN : ∀ i, i < n → ((EN i : Nat) : Int) ≤ 2000000) (h0 : ∀ i, i < n → EA i = none → EN i = 0)
    (hc : ∀ i, i < n → (∃ s t : ByteArray, w.cell? ⟨b, off + i * 3, none⟩ = some (.string s) ∧ w.cell? ⟨b, off + i * 3 + 1, none⟩ = some (.string t)) ∧
      w.cell? ⟨b, off + i * 3 + 2, none⟩ = some (.slice (EA i) (EN i) (EC i)) ∧ Pairs w 0 (EA i) (EN i)) :
    Calls Try.prog 7 #[.slice (some ⟨b, off, none⟩) n cap] w fun r w' => r = .returned (.slice (some ⟨w.heap.size, 0, none⟩) n n) ∧ Below w.heap.size w w' := by
  have hmk := run_make25 n hn
  have hq := fun (w : World) (a : Option Addr) (n c n' c' : Nat) => Lib.run_eql_slice_nil (P := Try.prog) w 22 45 a n c n' c' Try.underlying22
  have hq2 := fun (w : World) (a : Option Addr) (n c n' c' : Nat) => run_neq_slice_nil_any (P := Try.prog) w 43 47 a n c n' c' Try.underlying43
  go_enter Try.func7, Try.ntmps7
  go_wp2
  clear hq hmk
  go_loopg [4] n (fun g i wr => ∃ k : Nat, k + g = n ∧ i = .int .i64 k ∧ Below w.heap.size w wr ∧ Row wr w.heap.size 54 (n * 3))
  case atStart => exact ⟨0, Nat.zero_add _, rfl, ((Below.refl _ _).alloc (Nat.le_refl _) _), _, made_rowP _ _⟩
  case round =>
    obtain ⟨k, hk0, rfl, hbel, hrow⟩ := hrel
    have hk : k ≤ n := by omega
    have HK : Hid (k + gk = n) := hk0
    clear hk0
    have hsz := hbel.size
    have HL := hid hrow
    clear hrow
    by_cases hlt : k < n
    · obtain ⟨⟨s, t, c0, c1⟩, c2, hP⟩ := hc k hlt
      have d0 := (hbel.cell (p := ⟨b, off + k * 3, none⟩) hb).trans c0
      have d1 := (hbel.cell (p := ⟨b, off + k * 3 + 1, none⟩) hb).trans c1
      have d2 := (hbel.cell (p := ⟨b, off + k * 3 + 2, none⟩) hb).trans c2
      have hNk := hN k hlt
      have h0k := h0 k hlt
      have HP := hid (hP.below hbel)
      clear hc hN h0 hP c0 c1 c2
      obtain ⟨m, hm⟩ : ∃ m, EN k = m := ⟨_, rfl⟩
      obtain ⟨ec, hec⟩ : ∃ m, EC k = m := ⟨_, rfl⟩
      obtain ⟨ea, hea⟩ : ∃ m, EA k = m := ⟨_, rfl⟩
      rw [hm] at hNk h0k HP
      rw [hea] at h0k HP
      rw [hm, hec, hea] at d2
      clear hm hec hea
      rcases ea with _ | a
      · obtain rfl := h0k rfl
        clear h0k HP hNk
        obtain ⟨f, hf⟩ := HL.out
        obtain ⟨e0, e1, e2, f0, f1, f2⟩ := outs3 hf hlt
        clear hf
        go_wp2
        go_region
        all_goals
          go_wp2
          have hk1 := HK.out
          go_roundg (gk - 1)
          case measure => omega
          case rel => exact ⟨k + 1, by omega, by go_num, (((hbel.setCell (Nat.le_refl _) _).setCell (Nat.le_refl _) _).setCell (Nat.le_refl _) _).drew, (((HL.out.set _ _).set _ _).set _ _).drew⟩
      · have hmk := run_make50 m hNk
        go_wp2
        clear hmk hq2
        rename World => w0
        have hw0 : w.heap.size < w0.heap.size := HL.out.lt
        have hb0' : b < w0.heap.size := by omega
        go_loopg [7] m (fun g i wq => ∃ j : Nat, j + g = m ∧ i = .int .i64 j ∧ Below w.heap.size w wq ∧ Below w0.heap.size w0 wq ∧ Row wq w.heap.size 54 (n * 3) ∧ Row wq w0.heap.size 52 (m * 2))
        case atStart => exact ⟨0, Nat.zero_add _, rfl, hbel.alloc hsz _, (Below.refl _ _).alloc (Nat.le_refl _) _, HL.out.alloc _, _, made_rowS 52 (fun _ => ByteArray.empty) (fun _ => ByteArray.empty) _ _⟩
        case round =>
          obtain ⟨j, hj0, rfl, hbw, hb0, hr54, hr52⟩ := hrel
          have hj : j ≤ m := by omega
          have HJ := hid hj0
          clear hj0
          by_cases hjm : j < m
          · rcases HP.out.fns with h | ⟨pb, po, F, T, hab, _, hplt, hpc⟩
            · omega
            cases hab
            have c0 := (hb0.cell (p := ⟨pb, po + j * 2, none⟩) hplt).trans (hpc j hjm).1
            have c1 := (hb0.cell (p := ⟨pb, po + j * 2 + 1, none⟩) hplt).trans (hpc j hjm).2
            obtain ⟨f, hf⟩ := id hr52
            obtain ⟨e0, e1, f0, f1⟩ := outs2 hf hjm
            have H54 := hid hr54
            have H52 := hid hr52
            clear hf hpc hr54 hr52 d0 d1 d2
            go_wp2
            go_region
            all_goals
              go_wp2
              have hj1 := HJ.out
              go_roundg (gk - 1)
              case measure => omega
              case rel => exact ⟨j + 1, by omega, by go_num, ((hbw.setCell hsz _).setCell hsz _).drew, ((hb0.setCell (Nat.le_refl _) _).setCell (Nat.le_refl _) _).drew, ((H54.out.other (by show w.heap.size ≠ w0.heap.size; omega) _).other (by show w.heap.size ≠ w0.heap.size; omega) _).drew, ((H52.out.set _ _).set _ _).drew⟩
          · have x0 := (hb0.cell (p := ⟨b, off + k * 3, none⟩) hb0').trans d0
            have x1 := (hb0.cell (p := ⟨b, off + k * 3 + 1, none⟩) hb0').trans d1
            obtain ⟨f, hf⟩ := id hr54
            obtain ⟨e0, e1, e2, f0, f1, f2⟩ := outs3 hf hlt
            have H54 := hid hr54
            clear hf hr54 hr52 d0 d1 d2 HP
            go_wp2
            go_region
            all_goals
              go_wp2
              have hk1 := HK.out
              go_roundg (n - k - 1)
              case measure => omega
              case rel => exact ⟨k + 1, by omega, by go_num, (((hbw.setCell (Nat.le_refl _) _).setCell (Nat.le_refl _) _).setCell (Nat.le_refl _) _).drew, (((H54.out.set _ _).set _ _).set _ _).drew⟩
    · clear hc hN h0
      obtain rfl : k = n := by omega
      go_wp2
      go_ret
      exact ⟨rfl, hbel⟩

/-- zzPeople: some slice; nothing old has turned -/
theorem people_any (ao : Option Addr) (n cap : Nat) (EA : Nat → Option Addr) (EN EC : Nat → Nat) (w : World) (hn : (n : Int) ≤ 2000000)
    (hN : ∀ i, i < n → ((EN i : Nat) : Int) ≤ 2000000) (h0 : ∀ i, i < n → EA i = none → EN i = 0) (hz : ao = none → n = 0) (hP : People w ao n EA EN EC) :
    Calls Try.prog 7 #[.slice ao n cap] w fun r w' => ∃ a' n' c', r = .returned (.slice a' n' c') ∧ Below w.heap.size w w' := by
  rcases ao with _ | a
  · obtain rfl := hz rfl
    refine (people_nil w cap).mono ?_
    rintro _ _ ⟨rfl, rfl⟩
    exact ⟨_, _, _, rfl, Below.refl _ _⟩
  · rcases hP with rfl | ⟨b, off, hab, hlt, hc⟩
    · refine (people_empty a cap w).mono ?_
      rintro _ w' ⟨rfl, hb⟩
      exact ⟨_, _, _, rfl, hb⟩
    · cases hab
      refine (people_some b off n cap EA EN EC w hn hlt hN h0 hc).mono ?_
      rintro _ w' ⟨rfl, hb⟩
      exact ⟨_, _, _, rfl, hb⟩
end Go.Proofs.Qxb6630111a
