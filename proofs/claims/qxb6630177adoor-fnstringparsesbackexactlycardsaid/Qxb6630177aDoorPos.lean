/-
  Seat b6630177aD: ZZnewPosition, and the small functions: zzBytes, zzAscending, zzCountByte.
-/
import Derived.Test.Qxb6630177aDoorText
import Derived.Deep.OwnRows
import Derived.RegionTactic
import Derived.BigRegion
import Derived.Lib.SliceRun
namespace Go.Proofs.Qxb6630177aDoor
open Go.RowKit Go.Lib

theorem Tryd.info40 : (Tryd.prog.info? 40).map (fun i => (i.zero, i.size, i.bytes)) = some (some (.agg #[.int .u32 0, .int .u32 0, .int .u64 0]), 3, 16) := by kernel_rfl

/-- n numbers of kind k lie behind the address -/
def Ints (k : IntKind) (w : World) (ao : Option Addr) (n : Nat) (Z : Nat → Nat) : Prop :=
  n = 0 ∨ ∃ b off, ao = some ⟨b, off, none⟩ ∧ b < w.heap.size ∧ ∀ i, i < n → w.cell? ⟨b, off + i, none⟩ = some (.int k (Z i : Nat))
theorem Ints.below {k : IntKind} {w w' : World} {ao : Option Addr} {n : Nat} {Z : Nat → Nat} (h : Ints k w ao n Z) (hb : Below w.heap.size w w') : Ints k w' ao n Z := by
  rcases h with h | ⟨b, off, rfl, hlt, hc⟩
  · exact .inl h
  · exact .inr ⟨b, off, rfl, Nat.lt_of_lt_of_le hlt hb.size, fun i hi => (hb.cell (p := ⟨b, off + i, none⟩) hlt).trans (hc i hi)⟩

def zeroP (j : Nat) : Value := if j % 3 = 2 then .int .u64 0 else .int .u32 0
theorem made_rowP (n : Nat) (w : World) : (w.alloc (.cells (madeCells #[.int .u32 0, .int .u32 0, .int .u64 0] (n * 3)) 40)).rowIs w.heap.size 40 (n * 3) zeroP := by
  have := World.rowIs_alloc w (madeCells #[.int .u32 0, .int .u32 0, .int .u64 0] (n * 3)) 40 zeroP (by
    intro i hi
    rw [size_madeCells] at hi
    have h2 : i % 3 = 0 ∨ i % 3 = 1 ∨ i % 3 = 2 := by omega
    rcases h2 with h | h | h <;> simp [madeCells, zeroP, hi, h])
  rwa [size_madeCells] at this
theorem run_make26 (n : Nat) (hn : (n : Int) ≤ 65536) (w : World) :
    (Instr.makeSlice 26 (.int .i64 n) (.int .i64 n)).run Tryd.prog w = .ok (.slice (some ⟨w.heap.size, 0, none⟩) n n) (w.alloc (.cells (madeCells #[.int .u32 0, .int .u32 0, .int .u64 0] (n * 3)) 40)) := by
  obtain ⟨i0, hi, hz0, hz1, hz2⟩ := info_parts Tryd.info40
  have := run_make (P := Tryd.prog) w 26 40 i0 _ Tryd.underlying26 hi hz0 .i64 .i64 n n (by omega) (Int.le_refl _) (by rw [hz2]; omega) (by omega)
  simpa [hz1, Value.cells] using this

/-- the row in block g; its first k gtids are laid -/
def Laid (w : World) (g n k : Nat) (f : Nat → Value) (D S Q : Nat → Nat) : Prop :=
  w.rowIs g 40 (n * 3) f ∧ ∀ i, i < k → f (i * 3) = .int .u32 (D i : Nat) ∧ f (i * 3 + 1) = .int .u32 (S i : Nat) ∧ f (i * 3 + 2) = .int .u64 (Q i : Nat)
theorem laid_step {w : World} {g n k : Nat} {f : Nat → Value} {D S Q : Nat → Nat} (h : Laid w g n k f D S Q) :
    ∃ f', Laid (((w.setCell ⟨g, k * 3, none⟩ (.int .u32 (D k : Nat))).setCell ⟨g, k * 3 + 1, none⟩ (.int .u32 (S k : Nat))).setCell ⟨g, k * 3 + 2, none⟩ (.int .u64 (Q k : Nat))).drew g n (k + 1) f' D S Q := by
  obtain ⟨hr, hL⟩ := h
  refine ⟨_, (((hr.set (k * 3) _).set (k * 3 + 1) _).set (k * 3 + 2) _).drew, fun i hi => ?_⟩
  by_cases hik : i = k
  · subst hik
    refine ⟨?_, ?_, ?_⟩
    · show (if _ then _ else if _ then _ else if _ then _ else _) = _
      rw [if_neg (by omega), if_neg (by omega), if_pos rfl]
    · show (if _ then _ else if _ then _ else if _ then _ else _) = _
      rw [if_neg (by omega), if_pos rfl]
    · show (if _ then _ else if _ then _ else if _ then _ else _) = _
      rw [if_pos rfl]
  · obtain ⟨h1, h2, h3⟩ := hL i (by omega)
    refine ⟨?_, ?_, ?_⟩
    · show (if _ then _ else if _ then _ else if _ then _ else _) = _
      rw [if_neg (by omega), if_neg (by omega), if_neg (by omega)]; exact h1
    · show (if _ then _ else if _ then _ else if _ then _ else _) = _
      rw [if_neg (by omega), if_neg (by omega), if_neg (by omega)]; exact h2
    · show (if _ then _ else if _ then _ else if _ then _ else _) = _
      rw [if_neg (by omega), if_neg (by omega), if_neg (by omega)]; exact h3
theorem Laid.gtids {w : World} {g n : Nat} {f : Nat → Value} {D S Q : Nat → Nat} (h : Laid w g n n f D S Q) : Gtids w (some ⟨g, 0, none⟩) n D S Q := by
  refine .inr ⟨g, 0, rfl, h.1.lt, fun i hi => ?_⟩
  obtain ⟨h1, h2, h3⟩ := h.2 i hi
  rw [Nat.zero_add]
  exact ⟨by rw [h.1.cell (by omega), h1], by rw [h.1.cell (by omega), h2], by rw [h.1.cell (by omega), h3]⟩

theorem outs3 {w : World} {g n k : Nat} {t : TypeId} {f : Nat → Value} (h : w.rowIs g t (n * 3) f) (hk : k < n) :
    w.cell? ⟨g, k * 3, none⟩ = some (f (k * 3)) ∧ w.cell? ⟨g, k * 3 + 1, none⟩ = some (f (k * 3 + 1)) ∧ w.cell? ⟨g, k * 3 + 2, none⟩ = some (f (k * 3 + 2)) ∧
    w.frozen? ⟨g, k * 3, none⟩ = false ∧ w.frozen? ⟨g, k * 3 + 1, none⟩ = false ∧ w.frozen? ⟨g, k * 3 + 2, none⟩ = false :=
  ⟨h.cell (by omega), h.cell (by omega), h.cell (by omega), h.frozen _, h.frozen _, h.frozen _⟩

set_option maxHeartbeats 1000000 in
theorem newpos_empty (a1 a2 a3 : Option Addr) (c1 c2 c3 : Nat) (w : World) :
    Calls Tryd.prog 7 #[.slice a1 0 c1, .slice a2 0 c2, .slice a3 0 c3] w fun e w' => e = .returned (.agg #[.slice (some ⟨w.heap.size + 1, 0, none⟩) 0 0]) ∧ Below w.heap.size w w' := by
  have hmk : ∀ w : World, (Instr.makeSlice 26 (.int .i64 0) (.int .i64 0)).run Tryd.prog w = .ok (.slice (some ⟨w.heap.size, 0, none⟩) 0 0) (w.alloc (.cells (madeCells #[.int .u32 0, .int .u32 0, .int .u64 0] (0 * 3)) 40)) := fun w => run_make26 0 (by omega) w
  go_enter Tryd.func7, Tryd.ntmps7
  go_wp2
  clear hmk
  refine wp_loop_rounds 1 ?_; rw [rounds_succ]; go_wp2
  refine bodyPost_ret (v := .agg #[.slice (some ⟨w.heap.size + 1, 0, none⟩) 0 0]) (by simp [results, Tryd.results7, go_sem]) rfl ⟨rfl, ?_⟩
  first | exact ((Below.refl _ _).alloc (Nat.le_refl _) _).alloc (by simp) _ | exact (((Below.refl _ _).alloc (Nat.le_refl _) _).alloc (by simp) _).setCell (Nat.le_refl _) _

theorem res_row (w : World) (o : Obj) : ((w.alloc (.cells #[.slice none 0 0] 28)).alloc o).rowIs w.heap.size 28 1 (fun _ => .slice none 0 0) := by
  refine (World.rowIs_alloc w #[.slice none 0 0] 28 (fun _ => .slice none 0 0) ?_).alloc o
  intro i hi
  have : i = 0 := by simp at hi; omega
  subst this
  rfl

set_option maxHeartbeats 1000000 in
theorem newpos_some (b1 o1 c1 b2 o2 c2 b3 o3 c3 n : Nat) (D S Q : Nat → Nat) (w : World) (hn : (n : Int) ≤ 65536) (h1 : b1 < w.heap.size) (h2 : b2 < w.heap.size) (h3 : b3 < w.heap.size)
    (hD : ∀ i, i < n → w.cell? ⟨b1, o1 + i, none⟩ = some (.int .u32 (D i : Nat))) (hS : ∀ i, i < n → w.cell? ⟨b2, o2 + i, none⟩ = some (.int .u32 (S i : Nat))) (hQ : ∀ i, i < n → w.cell? ⟨b3, o3 + i, none⟩ = some (.int .u64 (Q i : Nat))) :
    Calls Tryd.prog 7 #[.slice (some ⟨b1, o1, none⟩) n c1, .slice (some ⟨b2, o2, none⟩) n c2, .slice (some ⟨b3, o3, none⟩) n c3] w fun e w' =>
      e = .returned (.agg #[.slice (some ⟨w.heap.size + 1, 0, none⟩) n n]) ∧ Below w.heap.size w w' ∧ Gtids w' (some ⟨w.heap.size + 1, 0, none⟩) n D S Q := by
  have hmk := run_make26 n hn
  have HD := Lib.hid (And.intro hD (And.intro hS hQ))
  clear hD hS hQ
  go_enter Tryd.func7, Tryd.ntmps7
  go_wp2
  clear hmk
  go_loopg [14] n (fun g i wr => ∃ k : Nat, k + g = n ∧ i = .int .i64 k ∧ Below w.heap.size w wr ∧ wr.rowIs w.heap.size 28 1 (fun _ => .slice none 0 0) ∧ ∃ f, Laid wr (w.heap.size + 1) n k f D S Q)
  case atStart => exact ⟨0, Nat.zero_add _, rfl, ((Below.refl _ _).alloc (Nat.le_refl _) _).alloc (by simp) _, res_row w _, zeroP, by simpa using made_rowP n (w.alloc (.cells #[.slice none 0 0] 28)), fun i hi => absurd hi (Nat.not_lt_zero _)⟩
  case round =>
    obtain ⟨k, hk0, rfl, hbel, hres, f, hlaid⟩ := hrel
    have HR := Lib.hid hres
    have hk : k ≤ n := by omega
    have HK := Lib.hid hk0
    have HL := Lib.hid hlaid
    clear hk0 hlaid hres
    have hsz := hbel.size
    by_cases hlt : k < n
    · have d0 := (hbel.cell (p := ⟨b1, o1 + k, none⟩) h1).trans (HD.out.1 k hlt)
      have d1 := (hbel.cell (p := ⟨b2, o2 + k, none⟩) h2).trans (HD.out.2.1 k hlt)
      have d2 := (hbel.cell (p := ⟨b3, o3 + k, none⟩) h3).trans (HD.out.2.2 k hlt)
      obtain ⟨e0, e1, e2, f0, f1, f2⟩ := outs3 HL.out.1 hlt
      go_wp2
      go_region
      all_goals
        go_wp2
        have hk1 := HK.out
        obtain ⟨f', hL'⟩ := laid_step HL.out
        go_roundg (gk - 1)
        case measure => omega
        case rel => exact ⟨k + 1, by omega, by go_num, (((hbel.setCell (Nat.le_succ _) _).setCell (Nat.le_succ _) _).setCell (Nat.le_succ _) _).drew, (((HR.out.setOther (by show w.heap.size ≠ w.heap.size + 1; omega) _).setOther (by show w.heap.size ≠ w.heap.size + 1; omega) _).setOther (by show w.heap.size ≠ w.heap.size + 1; omega) _).drew, f', hL'⟩
    · obtain rfl : k = n := by omega
      have r0 : wr.cell? ⟨w.heap.size, 0, none⟩ = some (.slice none 0 0) := HR.out.cell (by omega)
      have r1 : wr.frozen? ⟨w.heap.size, 0, none⟩ = false := HR.out.frozen _
      have r2 : (wr.setCell ⟨w.heap.size, 0, none⟩ (.slice (some ⟨w.heap.size + 1, 0, none⟩) k k)).cell? ⟨w.heap.size, 0, none⟩ = some (.slice (some ⟨w.heap.size + 1, 0, none⟩) k k) := World.cell?_setCell_same _ _ _ r0
      go_wp2
      refine bodyPost_ret (v := .agg #[.slice (some ⟨w.heap.size + 1, 0, none⟩) k k]) (by simp [results, Tryd.results7, go_sem, r2]) rfl ⟨rfl, hbel.setCell (Nat.le_refl _) _, ?_⟩
      have hL : Laid (wr.setCell ⟨w.heap.size, 0, none⟩ (.slice (some ⟨w.heap.size + 1, 0, none⟩) k k)) (w.heap.size + 1) k k f D S Q := ⟨HL.out.1.setOther (by show w.heap.size + 1 ≠ w.heap.size; omega) _, HL.out.2⟩
      exact hL.gtids

/-- ZZnewPosition: the gtids in a row of their own -/
theorem newpos_any (a1 a2 a3 : Option Addr) (c1 c2 c3 n : Nat) (D S Q : Nat → Nat) (w : World) (hn : (n : Int) ≤ 65536) (h1 : Ints .u32 w a1 n D) (h2 : Ints .u32 w a2 n S) (h3 : Ints .u64 w a3 n Q) :
    Calls Tryd.prog 7 #[.slice a1 n c1, .slice a2 n c2, .slice a3 n c3] w fun e w' =>
      e = .returned (.agg #[.slice (some ⟨w.heap.size + 1, 0, none⟩) n n]) ∧ Below w.heap.size w w' ∧ Gtids w' (some ⟨w.heap.size + 1, 0, none⟩) n D S Q := by
  by_cases h0 : n = 0
  · subst h0
    refine (newpos_empty a1 a2 a3 c1 c2 c3 w).mono ?_
    rintro _ w' ⟨rfl, hb⟩
    exact ⟨rfl, hb, .inl rfl⟩
  · rcases h1 with h | ⟨b1, o1, rfl, l1, hD⟩
    · exact absurd h h0
    rcases h2 with h | ⟨b2, o2, rfl, l2, hS⟩
    · exact absurd h h0
    rcases h3 with h | ⟨b3, o3, rfl, l3, hQ⟩
    · exact absurd h h0
    exact newpos_some b1 o1 c1 b2 o2 c2 b3 o3 c3 n D S Q w hn l1 l2 l3 hD hS hQ

/-- it returns a bool; nothing old has turned -/
def Calm (w : World) (r : Ending) (w' : World) : Prop := ∃ b, r = .returned (.bool b) ∧ Below w.heap.size w w'

theorem bytes11 (a1 a2 a3 : Option Addr) (c1 c2 c3 n : Nat) (q : Int) (w : World) (hn : (n : Int) ≤ 65536) :
    Calls Tryd.prog 11 #[.slice a1 n c1, .slice a2 n c2, .slice a3 n c3, .int .i64 q] w fun e w' => e = .returned (.bool true) ∧ w = w' := by
  go_enter Tryd.func11, Tryd.ntmps11
  go_wp2
  go_ret
  exact ⟨rfl, rfl⟩
theorem bytes5 (a1 a2 a3 : Option Addr) (c1 c2 c3 n : Nat) (w : World) (hn : (n : Int) ≤ 65536) :
    Calls Tryd.prog 5 #[.slice a1 n c1, .slice a2 n c2, .slice a3 n c3] w fun e w' => e = .returned (.bool true) ∧ w = w' := by
  go_enter Tryd.func5, Tryd.ntmps5
  go_wp2
  go_ret
  exact ⟨rfl, rfl⟩

set_option maxHeartbeats 400000 in
theorem asc6 (ao : Option Addr) (c n : Nat) (D : Nat → Nat) (w : World) (hn : (n : Int) ≤ 65536) (h : Ints .u32 w ao n D) :
    Calls Tryd.prog 6 #[.slice ao n c] w fun e w' => Calm w e w' := by
  have HI := Lib.hid h
  clear h
  go_enter Tryd.func6, Tryd.ntmps6
  go_wp2
  go_loopg [3] n (fun g i wr => ∃ k : Nat, 1 ≤ k ∧ (k + g = n + 1 ∨ n < k) ∧ i = .int .i64 k ∧ k ≤ 65537 ∧ Below w.heap.size w wr)
  case atStart => exact ⟨1, Nat.le_refl _, by omega, rfl, by omega, Below.refl _ _⟩
  case round =>
    obtain ⟨k, hk1, hk2, rfl, hk3, hbel⟩ := hrel
    have HK := Lib.hid hk2
    clear hk2
    by_cases hlt : k < n
    · rcases HI.out with h | ⟨b, off, rfl, hb, hc⟩
      · omega
      have d0 := (hbel.cell (p := ⟨b, off + (k - 1), none⟩) hb).trans (hc (k - 1) (by omega))
      have d1 := (hbel.cell (p := ⟨b, off + k, none⟩) hb).trans (hc k hlt)
      clear hc
      go_wp2
      go_region
      all_goals go_wp2
      all_goals first | (go_ret; exact ⟨false, rfl, hbel.drew⟩) | skip
      all_goals
        have := HK.out
        go_roundg (gk - 1)
        case measure => omega
        case rel => exact ⟨k + 1, by omega, by omega, by go_num, by omega, hbel.drew⟩
    · go_wp2
      go_ret
      exact ⟨true, rfl, hbel⟩

theorem ret_int {k : IntKind} {a b : Int} (h : a = b) : Ending.returned (.int k a) = .returned (.int k b) := by rw [h]
theorem ret_bool {a b : Bool} (h : a = b) : Ending.returned (.bool a) = .returned (.bool b) := by rw [h]
theorem count_snoc (l : List UInt8) (a c : UInt8) : (l ++ [a]).count c = l.count c + if (a.toNat : Int) = (c.toNat : Int) then 1 else 0 := by
  rw [List.count_append]
  by_cases h : a = c
  · subst h; simp
  · have h' : ¬ ((a.toNat : Int) = (c.toNat : Int)) := fun e => h (UInt8.toNat_inj.1 (by omega))
    rw [if_neg h']
    simp [h]
theorem take_snoc (s : ByteArray) (k : Nat) (h : k < s.size) : s.data.toList.take (k + 1) = s.data.toList.take k ++ [s[k]] := by
  rw [List.take_succ_eq_append_getElem (by simpa using h)]; rfl

set_option maxHeartbeats 400000 in
theorem count12 (s : ByteArray) (c : UInt8) (w : World) (hs : (s.size : Int) ≤ 9223372036854775800) :
    Calls Tryd.prog 12 #[.string s, .int .u8 (c.toNat : Int)] w fun e w' => e = .returned (.int .i64 (s.data.toList.count c : Nat)) ∧ w = w' := by
  go_enter Tryd.func12, Tryd.ntmps12
  go_wp2
  go_loopg [5, 6] s.size (fun g v i wr => ∃ k : Nat, k + g = s.size ∧ i = .int .i64 k ∧ v = .int .i64 ((s.data.toList.take k).count c : Nat) ∧ w = wr)
  case atStart => exact ⟨0, Nat.zero_add _, rfl, rfl, rfl⟩
  case round =>
    obtain ⟨k, hk0, rfl, rfl, rfl⟩ := hrel
    have hk : k ≤ s.size := by omega
    have HK := Lib.hid hk0
    clear hk0
    have hcl : ((s.data.toList.take k).count c : Nat) ≤ k := Nat.le_trans List.count_le_length (List.length_take_le _ _)
    by_cases hlt : k < s.size
    · have HS := Lib.hid (show (s.data.toList.take (k + 1)).count c = (s.data.toList.take k).count c + if (s[k].toNat : Int) = (c.toNat : Int) then 1 else 0 by rw [take_snoc s k hlt]; exact count_snoc _ _ _)
      obtain ⟨m, hm⟩ : ∃ m, m = (s.data.toList.take k).count c := ⟨_, rfl⟩
      rw [← hm] at hcl HS ⊢
      have HM := Lib.hid hm
      clear hm
      go_wp2
      · have hq : ((s[k].toNat : Int) == (c.toNat : Int)) = true := by assumption
        have he : (s[k].toNat : Int) = (c.toNat : Int) := by simpa using hq
        have hs1 := HS.out
        rw [if_pos he] at hs1
        have hk1 := HK.out
        go_roundg (gk - 1)
        case measure => omega
        case rel => exact ⟨k + 1, by omega, by go_num, by rw [hs1]; go_num, rfl⟩
      · have hq : ((s[k].toNat : Int) == (c.toNat : Int)) = false := by assumption
        have he : ¬ (s[k].toNat : Int) = (c.toNat : Int) := by simpa using hq
        have hs1 := HS.out
        rw [if_neg he] at hs1
        have hk1 := HK.out
        go_roundg (gk - 1)
        case measure => omega
        case rel => exact ⟨k + 1, by omega, by go_num, by rw [hs1]; go_num, rfl⟩
    · obtain ⟨m, hm⟩ : ∃ m, m = (s.data.toList.take k).count c := ⟨_, rfl⟩
      rw [← hm] at hcl ⊢
      have HM := Lib.hid hm
      clear hm
      go_wp2
      go_ret
      have hm := HM.out
      rw [List.take_of_length_le (by show s.size ≤ k; omega)] at hm
      exact ⟨ret_int (by rw [hm]), rfl⟩
end Go.Proofs.Qxb6630177aDoor
