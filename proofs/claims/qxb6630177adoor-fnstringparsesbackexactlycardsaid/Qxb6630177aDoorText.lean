/-
  Seat b6630177aD: (Position).String writes the text.
-/
import Derived.Test.Qxb6630177aDoorShelf
import Derived.Test.Qxb6630177aDoorPlain
import Derived.Lib.AppendIntMem
import Derived.Lib.Slices
import Derived.Lib.Hide
import Derived.Lib.OwnKind
import Derived.Lib.OthersKept
import Derived.Laws.IdiomStrings
import Derived.OwnWalk
import Derived.WalkKit
import Derived.ProofKit
import Derived.WalkSpells
import Derived.WalkSmall
import Derived.BigCall
import Derived.Deep.LoopGhost
namespace Go.Proofs.Qxb6630177aDoor
open Go.RowKit Go.Lib
set_option linter.unusedSimpArgs false

theorem Tryd.info5 : (Tryd.prog.info? 5).map (fun i => (i.zero, i.size, i.bytes)) = some (some (.int .u8 0), 1, 1) := by kernel_rfl

/-- the buffer so far: v owns the bytes l; nothing below B has turned since w0; of wg every block that is no row of bytes stands -/
structure Buf (B : Nat) (w0 wg : World) (l : List UInt8) (v : Value) (w : World) : Prop where
  own : w.ownsRow B 5 1 v l.length (byteCells l)
  bel : Below B w0 w
  kept : OthersKept 5 none wg w

/-- a byte is appended -/
theorem Buf.byte {B : Nat} {w0 wg w w' : World} {l : List UInt8} {v v' : Value} (c : UInt8) {x : Int} (hx : x = c.toNat) (h : Buf B w0 wg l v w) (hB : B ≤ w0.heap.size) {o : Obj}
    (hown : w'.ownsRow B 5 1 v' (l.length + 1) (byteCells l ++ [.int .u8 x])) (hg : (w.alloc o).grownBy w' v.ownBlock) : Buf B w0 wg (l ++ [c]) v' w' := by
  subst hx
  have hBw : B ≤ w.heap.size := Nat.le_trans hB h.bel.size
  refine ⟨?_, (h.bel.alloc hBw o).grown hg (by simp; omega) (fun k hk => (h.own.lt k hk).1), (h.kept.alloc o).grown hg (Lib.ownsRow_kind (h.own.alloc o))⟩
  have e : byteCells (l ++ [c]) = byteCells l ++ [.int .u8 c.toNat] := by simp [byteCells]
  rw [e, List.length_append]
  exact hown

/-- a number is appended -/
theorem append13 {B : Nat} {w0 wg w : World} {l : List UInt8} {v : Value} (h : Buf B w0 wg l v w) (hB : B ≤ w0.heap.size) (u : Nat) (hu : u < 18446744073709551616) (hlim : l.length + 20 ≤ 140737488355328)
    (htab : TabIs Tryd.prog w pow10Name .u64 pow10Tab) :
    Calls Tryd.prog 13 #[v, .int .u64 u, .int .i64 10] w fun e w' => ∃ v', e = .returned v' ∧ Buf B w0 wg (l ++ decDigits u) v' w' := by
  have A := Lib.hid (appendUint14 B l.length u hu v (byteCells l) w h.own (Nat.le_trans hB h.bel.size) hlim htab)
  have HB := Lib.hid h
  clear h htab
  go_enter Tryd.func13, Tryd.ntmps13
  go_wp2_with fail
  refine A.out.mono ?_
  rintro _ w' ⟨v', rfl, hown, hbel, hkept⟩
  go_wp2
  go_ret
  refine ⟨v', rfl, ?_, HB.out.bel.trans hbel, HB.out.kept.trans hkept⟩
  rw [byteCells_append, List.length_append]
  exact hown

/-- the gtids lie in memory: three cells each -/
def Gtids (w : World) (ao : Option Addr) (n : Nat) (D S Q : Nat → Nat) : Prop :=
  n = 0 ∨ ∃ b off, ao = some ⟨b, off, none⟩ ∧ b < w.heap.size ∧ ∀ i, i < n →
    w.cell? ⟨b, off + i * 3, none⟩ = some (.int .u32 (D i : Nat)) ∧ w.cell? ⟨b, off + i * 3 + 1, none⟩ = some (.int .u32 (S i : Nat)) ∧ w.cell? ⟨b, off + i * 3 + 2, none⟩ = some (.int .u64 (Q i : Nat))
/-- each number fits its kind -/
def Fit (n : Nat) (D S Q : Nat → Nat) : Prop := ∀ i, i < n → D i < 4294967296 ∧ S i < 4294967296 ∧ Q i < 18446744073709551616

theorem kept_box {wg w : World} {k : Nat} {c : Array Value} (h : OthersKept 5 none wg w) (hk : wg.heap[k]? = some (.cells c 40 (0, 0))) (i : Nat) : w.cell? ⟨k, i, none⟩ = c[i]? := by
  have := h k _ hk (by simp) (by intro c fz e; cases e)
  simp [World.cell?, this]

theorem one_byte (w : World) (x : Value) (t : TypeId) : ∀ j u, [x][j]? = some u → (w.alloc (.cells #[x] t)).cell? ((⟨w.heap.size, 0, none⟩ : Addr).add j) = some u := by
  intro j u hj
  match j, hj with
  | 0, hj => simp at hj; subst hj; simp [Addr.add]
  | j + 1, hj => simp at hj
theorem one_byte_at {w : World} {x : Value} {t : TypeId} {g : Nat} (hg : w.heap.size = g) : ∀ j u, [x][j]? = some u → (w.alloc (.cells #[x] t)).cell? ((⟨g, 0, none⟩ : Addr).add j) = some u := by
  subst hg
  exact one_byte w x t
theorem oneCell_byte (x : Int) : ∀ u ∈ [Value.int .u8 x], u.oneCell' = true := by
  intro u hu
  simp at hu
  subst hu
  rfl

set_option maxHeartbeats 1000000 in
theorem string_empty (ao : Option Addr) (c : Nat) (w : World) :
    Calls Tryd.prog 8 #[.agg #[.slice ao 0 c]] w fun e w' => e = .returned (.string ByteArray.empty) ∧ Below w.heap.size w w' := by
  have hmk : ∀ w : World, (Instr.makeSlice 41 (.int .i64 0) (.int .i64 0)).run Tryd.prog w = .ok (.slice (some ⟨w.heap.size, 0, none⟩) 0 0) (w.alloc (.cells #[] 5)) := fun _ => by kernel_rfl
  have hcv : ∀ w : World, (convert 41 9 (.slice (some ⟨w.heap.size + 1, 0, none⟩) 0 0)).run Tryd.prog ((w.alloc (.cells #[.slice ao 0 c] 28)).alloc (.cells #[] 5)) = .ok (.string ByteArray.empty) ((w.alloc (.cells #[.slice ao 0 c] 28)).alloc (.cells #[] 5)) := fun w =>
    run_convert_bytes_back (P := Tryd.prog) _ 41 9 5 _ 0 [] Tryd.underlying41 Tryd.underlying5 Tryd.underlying9 (fun j hj => absurd hj (by simp))
  go_enter Tryd.func8, Tryd.ntmps8
  go_wp2
  refine wp_loop_rounds 1 ?_; rw [rounds_succ]; go_wp2
  go_ret
  exact ⟨rfl, ((Below.refl _ _).alloc (Nat.le_refl _) _).alloc (by simp) _⟩
set_option maxHeartbeats 8000000 in
set_option maxRecDepth 100000 in
theorem string_some (b off n c : Nat) (D S Q : Nat → Nat) (w : World) (hn0 : 0 < n) (hn : (n : Int) ≤ 65536) (hb : b < w.heap.size)
    (hc : ∀ i, i < n → w.cell? ⟨b, off + i * 3, none⟩ = some (.int .u32 (D i : Nat)) ∧ w.cell? ⟨b, off + i * 3 + 1, none⟩ = some (.int .u32 (S i : Nat)) ∧ w.cell? ⟨b, off + i * 3 + 2, none⟩ = some (.int .u64 (Q i : Nat)))
    (hf : Fit n D S Q) (htab : TabIs Tryd.prog w pow10Name .u64 pow10Tab) :
    Calls Tryd.prog 8 #[.agg #[.slice (some ⟨b, off, none⟩) n c]] w fun e w' => e = .returned (.string ⟨(txt D S Q n).toArray⟩) ∧ Below w.heap.size w w' := by
  obtain ⟨i0, hi, hz0, hz1, hz2⟩ := info_parts Tryd.info5
  have HT := Lib.hid (And.intro hi (And.intro hz0 (And.intro hz1 hz2)))
  have hT := Lib.hid (tabBelow_of_tabIs htab)
  have HC := Lib.hid hc
  have HF := Lib.hid hf
  clear hi hz0 hz1 hz2 htab hc hf
  have hs0' : w.heap.size + 1 ≤ (w.alloc (.cells #[.slice (some ⟨b, off, none⟩) n c] 28)).heap.size := by simp
  have hw0 : Below w.heap.size w (w.alloc (.cells #[.slice (some ⟨b, off, none⟩) n c] 28)) := (Below.refl _ _).alloc (Nat.le_refl _) _
  go_enter Tryd.func8, Tryd.ntmps8
  go_wp2_with (at_make; refine wpList_make_own _ rfl _ _ 41 rfl (w.heap.size + 1) 5 i0 (.int .u8 0) 1 Tryd.underlying41 HT.out.1 HT.out.2.1 HT.out.2.2.1 .i64 .i64 _ (32 * n) rfl rfl (by omega) (by rw [HT.out.2.2.2]; omega) (by unfold maxLen; omega) (by simp) ?_; intro w1 hown1 hgr1; refine Hid.out ?_)
  refine Lib.hid ?_
  simp only [World.size_alloc] at hown1
  have hb1 : Below (w.heap.size + 1) (w.alloc (.cells #[.slice (some ⟨b, off, none⟩) n c] 28)) w1 := (Below.refl _ _).grown hgr1 hs0' (by intro _ h; cases h)
  have hp1 : w1.cell? ⟨w.heap.size, 0, none⟩ = some (.slice (some ⟨b, off, none⟩) n c) := (hb1.cell (p := ⟨w.heap.size, 0, none⟩) (Nat.lt_succ_self _)).trans (by simp)
  clear hgr1
  go_wp2
  go_loopg [3, 14] n (fun g v i wr => ∃ k : Nat, k + g = n ∧ i = .int .i64 k ∧ wr.ownsRow (w.heap.size + 1) 5 1 v (txt D S Q k).length (byteCells (txt D S Q k)) ∧ Below (w.heap.size + 1) (w.alloc (.cells #[.slice (some ⟨b, off, none⟩) n c] 28)) wr)
  case atStart => exact ⟨0, Nat.zero_add _, rfl, by simpa [txt_zero, byteCells] using hown1, hb1⟩
  case round =>
    clear hown1 hb1 hp1
    obtain ⟨k, hk0, rfl, hown, hbel⟩ := hrel
    have hk : k ≤ n := by omega
    have HK := Lib.hid hk0
    clear hk0
    have hsz := hbel.size
    simp only [World.size_alloc] at hsz
    by_cases hlt : k < n
    · obtain ⟨c0, c1, c2⟩ := HC.out k hlt
      obtain ⟨f0, f1, f2⟩ := HF.out k hlt
      have d0 : wr.cell? ⟨b, off + k * 3, none⟩ = some (.int .u32 (D k : Nat)) := (hbel.cell (p := ⟨b, off + k * 3, none⟩) (by show b < _; omega)).trans ((hw0.cell (p := ⟨b, off + k * 3, none⟩) hb).trans c0)
      have d1 : wr.cell? ⟨b, off + k * 3 + 1, none⟩ = some (.int .u32 (S k : Nat)) := (hbel.cell (p := ⟨b, off + k * 3 + 1, none⟩) (by show b < _; omega)).trans ((hw0.cell (p := ⟨b, off + k * 3 + 1, none⟩) hb).trans c1)
      have d2 : wr.cell? ⟨b, off + k * 3 + 2, none⟩ = some (.int .u64 (Q k : Nat)) := (hbel.cell (p := ⟨b, off + k * 3 + 2, none⟩) (by show b < _; omega)).trans ((hw0.cell (p := ⟨b, off + k * 3 + 2, none⟩) hb).trans c2)
      have hlen := txt_len D S Q k (fun i hi => by have := HF.out i (by omega); omega)
      have l0 := dec_len (D k) (by omega)
      have l1 := dec_len (S k) (by omega)
      clear c0 c1 c2
      have hbox : (wr.alloc (.cells #[.int .u32 (D k : Nat), .int .u32 (S k : Nat), .int .u64 (Q k : Nat)] 40)).heap[wr.heap.size]? = some (.cells #[.int .u32 (D k : Nat), .int .u32 (S k : Nat), .int .u64 (Q k : Nat)] 40 (0, 0)) := heap_alloc_new wr _
      have HBX := Lib.hid hbox
      clear hbox
      have B1 : Hid (Buf (w.heap.size + 1) (w.alloc (.cells #[.slice (some ⟨b, off, none⟩) n c] 28)) (wr.alloc (.cells #[.int .u32 (D k : Nat), .int .u32 (S k : Nat), .int .u64 (Q k : Nat)] 40)) (txt D S Q k) u3 (wr.alloc (.cells #[.int .u32 (D k : Nat), .int .u32 (S k : Nat), .int .u64 (Q k : Nat)] 40))) := ⟨hown.alloc _, hbel.alloc (by omega) _, OthersKept.refl _ _ _⟩
      clear hown hbel
      obtain ⟨L, hL⟩ : ∃ L, L = txt D S Q k := ⟨_, rfl⟩
      have hLn : L.length ≤ 4200000 := by rw [hL]; omega
      rw [← hL] at B1
      have HLk := Lib.hid hL
      clear hL hlen
      by_cases hk0 : k = 0
      · have hk1 : ¬ (0 : Int) < (k : Int) := by omega
        have HK0 := Lib.hid hk0
        clear hk0
        have T1 := Lib.hid (hT.out _ (hw0.trans (B1.out.bel.mono (Nat.le_succ _))))
        go_wp2_with fail
        refine (append13 B1.out hs0' (D k) (by omega) (by omega) T1.out).mono ?_
        rintro _ w2 ⟨v2, rfl, b2⟩
        have B2 := Lib.hid b2
        clear b2 T1
        go_wp2_with (at_builtin; refine wpList_append_own _ rfl (.tmp 29) (.tmp 30) 41 rfl (w.heap.size + 1) 5 i0 (.int .u8 0) 1 1 Tryd.underlying41 HT.out.1 HT.out.2.1 HT.out.2.2.1 HT.out.2.2.2 rfl (by decide) _ _ _ rfl (B2.out.own.alloc _) ⟨w2.heap.size, 0, none⟩ 1 1 [.int .u8 45] rfl rfl (one_byte_at (by simp)) (oneCell_byte _) (by (try simp only [List.length_append, List.length_singleton]); unfold maxLen; omega) (by (try simp only [List.length_append, List.length_singleton]); omega) (by have := B2.out.bel.size; simp at this; simp; omega) ?_; intro v3 w3 hown3 hgr3 _; refine Hid.out ?_)
        refine Lib.hid ?_
        have B3 := Lib.hid (B2.out.byte 45 rfl hs0' hown3 hgr3)
        clear hown3 hgr3
        have e3 := kept_box B3.out.kept HBX.out 1
        simp at e3
        have T3 := Lib.hid (hT.out _ (hw0.trans (B3.out.bel.mono (Nat.le_succ _))))
        go_wp2_with fail
        refine (append13 B3.out hs0' (S k) (by omega) (by (try simp only [List.length_append, List.length_singleton]); omega) T3.out).mono ?_
        rintro _ w4 ⟨v4, rfl, b4⟩
        have B4 := Lib.hid b4
        clear b4 T3 e3
        go_wp2_with (at_builtin; refine wpList_append_own _ rfl (.tmp 37) (.tmp 38) 41 rfl (w.heap.size + 1) 5 i0 (.int .u8 0) 1 1 Tryd.underlying41 HT.out.1 HT.out.2.1 HT.out.2.2.1 HT.out.2.2.2 rfl (by decide) _ _ _ rfl (B4.out.own.alloc _) ⟨w4.heap.size, 0, none⟩ 1 1 [.int .u8 45] rfl rfl (one_byte_at (by simp)) (oneCell_byte _) (by (try simp only [List.length_append, List.length_singleton]); unfold maxLen; omega) (by (try simp only [List.length_append, List.length_singleton]); omega) (by have := B4.out.bel.size; simp at this; simp; omega) ?_; intro v5 w5 hown5 hgr5 _; refine Hid.out ?_)
        refine Lib.hid ?_
        have B5 := Lib.hid (B4.out.byte 45 rfl hs0' hown5 hgr5)
        clear hown5 hgr5
        have e5 := kept_box B5.out.kept HBX.out 2
        simp at e5
        have T5 := Lib.hid (hT.out _ (hw0.trans (B5.out.bel.mono (Nat.le_succ _))))
        go_wp2_with fail
        refine (append13 B5.out hs0' (Q k) (by omega) (by (try simp only [List.length_append, List.length_singleton]); omega) T5.out).mono ?_
        rintro _ w6 ⟨v6, rfl, b6⟩
        have B6 := Lib.hid b6
        clear b6 T5 e5
        go_wp2
        have hk2 := HK.out
        have b6 := B6.out
        rw [HLk.out] at b6
        go_roundg (gk - 1)
        case measure => omega
        case rel => exact ⟨k + 1, by omega, by go_num, by rw [txt_succ, show sep k = [] by unfold sep; rw [if_pos HK0.out]]; unfold piece; simpa using b6.own, b6.bel⟩
      · have hk1 : (0 : Int) < (k : Int) := by omega
        have HK0 := Lib.hid hk0
        clear hk0
        go_wp2_with (at_builtin; refine wpList_append_own _ rfl (.tmp 21) (.tmp 22) 41 rfl (w.heap.size + 1) 5 i0 (.int .u8 0) 1 1 Tryd.underlying41 HT.out.1 HT.out.2.1 HT.out.2.2.1 HT.out.2.2.2 rfl (by decide) _ _ _ rfl (B1.out.own.alloc _) ⟨wr.heap.size + 1, 0, none⟩ 1 1 [.int .u8 44] rfl rfl (one_byte_at (by simp)) (oneCell_byte _) (by (try simp only [List.length_append, List.length_singleton]); unfold maxLen; omega) (by (try simp only [List.length_append, List.length_singleton]); omega) (by have := B1.out.bel.size; simp at this; simp; omega) ?_; intro v7 w7 hown7 hgr7 _; refine Hid.out ?_)
        refine Lib.hid ?_
        have B7 := Lib.hid (B1.out.byte 44 rfl hs0' hown7 hgr7)
        clear hown7 hgr7
        have e7 := kept_box B7.out.kept HBX.out 0
        simp at e7
        have T7 := Lib.hid (hT.out _ (hw0.trans (B7.out.bel.mono (Nat.le_succ _))))
        go_wp2_with fail
        refine (append13 B7.out hs0' (D k) (by omega) (by (try simp only [List.length_append, List.length_singleton]); omega) T7.out).mono ?_
        rintro _ w2 ⟨v2, rfl, b2⟩
        have B2 := Lib.hid b2
        clear b2 T7 e7
        go_wp2_with (at_builtin; refine wpList_append_own _ rfl (.tmp 29) (.tmp 30) 41 rfl (w.heap.size + 1) 5 i0 (.int .u8 0) 1 1 Tryd.underlying41 HT.out.1 HT.out.2.1 HT.out.2.2.1 HT.out.2.2.2 rfl (by decide) _ _ _ rfl (B2.out.own.alloc _) ⟨w2.heap.size, 0, none⟩ 1 1 [.int .u8 45] rfl rfl (one_byte_at (by simp)) (oneCell_byte _) (by (try simp only [List.length_append, List.length_singleton]); unfold maxLen; omega) (by (try simp only [List.length_append, List.length_singleton]); omega) (by have := B2.out.bel.size; simp at this; simp; omega) ?_; intro v3 w3 hown3 hgr3 _; refine Hid.out ?_)
        refine Lib.hid ?_
        have B3 := Lib.hid (B2.out.byte 45 rfl hs0' hown3 hgr3)
        clear hown3 hgr3
        have e3 := kept_box B3.out.kept HBX.out 1
        simp at e3
        have T3 := Lib.hid (hT.out _ (hw0.trans (B3.out.bel.mono (Nat.le_succ _))))
        go_wp2_with fail
        refine (append13 B3.out hs0' (S k) (by omega) (by (try simp only [List.length_append, List.length_singleton]); omega) T3.out).mono ?_
        rintro _ w4 ⟨v4, rfl, b4⟩
        have B4 := Lib.hid b4
        clear b4 T3 e3
        go_wp2_with (at_builtin; refine wpList_append_own _ rfl (.tmp 37) (.tmp 38) 41 rfl (w.heap.size + 1) 5 i0 (.int .u8 0) 1 1 Tryd.underlying41 HT.out.1 HT.out.2.1 HT.out.2.2.1 HT.out.2.2.2 rfl (by decide) _ _ _ rfl (B4.out.own.alloc _) ⟨w4.heap.size, 0, none⟩ 1 1 [.int .u8 45] rfl rfl (one_byte_at (by simp)) (oneCell_byte _) (by (try simp only [List.length_append, List.length_singleton]); unfold maxLen; omega) (by (try simp only [List.length_append, List.length_singleton]); omega) (by have := B4.out.bel.size; simp at this; simp; omega) ?_; intro v5 w5 hown5 hgr5 _; refine Hid.out ?_)
        refine Lib.hid ?_
        have B5 := Lib.hid (B4.out.byte 45 rfl hs0' hown5 hgr5)
        clear hown5 hgr5
        have e5 := kept_box B5.out.kept HBX.out 2
        simp at e5
        have T5 := Lib.hid (hT.out _ (hw0.trans (B5.out.bel.mono (Nat.le_succ _))))
        go_wp2_with fail
        refine (append13 B5.out hs0' (Q k) (by omega) (by (try simp only [List.length_append, List.length_singleton]); omega) T5.out).mono ?_
        rintro _ w6 ⟨v6, rfl, b6⟩
        have B6 := Lib.hid b6
        clear b6 T5 e5
        go_wp2
        have hk2 := HK.out
        have b6 := B6.out
        rw [HLk.out] at b6
        go_roundg (gk - 1)
        case measure => omega
        case rel => exact ⟨k + 1, by omega, by go_num, by rw [txt_succ, show sep k = [44] by unfold sep; rw [if_neg HK0.out]]; unfold piece; simpa using b6.own, b6.bel⟩
    · obtain rfl : k = n := by omega
      have hpos := txt_pos D S Q hn0
      obtain ⟨L, hL⟩ : ∃ L, L = txt D S Q k := ⟨_, rfl⟩
      rw [← hL] at hown hpos
      have HLk := Lib.hid hL
      clear hL
      rcases hown.2 with ⟨-, h0⟩ | ⟨g, cap, cur, rfl, -, -, -, -, -, -⟩
      · omega
      · have hcv := run_convert_bytes_back (P := Tryd.prog) wr 41 9 5 ⟨g, 0, none⟩ cap L Tryd.underlying41 Tryd.underlying5 Tryd.underlying9 (fun j hj => hown.cells (g := g) rfl j _ (by simp [byteCells, hj]))
        clear hown
        go_wp2
        go_ret
        have hl := HLk.out
        subst hl
        exact ⟨rfl, hw0.trans (hbel.mono (Nat.le_succ _))⟩

/-- the text of a position -/
theorem string_any (ao : Option Addr) (n c : Nat) (D S Q : Nat → Nat) (w : World) (hn : (n : Int) ≤ 65536) (hG : Gtids w ao n D S Q) (hf : Fit n D S Q) (htab : TabIs Tryd.prog w pow10Name .u64 pow10Tab) :
    Calls Tryd.prog 8 #[.agg #[.slice ao n c]] w fun e w' => e = .returned (.string ⟨(txt D S Q n).toArray⟩) ∧ Below w.heap.size w w' := by
  by_cases h0 : n = 0
  · subst h0
    exact string_empty ao c w
  · rcases hG with h | ⟨b, off, rfl, hb, hc⟩
    · exact absurd h h0
    · exact string_some b off n c D S Q w (by omega) hn hb hc hf htab
end Go.Proofs.Qxb6630177aDoor
