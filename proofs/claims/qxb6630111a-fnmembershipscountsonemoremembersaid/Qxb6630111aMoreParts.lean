/-
  Seat b6630111a, second law: what the one member more does to the groups' row: lemmas outside the walk.
-/
import Derived.Test.Qxb6630111aSplit
import Derived.Test.Qxb6630111aBytesM
namespace Go.Proofs.Qxb6630111a
open Go.RowKit

/-- a row of groups of which only the members' counts are told -/
def Rowed (w : World) (ao : Option Addr) (n : Nat) (MN : Nat → Nat) : Prop :=
  n = 0 ∨ ∃ b off, ao = some ⟨b, off, none⟩ ∧ b < w.heap.size ∧ ∀ i, i < n → ∃ (s t u : ByteArray) (a : Option Addr) (c : Nat), One w b (off + i * 4) s t u (.slice a (MN i) c)

theorem Groups.rowed {w : World} {lo : Nat} {ao : Option Addr} {n : Nat} {MA : Nat → Option Addr} {MN MC : Nat → Nat} (h : Groups w lo ao n MA MN MC) : Rowed w ao n MN := by
  rcases h with h | ⟨b, off, rfl, hb, hc⟩
  · exact .inl h
  · refine .inr ⟨b, off, rfl, hb, fun i hi => ?_⟩
    obtain ⟨⟨s, t, u, c0, c1, c2⟩, c3, _⟩ := hc i hi
    exact ⟨s, t, u, _, _, c0, c1, c2, c3⟩

theorem Rowed.below {w w' : World} {ao : Option Addr} {n : Nat} {MN : Nat → Nat} (h : Rowed w ao n MN) (hb : Below w.heap.size w w') : Rowed w' ao n MN := by
  rcases h with h | ⟨b, off, rfl, hlt, hc⟩
  · exact .inl h
  · refine .inr ⟨b, off, rfl, Nat.lt_of_lt_of_le hlt hb.size, fun i hi => ?_⟩
    obtain ⟨s, t, u, a, c, h1⟩ := hc i hi
    exact ⟨s, t, u, a, c, h1.below hb hlt⟩

set_option maxHeartbeats 400000 in
/-- Memberships: the sum of the groups' lengths -/
theorem memb_row (db : Nat) (ao : Option Addr) (n cap S : Nat) (MN : Nat → Nat) (w : World) (hd : w.cell? ⟨db, 1, none⟩ = some (.slice ao n cap)) (hn : (n : Int) ≤ 2000000)
    (hS : sum MN n = S) (hs0 : (S : Int) ≤ 2000000) (hG : Rowed w ao n MN) :
    Calls Try.prog 9 #[.pointer (some ⟨db, 0, none⟩)] w fun r w' => r = .returned (.int .i64 (S : Nat)) ∧ Below w.heap.size w w' := by
  subst hS
  have hs := hs0
  rcases hG with rfl | ⟨b, off, rfl, hb, hc⟩
  · go_enter Try.func9, Try.ntmps9
    go_wp2
    refine wp_loop_rounds 1 ?_; rw [rounds_succ]; go_wp2
    go_ret
    exact ⟨rfl, Below.refl _ _⟩
  · go_enter Try.func9, Try.ntmps9
    go_wp2
    go_loopg [3, 11] n (fun g v i wr => ∃ k : Nat, k + g = n ∧ v = .int .i64 (sum MN k : Nat) ∧ i = .int .i64 k ∧ Below w.heap.size w wr)
    case atStart => exact ⟨0, Nat.zero_add _, rfl, rfl, Below.refl _ _⟩
    case round =>
      obtain ⟨k, hk0, rfl, rfl, hbel⟩ := hrel
      have hk : k ≤ n := by omega
      have HK := hid hk0
      clear hk0
      have hsz := hbel.size
      have hsk : ((sum MN k : Nat) : Int) ≤ 2000000 := by have := sum_mono MN hk; omega
      by_cases hlt : k < n
      · obtain ⟨s, t, u, a, c, c0, c1, c2, c3⟩ := hc k hlt
        have d0 := (hbel.cell (p := ⟨b, off + k * 4, none⟩) hb).trans c0
        have d1 := (hbel.cell (p := ⟨b, off + k * 4 + 1, none⟩) hb).trans c1
        have d2 := (hbel.cell (p := ⟨b, off + k * 4 + 2, none⟩) hb).trans c2
        have d3 := (hbel.cell (p := ⟨b, off + k * 4 + 3, none⟩) hb).trans c3
        have hN : ((MN k : Nat) : Int) ≤ 2000000 := by have := sum_at MN hlt; omega
        clear hc c0 c1 c2 c3 hd
        go_wp2
        have hk1 := HK.out
        go_roundg (gk - 1)
        case measure => omega
        case rel => exact ⟨k + 1, by omega, by rw [sum_succ]; go_num, by go_num, hbel.alloc hsz _⟩
      · clear hc
        obtain rfl : k = n := by omega
        go_wp2
        go_ret
        exact ⟨rfl, hbel⟩

theorem sum_last (N : Nat → Nat) (n : Nat) : sum (fun i => if i = n then 1 else N i) (n + 1) = sum N n + 1 := by
  rw [sum_succ, if_pos rfl, sum_congr (M := N) (fun i hi => by rw [if_neg (by omega)])]

/-- the copy's row is the call's own -/
theorem Laid.owns {w : World} {g n B : Nat} {f : Nat → Value} {MA : Nat → Option Addr} {MN MC : Nat → Nat} (h : Laid w g n n f MA MN MC) (hB : B ≤ g) (hn : n ≤ maxLen) :
    w.ownsRow B 42 4 (.slice (some ⟨g, 0, none⟩) n n) n ((List.range (n * 4)).map f) := by
  obtain ⟨c, hb, hs, hc⟩ := h.1
  refine ⟨by simp, .inr ⟨g, n, c, rfl, hB, hb, Nat.le_refl _, hn, hs, ?_⟩⟩
  apply List.ext_getElem?
  intro i
  rw [List.getElem?_take]
  by_cases hi : i < n * 4
  · rw [if_pos hi, Array.getElem?_toList, hc i hi, List.getElem?_map, List.getElem?_range hi]
    rfl
  · rw [if_neg hi]
    simp [hi]

/-- behind the append of one group: the row of n + 1 groups -/
theorem appended {w : World} {B n : Nat} {f : Nat → Value} {MN : Nat → Nat} {v : Value} {s t u : ByteArray} {a : Option Addr} {c : Nat}
    (h : w.ownsRow B 42 4 v (n + 1) ((List.range (n * 4)).map f ++ [.string s, .string t, .string u, .slice a 1 c]))
    (hf : ∀ i, i < n → (∃ s t u : ByteArray, f (i * 4) = .string s ∧ f (i * 4 + 1) = .string t ∧ f (i * 4 + 2) = .string u) ∧ ∃ a c, f (i * 4 + 3) = .slice a (MN i) c) :
    ∃ g cap, v = .slice (some ⟨g, 0, none⟩) (n + 1) cap ∧ Rowed w (some ⟨g, 0, none⟩) (n + 1) (fun i => if i = n then 1 else MN i) := by
  have h' := h
  rcases h.2 with ⟨_, h0⟩ | ⟨g, cap, cur, rfl, _, hg, _⟩
  · omega
  refine ⟨g, cap, rfl, .inr ⟨g, 0, rfl, (Array.getElem?_eq_some_iff.1 hg).1, fun i hi => ?_⟩⟩
  have hcell : ∀ j, j < (n + 1) * 4 → w.cell? ⟨g, j, none⟩ = ((List.range (n * 4)).map f ++ [.string s, .string t, .string u, .slice a 1 c])[j]? := fun j hj => h'.cellAt j hj
  by_cases hin : i = n
  · subst hin
    refine ⟨s, t, u, a, c, ?_, ?_, ?_, ?_⟩
    · rw [Nat.zero_add, hcell _ (by omega), List.getElem?_append_right (by simp)]; simp
    · rw [Nat.zero_add, hcell _ (by omega), List.getElem?_append_right (by simp)]; simp
    · rw [Nat.zero_add, hcell _ (by omega), List.getElem?_append_right (by simp)]; simp
    · rw [Nat.zero_add, hcell _ (by omega), List.getElem?_append_right (by simp)]; simp
  · obtain ⟨⟨s', t', u', h1, h2, h3⟩, a', c', h4⟩ := hf i (by omega)
    have hlow : ∀ j, j < n * 4 → w.cell? ⟨g, j, none⟩ = some (f j) := fun j hj => by
      rw [hcell j (by omega), List.getElem?_append_left (by simpa using hj), List.getElem?_map, List.getElem?_range hj]
      rfl
    refine ⟨s', t', u', a', c', ?_, ?_, ?_, ?_⟩
    · rw [Nat.zero_add, hlow _ (by omega), h1]
    · rw [Nat.zero_add, hlow _ (by omega), h2]
    · rw [Nat.zero_add, hlow _ (by omega), h3]
    · rw [Nat.zero_add, hlow _ (by omega), h4]
      simp [hin]

theorem appended_nil (MN : Nat → Nat) {w : World} {B : Nat} {v : Value} {s t u : ByteArray} {a : Option Addr} {c : Nat}
    (h : w.ownsRow B 42 4 v (0 + 1) ([] ++ [.string s, .string t, .string u, .slice a 1 c])) :
    ∃ g cap, v = .slice (some ⟨g, 0, none⟩) 1 cap ∧ Rowed w (some ⟨g, 0, none⟩) 1 (fun i => if i = 0 then 1 else MN i) :=
  appended (n := 0) (f := fun _ => .slice none 0 0) (MN := MN) h (fun _ hi => absurd hi (Nat.not_lt_zero _))

theorem cell_box_at {w : World} (x y : Value) (t : TypeId) {g : Nat} (hg : w.heap.size = g) : (w.alloc (.cells #[x, y] t)).cell? ⟨g, 1, none⟩ = some y := by
  subst hg
  exact cell_box w x y t

/-- a round's end: one more member is laid in the block B -/
theorem members_more {W wr w' : World} {B : Nat} {o : Obj} (hbel : Below B W wr) (hg : (wr.alloc o).grownBy w' (some B)) (hs : B ≤ (wr.alloc o).heap.size) (hB : B ≤ wr.heap.size := by omega) : Below B W w' :=
  (hbel.alloc hB o).grown hg hs (fun j hj => by cases hj; exact Nat.le_refl _)

theorem cell_four_new (w : World) (a b c d : Value) (t : TypeId) : ∀ j u, [a, b, c, d][j]? = some u → (w.alloc (.cells #[a, b, c, d] t)).cell? ((⟨w.heap.size, 0, none⟩ : Addr).add j) = some u := by
  intro j u hj
  match j, hj with
  | 0, hj => simp at hj; subst hj; simp [Addr.add]
  | 1, hj => simp at hj; subst hj; simp [Addr.add]
  | 2, hj => simp at hj; subst hj; simp [Addr.add]
  | 3, hj => simp at hj; subst hj; simp [Addr.add]
  | j + 4, hj => simp at hj

theorem cell_four_at {w : World} {a b c d : Value} {t : TypeId} {g : Nat} (hg : w.heap.size = g) : ∀ j u, [a, b, c, d][j]? = some u → (w.alloc (.cells #[a, b, c, d] t)).cell? ((⟨g, 0, none⟩ : Addr).add j) = some u := by
  subst hg
  exact cell_four_new w a b c d t

theorem oneCell4 (s t u : ByteArray) (a : Option Addr) (n c : Nat) : ∀ x ∈ [Value.string s, Value.string t, Value.string u, Value.slice a n c], x.oneCell' = true := by
  intro x hx
  simp at hx
  rcases hx with rfl | rfl | rfl | rfl <;> rfl
theorem oneCellS (s t : ByteArray) : ∀ x ∈ [Value.string s, Value.string t], x.oneCell' = true := by
  intro x hx
  simp at hx
  rcases hx with rfl | rfl <;> rfl

theorem Laid.told {w : World} {g n : Nat} {f : Nat → Value} {MA : Nat → Option Addr} {MN MC : Nat → Nat} (h : Laid w g n n f MA MN MC) :
    ∀ i, i < n → (∃ s t u : ByteArray, f (i * 4) = .string s ∧ f (i * 4 + 1) = .string t ∧ f (i * 4 + 2) = .string u) ∧ ∃ a c, f (i * 4 + 3) = .slice a (MN i) c := by
  intro i hi
  obtain ⟨h1, h2, _⟩ := h.2 i hi
  exact ⟨h1, _, _, h2⟩

/-- behind the store of the longer list of members -/
theorem stored {w : World} {g n k : Nat} {f : Nat → Value} {MN : Nat → Nat} (hr : w.rowIs g 42 (n * 4) f) (hk : k < n)
    (hf : ∀ i, i < n → (∃ s t u : ByteArray, f (i * 4) = .string s ∧ f (i * 4 + 1) = .string t ∧ f (i * 4 + 2) = .string u) ∧ ∃ a c, f (i * 4 + 3) = .slice a (MN i) c) (a : Option Addr) (c : Nat) :
    Rowed (w.setCell ⟨g, k * 4 + 3, none⟩ (.slice a (MN k + 1) c)) (some ⟨g, 0, none⟩) n (fun i => if i = k then MN k + 1 else MN i) := by
  have hs := hr.set (k * 4 + 3) (.slice a (MN k + 1) c)
  refine .inr ⟨g, 0, rfl, hs.lt, fun i hi => ?_⟩
  obtain ⟨⟨s', t', u', h1, h2, h3⟩, a', c', h4⟩ := hf i hi
  by_cases hik : i = k
  · subst hik
    refine ⟨s', t', u', a, c, ?_, ?_, ?_, ?_⟩
    · rw [Nat.zero_add, hs.cell (by omega), if_neg (by omega), h1]
    · rw [Nat.zero_add, hs.cell (by omega), if_neg (by omega), h2]
    · rw [Nat.zero_add, hs.cell (by omega), if_neg (by omega), h3]
    · rw [Nat.zero_add, hs.cell (by omega), if_pos rfl]
      simp
  · refine ⟨s', t', u', a', c', ?_, ?_, ?_, ?_⟩
    · rw [Nat.zero_add, hs.cell (by omega), if_neg (by omega), h1]
    · rw [Nat.zero_add, hs.cell (by omega), if_neg (by omega), h2]
    · rw [Nat.zero_add, hs.cell (by omega), if_neg (by omega), h3]
    · rw [Nat.zero_add, hs.cell (by omega), if_neg (by omega), h4]
      simp [hik]
end Go.Proofs.Qxb6630111a
