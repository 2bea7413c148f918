/-
  Seat b6630177aD: what is plain of the three texts.
-/
import Derived.Test.Qxb6630177aDoorCuts
namespace Go.Proofs.Qxb6630177aDoor
open Go.RowKit Go.Lib

/-- zzCountByte, at a known count -/
theorem cnt (T : ByteArray) (c : UInt8) (cv v : Int) (w : World) (hs : T.size ≤ 4200000) (hc : cv = (c.toNat : Int)) (hv : (T.data.toList.count c : Int) = v) :
    Calls Tryd.prog 12 #[.string T, .int .u8 cv] w fun e w' => e = .returned (.int .i64 v) ∧ w = w' := by
  subst hc hv
  exact count12 T c w (by omega)

theorem nonempty {T : ByteArray} (h : 0 < T.size) : T.toList.isEmpty = false := by
  rw [ByteArray.toList_eq]
  cases hl : T.data.toList with
  | nil =>
    have h' : 0 < T.data.toList.length := h
    rw [hl] at h'
    exact absurd h' (Nat.lt_irrefl _)
  | cons _ _ => rfl

structure Whole (T : ByteArray) (n : Nat) : Prop where
  size : T.size ≤ 63 * n
  comma : T.data.toList.count 44 = n - 1
  dash : T.data.toList.count 45 = 2 * n
  pos : 0 < n → 0 < T.size
  nil : n = 0 → T = ⟨#[]⟩
theorem whole_of {T : ByteArray} {n : Nat} {D S Q : Nat → Nat} (hf : Fit n D S Q) (h : T = ⟨(txt D S Q n).toArray⟩) : Whole T n := by
  subst h
  refine ⟨?_, ?_, ?_, ?_, ?_⟩
  · show (txt D S Q n).toArray.size ≤ _
    rw [List.size_toArray]
    refine txt_len D S Q n fun i hi => ?_
    obtain ⟨h1, h2, h3⟩ := hf i hi
    exact ⟨by omega, by omega, h3⟩
  · exact txt_count_comma D S Q n
  · exact txt_count_dash D S Q n
  · intro h
    show 0 < (txt D S Q n).toArray.size
    rw [List.size_toArray]
    exact txt_pos D S Q h
  · intro h
    subst h
    rfl
theorem right_all {D S Q : Nat → Nat} {n k : Nat} {TW TR : ByteArray} (hk : k = 0) (hW : TW = ⟨(txt D S Q n).toArray⟩) (hR : TR = ⟨(txt (fun i => D (k + i)) (fun i => S (k + i)) (fun i => Q (k + i)) (n - k)).toArray⟩) : TR = TW := by
  subst hk hW hR
  congr 2
  exact txt_congr fun i _ => by simp
theorem mid_all {D S Q : Nat → Nat} {n k : Nat} {TW TL TR : ByteArray} (hk : 0 < k) (hn : k < n) (hW : TW = ⟨(txt D S Q n).toArray⟩) (hL : TL = ⟨(txt D S Q k).toArray⟩) (hR : TR = ⟨(txt (fun i => D (k + i)) (fun i => S (k + i)) (fun i => Q (k + i)) (n - k)).toArray⟩) :
    TW = TL ++ ⟨#[44]⟩ ++ TR := by
  subst hW hL hR
  have := txt_split D S Q k (n - k) hk (by omega)
  rw [show k + (n - k) = n by omega] at this
  rw [this]
  apply ByteArray.ext
  simp
end Go.Proofs.Qxb6630177aDoor
