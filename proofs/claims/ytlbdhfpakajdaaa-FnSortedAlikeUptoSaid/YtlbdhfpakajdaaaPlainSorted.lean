/- FnSortedAlike: the plain part: one step of putting in order, and the order of encodings as strings. -/
import Derived.Test.YtlbdhfpakajdaaaPlainOrder
import Derived.Test.YtlbdhfpakajdaaaMem
import Derived.Laws.BytesArg
set_option linter.unusedVariables false
namespace Go.Proofs.Ytlbdhfpakajdaaa
open Go.RowKit P

/-- two neighbours exchanged -/
def swp (l : List Int) (k : Nat) : List Int := (l.set (k + 1) (l.getD k 0)).set k (l.getD (k + 1) 0)
/-- what is at place k goes back to where it belongs -/
def bub : List Int → Nat → List Int
  | l, 0 => l
  | l, k + 1 => if l.getD (k + 1) 0 < l.getD k 0 then bub (swp l k) k else l
theorem swp_len (l : List Int) (k : Nat) : (swp l k).length = l.length := by simp [swp]
theorem bub_len (l : List Int) (k : Nat) : (bub l k).length = l.length := by
  induction k generalizing l with
  | zero => rfl
  | succ k ih =>
    show (if _ then _ else _ : List Int).length = _
    split
    · rw [ih, swp_len]
    · rfl
theorem getD_of {l : List Int} {k : Nat} {x : Int} (h : l[k]? = some x) : l.getD k 0 = x := by rw [List.getD_eq_getElem?_getD, h]; rfl
theorem bub_yes {l : List Int} {k : Nat} {x y : Int} (h0 : 0 < k) (hx : l[k]? = some x) (hy : l[k - 1]? = some y) (h : x < y) : bub l k = bub ((l.set k y).set (k - 1) x) (k - 1) ∧ (l.set k y).set (k - 1) x = swp l (k - 1) := by
  obtain ⟨j, rfl⟩ : ∃ j, k = j + 1 := ⟨k - 1, by omega⟩
  simp only [Nat.add_sub_cancel] at hy ⊢
  have e : (l.set (j + 1) y).set j x = swp l j := by unfold swp; rw [getD_of hx, getD_of hy]
  refine ⟨?_, e⟩
  rw [e]
  show (if _ then _ else _) = _
  rw [getD_of hx, getD_of hy, if_pos h]
theorem bub_no {l : List Int} {k : Nat} (h : k = 0 ∨ ∃ x y, l[k]? = some x ∧ l[k - 1]? = some y ∧ ¬ x < y) : bub l k = l := by
  cases k with
  | zero => rfl
  | succ j =>
    rcases h with h | ⟨x, y, hx, hy, hn⟩
    · omega
    · simp only [Nat.add_sub_cancel] at hy
      show (if _ then _ else _) = _
      rw [getD_of hx, getD_of hy, if_neg hn]
theorem mem_swp {l : List Int} {k : Nat} {x y : Int} (hx : x ∈ l) (hy : y ∈ l) (i j : Nat) : ∀ r ∈ (l.set i y).set j x, r ∈ l := by
  intro r hr
  rcases List.mem_or_eq_of_mem_set hr with h | rfl
  · rcases List.mem_or_eq_of_mem_set h with h | rfl
    · exact h
    · exact hy
  · exact hx

/-! ### strings of bytes, compared -/
theorem less_ord : ∀ {xs ys : List Int}, Bytes xs → Bytes ys → Op.bytesLess (xs.map fun n => UInt8.ofNat n.toNat) (ys.map fun n => UInt8.ofNat n.toNat) = decide (ord id xs ys = -1)
  | [], [], _, _ => by simp [Op.bytesLess, ord]
  | x :: xs, [], _, _ => by rw [ord_cons_nil]; simp [Op.bytesLess]
  | [], y :: ys, _, _ => by rw [ord_nil_cons]; simp [Op.bytesLess]
  | x :: xs, y :: ys, hx, hy => by
    have ih := less_ord (fun z hz => hx z (List.mem_cons_of_mem _ hz)) (fun z hz => hy z (List.mem_cons_of_mem _ hz))
    have bx := hx x (by simp)
    have b_y := hy y (by simp)
    have e1 : (UInt8.ofNat x.toNat).toNat = x.toNat := by rw [UInt8.toNat_ofNat']; omega
    have e2 : (UInt8.ofNat y.toNat).toNat = y.toNat := by rw [UInt8.toNat_ofNat']; omega
    rw [ord_cons, List.map_cons, List.map_cons]
    simp only [Op.bytesLess]
    by_cases h : x = y
    · subst h
      rw [if_pos rfl, ← ih]
      simp
    · rw [if_neg h]
      have hne : (UInt8.ofNat x.toNat == UInt8.ofNat y.toNat) = false := by
        rw [beq_eq_false_iff_ne]
        intro e
        have := congrArg UInt8.toNat e
        rw [e1, e2] at this
        omega
      rw [hne, Bool.false_and, Bool.or_false, Bool.eq_iff_iff, decide_eq_true_iff, decide_eq_true_iff, UInt8.lt_iff_toNat_lt, e1, e2]
      unfold sgn
      simp only [id]
      constructor
      · intro h1; rw [if_pos (by omega)]
      · intro h1
        by_cases h2 : x - y < 0
        · omega
        · rw [if_neg h2, if_pos (by omega)] at h1; omega
theorem less_enc {r s : Int} (hr : good r = true) (hs : good s = true) : Op.bytesLess (strOfNums (enc r)).toList (strOfNums (enc s)).toList = decide (r < s) := by
  rw [ByteArray.toList_eq, ByteArray.toList_eq, strOfNums_data, strOfNums_data, less_ord (enc_bytes r) (enc_bytes s)]
  by_cases h : r = s
  · subst h
    have : ord id (enc r) (enc r) = 0 := by
      have h := ord_app id (enc r) [] []
      simpa [ord, sgn] using h
    rw [this]; simp
  · have h2 := ord_enc hr hs h [] []
    simp only [List.append_nil] at h2
    rw [h2, Bool.eq_iff_iff, decide_eq_true_iff, decide_eq_true_iff]
    unfold sgn
    constructor
    · intro h1
      by_cases h3 : r - s < 0
      · omega
      · rw [if_neg h3, if_pos (by omega)] at h1; omega
    · intro h1; rw [if_pos (by omega)]
end Go.Proofs.Ytlbdhfpakajdaaa
