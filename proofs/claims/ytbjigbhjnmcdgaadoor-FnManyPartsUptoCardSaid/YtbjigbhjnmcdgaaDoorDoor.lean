/- What is decoded of encoded texts, and the contract of runesOf. -/
import Derived.Test.YtbjigbhjnmcdgaaDoorPlainDoor
import Derived.Test.YtbjigbhjnmcdgaaDoorDecBytes
import Derived.Test.YtbjigbhjnmcdgaaDoorFrom
import Derived.Test.YtbjigbhjnmcdgaaDoorPlainEnds
import Derived.Test.YtbjigbhjnmcdgaaDoorWGoods
set_option linter.unusedVariables false
namespace Go.Proofs.YtbjigbhjnmcdgaaDoor
open Go.RowKit P

theorem runes8_encs {g : List Int} (h : ∀ r ∈ g, good r = true) : runes8 (encs g) = g := by
  unfold runes8
  rw [decs_encs', List.map_map]
  exact map_fix_good h
theorem runes8_fix (g : List Int) : runes8 (encs g) = g.map fix := by
  unfold runes8
  rw [decs_encs', List.map_map]; rfl
theorem sizes8_encs (g : List Int) : sizes8 (encs g) = g.map fun r => ((enc r).length : Int) := by
  unfold sizes8
  rw [decs_encs', List.map_map]; rfl
theorem runes8_good : ∀ (n : Nat) (l : List Int), l.length ≤ n → Bytes l → ∀ r ∈ runes8 l, good r = true
  | 0, l, hn, hb, r, hr => by
    obtain rfl := List.eq_nil_of_length_eq_zero (Nat.le_zero.1 hn)
    simp [runes8, decs_nil] at hr
  | n + 1, l, hn, hb, r, hr => by
    by_cases hne : l = []
    · subst hne; simp [runes8, decs_nil] at hr
    obtain ⟨s1, s2, s3⟩ := dec1_size hb hne
    rw [runes8_step hne] at hr
    rcases List.mem_cons.1 hr with e | e
    · rcases dec1_cases hb hne with hd | ⟨q, hq, _, hd⟩
      · rw [hd] at e; subst e; decide
      · rw [hd] at e; subst e; exact hq
    · exact runes8_good n _ (by simp; omega) (hb.drop _) r e
theorem runes8_i32 {l rs : List Int} (hb : Bytes l) (h : rs = runes8 l) : I32 rs := fun r hr => by
  rw [h] at hr; have := good_iff.1 (runes8_good _ l (Nat.le_refl _) hb r hr); omega
theorem runes8_app {p s : List Int} (hp : Bytes p) (hs : Bytes s) (h : Starts s) : runes8 (p ++ s) = runes8 p ++ runes8 s := by
  unfold runes8; rw [decs_split hp hs h, List.map_append]
theorem sizes8_sum {l : List Int} (hb : Bytes l) : (sizes8 l).sum = (l.length : Int) := by
  have h := decs_sum _ l (Nat.le_refl _) hb
  rw [← h]
  unfold sizes8
  generalize decs l = ds
  clear h hb
  induction ds with
  | nil => rfl
  | cons d ds ih => simp only [List.map_cons, List.sum_cons, ih]; omega
theorem sizes8_eight {l ss : List Int} (hb : Bytes l) (h : ss = sizes8 l) : ∀ x ∈ ss, -8 ≤ x ∧ x ≤ 1000000 := fun x hx => by
  have := sizes8_bounds hb h x hx; omega

theorem decodeBytes_m {A : Option Addr} {l : List Int} {c n : Nat} {w : World} (hr : Rd w .u8 A l) (hn : l.length = n) (hb : Bytes l) (hT : Tabs w) (hc : l.length ≤ c) (hl : l.length ≤ 17592186044416) :
    Calls Tryd.prog 7 #[.slice A n c] w (MadeTwo w (runes8 l) (sizes8 l)) := by
  subst hn; exact decodeBytes_any hr hb hT hc hl
end Go.Proofs.YtbjigbhjnmcdgaaDoor
