/- Contract of impl.PairsOf. -/
import Derived.Test.YtmpaccpkanlpiaaAppB
import Derived.Test.YtmpaccpkanlpiaaStep
set_option linter.unusedVariables false
namespace Go.Proofs.Ytmpaccpkanlpiaa
open Go.RowKit P

/-- what utf16.DecodeRune gives -/
def dr (a b : Int) : Int := if isPair a b = true then pairR a b else 65533
theorem dr_any (a b : Int) (w : World) : Calls Try.prog 45 #[.int .i32 a, .int .i32 b] w fun e w' => e = .returned (.int .i32 (dr a b)) ∧ w' = w := by
  unfold dr
  by_cases h : isPair a b = true
  · rw [if_pos h]; exact (decodeRune16_pair a b h w).mono fun _ _ h => ⟨h.1, h.2.symm⟩
  · rw [if_neg h]; exact (decodeRune16_none a b (by simpa using h) w).mono fun _ _ h => ⟨h.1, h.2.symm⟩
/-- the pairs of neighbours -/
def prs : List Int → List Int
  | [] => []
  | [_] => []
  | a :: b :: t => dr a b :: prs (b :: t)
theorem prs_length : ∀ (l : List Int), (prs l).length = l.length - 1
  | [] => rfl
  | [_] => rfl
  | a :: b :: t => by simp only [prs, List.length_cons, prs_length (b :: t)]; omega
theorem drop_at2 {l : List Int} {k : Nat} {x : Int} (h : l[k]? = some x) : l.drop k = x :: l.drop (k + 1) := by
  obtain ⟨hk, rfl⟩ := List.getElem?_eq_some_iff.1 h
  exact List.drop_eq_getElem_cons hk
theorem prs_step {l : List Int} {k : Nat} {a b : Int} (ha : l[k]? = some a) (hb : l[k + 1]? = some b) : prs (l.drop k) = dr a b :: prs (l.drop (k + 1)) := by
  rw [drop_at2 ha, drop_at2 hb]; rfl
theorem prs_end {l : List Int} {k : Nat} (h : l.length ≤ k + 1) : prs (l.drop k) = [] := by
  apply List.eq_nil_of_length_eq_zero
  rw [prs_length, List.length_drop]; omega
theorem prs_at : ∀ {l : List Int} {k : Nat} {a b : Int}, l[k]? = some a → l[k + 1]? = some b → (prs l)[k]? = some (dr a b)
  | [], _, _, _, h, _ => by simp at h
  | [_], 0, _, _, _, h => by simp at h
  | [_], _ + 1, _, _, h, _ => by simp at h
  | x :: y :: t, 0, _, _, ha, hb => by simp at ha hb; subst ha; subst hb; rfl
  | x :: y :: t, k + 1, _, _, ha, hb => by
    simp only [prs, List.getElem?_cons_succ] at ha hb ⊢
    exact prs_at ha hb
theorem pair_big {a b : Int} (h : isPair a b = true) : 65536 ≤ pairR a b ∧ pairR a b ≤ 1114111 := by
  rw [isPair_iff] at h; unfold pairR; omega

set_option maxHeartbeats 2000000 in
theorem pairsOf_any {A : Option Addr} {us : List Int} {c : Nat} {w : World} (hu : Rd w .u16 A us) (hw : Units us) (hl : us.length ≤ 35184372088832) :
    Calls Try.prog 20 #[.slice A us.length c] w (Made w 21 .i32 (prs us)) := by
  go_enter Try.func20, Try.ntmps20
  go_wp2
  go_loopw [3, 4] (fun v i wr => ∃ (k : Nat) (A : Option Addr) (c : Nat) (acc : List Int), k ≤ us.length ∧ i = .int .i64 ((k : Int) + 1) ∧ Hid (acc ++ prs (us.drop k) = prs us) ∧ acc.length ≤ k ∧ v = .slice A acc.length c ∧ Own wr w.heap.size 21 .i32 (.slice A acc.length c) acc ∧ Below w.heap.size w wr)
    (fun _ i _ => us.length + 1 - (intOf i).toNat)
  case atStart => exact ⟨0, none, 0, [], Nat.zero_le _, rfl, rfl, Nat.le_refl _, rfl, Own.nil _ _ _ _, Below.refl _ _⟩
  case round =>
    obtain ⟨k, A2, c2, acc, hk, rfl, hacc, hle, rfl, hown, hbel⟩ := hrel
    have hsz := hbel.size
    by_cases hlt : k + 1 < us.length
    · obtain ⟨b, off, x, rfl, hb, hxk, hcx⟩ := (hu.next hbel).at_ (show k < us.length by omega)
      obtain ⟨b', off', y, heq, hb', hyk, hcy⟩ := (hu.next hbel).at_ hlt
      injection heq with heq
      injection heq with hbb hoo
      subst hbb hoo
      have hx16 := hw x (mem_at hxk)
      have hy16 := hw y (mem_at hyk)
      have hst := prs_step hxk hyk
      have HS := Lib.hid hst
      have hx0 := hx16.1
      have hx1 := hx16.2
      have hy0 := hy16.1
      have hy1 := hy16.2
      clear hxk hyk hst hx16 hy16
      have h1 : (k : Int) + 1 < (us.length : Int) := by omega
      have h2 : (k : Int) < (us.length : Int) := by omega
      have hwk : IntKind.i64.wrap (k : Int) = (k : Int) := IntWalk.i64_in _ (by omega)
      have hk0 : (0 : Int) ≤ (k : Int) := by omega
      have hk1 : (0 : Int) ≤ (k : Int) + 1 := by omega
      have hwx : IntKind.i32.wrap x = x := IntWalk.i32_in _ (by omega)
      have hwy : IntKind.i32.wrap y = y := IntWalk.i32_in _ (by omega)
      go_wp2
      go_region_law (first
        | (refine step_app1 rfl (.tmp 11) (.tmp 24) 22 rfl w.heap.size 21 .i32 4 Try.underlying22 info_i32 (dr x y) hown (by rfl) (by rfl) (by omega) (by unfold maxLen; omega) (by omega) ?_; intro A1 c1 acc1 w1 he1 hown1 hg1)
        | (go_simp; go_at_call 45; refine (dr_any _ _ _).mono ?_; rintro e w' ⟨rfl, rfl⟩))
      all_goals
        clear hwk hwx hwy
        go_wp2
        have hb1 := hg1.below_new hown hsz
        have hal : acc1.length ≤ k + 1 := by rw [he1.out]; simp; omega
        clear hown hg1
        go_roundw
        case rel =>
          refine ⟨k + 1, A1, c1, acc1, by omega, by go_num, ?_, hal, rfl, hown1, hbel.trans hb1⟩
          show _ = _
          rw [← hacc.out, HS.out, he1.out]; simp
        case measure => simp [intOf]; omega
    · have h1 : ¬ (k : Int) + 1 < (us.length : Int) := by omega
      go_wp2
      go_ret
      refine ⟨A2, c2, acc, ?_, rfl, hown, hbel⟩
      show acc = _
      rw [← hacc.out, prs_end (by omega), List.append_nil]
end Go.Proofs.Ytmpaccpkanlpiaa
