/- FnUnitCuts: the walk. -/
import Derived.Test.YtmpaccpkanlpiaaPlainCuts
import Derived.Test.YtmpaccpkanlpiaaQuiet
import Derived.Test.YtmpaccpkanlpiaaUnits2
set_option linter.unusedVariables false
namespace Go.Proofs.Ytmpaccpkanlpiaa
open Go.RowKit P

theorem decodeUnits_m {A : Option Addr} {us : List Int} {c n : Nat} {w : World} (hu : Rd w .u16 A us) (hn : us.length = n) (hw : Units us) (hlu : us.length ≤ 1048576) :
    Calls Try.prog 23 #[.slice A n c] w (Made w 21 .i32 (dec16 us)) := by
  subst hn; exact decodeUnits_any hu hw (by omega) (by have := dec16_le us; omega)
theorem dec_i32 {us d : List Int} (hw : Units us) (h : d = dec16 us) : I32 d := fun r hr => by
  rw [h] at hr; have := good_iff.1 (dec16_good _ _ (Nat.le_refl _) hw r hr); omega
theorem unitsTake {us : List Int} (h : Units us) (n : Nat) : Units (us.take n) := fun x hx => h x (List.mem_of_mem_take hx)
theorem unitsDrop {us : List Int} (h : Units us) (n : Nat) : Units (us.drop n) := fun x hx => h x (List.mem_of_mem_drop hx)

set_option maxRecDepth 100000 in
set_option maxHeartbeats 1000000 in
theorem unitCuts_walk {A : Option Addr} {us : List Int} {c : Nat} {kk : Int} {w : World} (hu : Rd w .u16 A us) (hw : Units us) (hl : us.length ≤ 1048576) (hcap : us.length ≤ c) :
    Calls Try.prog 7 #[.slice A us.length c, .int .i64 kk] w fun e w' => e = .returned (.bool true) ∧ Below w.heap.size w w' := by
  obtain ⟨j16, hj16, _, hs16, _⟩ := info_parts info_u16
  obtain ⟨j8, hj8, _, hs8, _⟩ := info_parts info_u8
  have J16 := Lib.hid (And.intro hj16 hs16)
  have J8 := Lib.hid (And.intro hj8 hs8)
  clear hj16 hs16 hj8 hs8
  go_enter Try.func7, Try.ntmps7
  go_wp2_with fail
  refine (placeIn_any kk us.length (by omega) (by omega) _).mono ?_
  rintro e w0 ⟨at_, hat, rfl, rfl⟩
  have hat' : at_ ≤ us.length := by omega
  have hcl := fun W => run_cut_h (P := Try.prog) (w := W) 29 33 Try.underlying29 j16 J16.out.1 A us.length c at_ at_ rfl (by omega)
  have hcr := fun W => run_cut_l (P := Try.prog) (w := W) 29 33 Try.underlying29 j16 J16.out.1 J16.out.2 A us.length c at_ at_ rfl (by omega)
  go_wp2_with fail
  refine (decodeUnits_m (hu.take at_) (by rw [List.length_take]; omega) (unitsTake hw _) (by rw [List.length_take]; omega)).mono ?_
  rintro e w1 ⟨A1, c1, d1, hd1, rfl, o1, l1⟩
  have zd1 : d1.length ≤ 1048576 := by rw [hd1.out]; have := dec16_le (us.take at_); rw [List.length_take] at this; omega
  go_wp2_with fail
  refine (appendNil_any o1.rd (dec_i32 (unitsTake hw _) hd1.out) (by omega)).mono ?_
  rintro e w2 ⟨A2, c2, L, hL, rfl, o2, l2⟩
  have l02 := bnext l1 l2
  go_wp2_with fail
  refine (decodeUnits_m ((hu.next l02).drop c at_ hcap) (by rw [List.length_drop]) (unitsDrop hw _) (by rw [List.length_drop]; omega)).mono ?_
  rintro e w3 ⟨A3, c3, d3, hd3, rfl, o3, l3⟩
  have zd3 : d3.length ≤ 1048576 := by rw [hd3.out]; have := dec16_le (us.drop at_); rw [List.length_drop] at this; omega
  go_wp2_with fail
  refine (appendNil_any o3.rd (dec_i32 (unitsDrop hw _) hd3.out) (by omega)).mono ?_
  rintro e w4 ⟨A4, c4, R, hR, rfl, o4, l4⟩
  have l24 := bnext l3 l4
  have l04 := bnext l02 l24
  go_wp2_with fail
  refine (decodeUnits_m (hu.next l04) rfl hw hl).mono ?_
  rintro e w5 ⟨A5, c5, d5, hd5, rfl, o5, l5⟩
  have zd5 : d5.length ≤ 1048576 := by rw [hd5.out]; have := dec16_le us; omega
  go_wp2_with fail
  refine (appendNil_any o5.rd (dec_i32 hw hd5.out) (by omega)).mono ?_
  rintro e w6 ⟨A6, c6, F, hF, rfl, o6, l6⟩
  have l46 := bnext l5 l6
  have zL : L.length ≤ 4194304 := by rw [hL.out]; have := (encs_len d1).2; omega
  have zR : R.length ≤ 4194304 := by rw [hR.out]; have := (encs_len d3).2; omega
  have zF : F.length ≤ 4194304 := by rw [hF.out]; have := (encs_len d5).2; omega
  have eL : Hid (L = encs (dec16 (us.take at_))) := by show _ = _; rw [hL.out, hd1.out]
  have eR : Hid (R = encs (dec16 (us.drop at_))) := by show _ = _; rw [hR.out, hd3.out]
  have eF : Hid (F = encs (dec16 us)) := by show _ = _; rw [hF.out, hd5.out]
  have rL := (o2.next (bnext l24 l46)).rd
  have rR := (o4.next l46).rd
  have rF := o6.rd
  have kL := o2.len.2
  have kR := o4.len.2
  have kF := o6.len.2
  have l06 := bnext l04 l46
  have ru := hu.next l06
  clear o1 o2 o3 o4 o5 o6 l1 l2 l3 l4 l5 l6 l02 l24 l46 l04 hu hcl hcr hd1 hd3 hd5 hL hR hF zd1 zd3 zd5
  have main : (∀ a b, 0 < at_ → us[at_ - 1]? = some a → us[at_]? = some b → isPair a b = false) → ∀ J J1 : List Int, J1 = [] ++ L → J = J1 ++ R → decide (J = F) = true := fun h J J1 h1 h2 => by
    rw [h2, h1, eL.out, eR.out, eF.out, cut_none us at_ h]; simp
  have HM := Lib.hid main
  clear main
  rcases (by omega : at_ ≤ 0 ∨ (0 < at_ ∧ us.length ≤ at_) ∨ (0 < at_ ∧ at_ < us.length)) with h0 | ⟨h0, h1⟩ | ⟨h0, h1⟩
  · have hno := fun J J1 => HM.out (fun a b hk _ _ => absurd hk (by omega)) J J1
    have HNO := Lib.hid hno
    clear hno HM
    have z0 : ((at_ : Int) == 0) = true := by simp only [beq_iff_eq]; omega
    have Z0 := Lib.hid h0
    clear h0
    go_wp2_with (first
    | (at_builtin; refine wpList_appRd _ rfl (.tmp 28) (.tmp 29) 26 rfl w6.heap.size 5 .u8 1 Try.underlying26 info_u8 c2 (rL.alloc _) _ rfl (Own.empty _ _ _) rfl rfl (by simp; omega) (by unfold maxLen; simp; omega) (by simp) ?_; intro A7 c7 J1 w7 hJ1 o7 g7; have b7 := g7.below_lit)
    | (at_builtin; refine wpList_appRd _ rfl (.tmp 30) (.tmp 31) 26 rfl w6.heap.size 5 .u8 1 Try.underlying26 info_u8 c4 (rR.next b7) _ rfl o7 rfl rfl (by rw [hJ1.out]; simp; omega) (by rw [hJ1.out]; unfold maxLen; simp; omega) b7.size ?_; intro A8 c8 J w8 hJ o8 g8; have b8 := b7.trans (g8.below_ o7 b7.size); have zJ : J.length ≤ 8388608 := by rw [hJ.out, hJ1.out]; simp; omega)
    | (go_at_call 19; refine (sameBytes_any o8.rd (rF.next b8) (by omega)).mono ?_; rw [HNO.out J J1 hJ1.out hJ.out]; rintro e w9 ⟨rfl, n9, rfl⟩))
    go_ret
    exact ⟨rfl, bdrewN (bnext l06 b8) _⟩
  · have hno := fun J J1 => HM.out (fun a b _ _ hb => by rw [List.getElem?_eq_none (by omega)] at hb; cases hb) J J1
    have HNO := Lib.hid hno
    clear hno HM
    have z0 : ((at_ : Int) == 0) = false := by simp only [beq_eq_false_iff_ne, ne_eq]; omega
    have z1 : ((at_ : Int) == (us.length : Int)) = true := by simp only [beq_iff_eq]; omega
    have H1 := Lib.hid h1
    clear h1
    go_wp2_with (first
    | (at_builtin; refine wpList_appRd _ rfl (.tmp 28) (.tmp 29) 26 rfl w6.heap.size 5 .u8 1 Try.underlying26 info_u8 c2 (rL.alloc _) _ rfl (Own.empty _ _ _) rfl rfl (by simp; omega) (by unfold maxLen; simp; omega) (by simp) ?_; intro A7 c7 J1 w7 hJ1 o7 g7; have b7 := g7.below_lit)
    | (at_builtin; refine wpList_appRd _ rfl (.tmp 30) (.tmp 31) 26 rfl w6.heap.size 5 .u8 1 Try.underlying26 info_u8 c4 (rR.next b7) _ rfl o7 rfl rfl (by rw [hJ1.out]; simp; omega) (by rw [hJ1.out]; unfold maxLen; simp; omega) b7.size ?_; intro A8 c8 J w8 hJ o8 g8; have b8 := b7.trans (g8.below_ o7 b7.size); have zJ : J.length ≤ 8388608 := by rw [hJ.out, hJ1.out]; simp; omega)
    | (go_at_call 19; refine (sameBytes_any o8.rd (rF.next b8) (by omega)).mono ?_; rw [HNO.out J J1 hJ1.out hJ.out]; rintro e w9 ⟨rfl, n9, rfl⟩))
    go_ret
    exact ⟨rfl, bdrewN (bnext l06 b8) _⟩
  · obtain ⟨ba, oa, a, hA, hba, hak, hca⟩ := ru.at_ (i := at_ - 1) (by omega)
    obtain ⟨bb, ob, b, hA2, hbb, hbk, hcb⟩ := ru.at_ (i := at_) h1
    subst hA
    injection hA2 with hA2
    injection hA2 with hq1 hq2
    subst hq1 hq2
    have z0 : ((at_ : Int) == 0) = false := by simp only [beq_eq_false_iff_ne, ne_eq]; omega
    have z1 : ((at_ : Int) == (us.length : Int)) = false := by simp only [beq_eq_false_iff_ne, ne_eq]; omega
    have i1 : (at_ : Int) < (us.length : Int) := by omega
    by_cases hp : isPair a b = true
    · obtain ⟨X, Q, S, e1, e2, e3, hQ⟩ := cut_pair h0 hak hbk hp
      have hla : isH a = true := by unfold isPair at hp; simp at hp; exact hp.1
      have hlb : isL b = true := by unfold isPair at hp; simp at hp; exact hp.2
      have hca8 : ∀ W, Below w6.heap.size w6 W → W.cell? ⟨ba, oa + (at_ - 1), none⟩ = some (.int .u16 a) := fun W hW => (hW.cell (p := ⟨ba, oa + (at_ - 1), none⟩) hba).trans hca
      have hcb8 : ∀ W, Below w6.heap.size w6 W → W.cell? ⟨ba, oa + at_, none⟩ = some (.int .u16 b) := fun W hW => (hW.cell (p := ⟨ba, oa + at_, none⟩) hba).trans hcb
      have HCA := Lib.hid hca8
      have HCB := Lib.hid hcb8
      rw [← eL.out] at e1
      rw [← eR.out] at e2
      rw [← eF.out] at e3
      have n1 : L.length = X.length + 3 := by rw [e1, List.length_append]; rfl
      have n2 : R.length = S.length + 3 := by rw [e2, List.length_append]; show 3 + S.length = _; omega
      have n3 : F.length = X.length + 4 + S.length := by rw [e3, List.length_append, List.length_append, hQ]; omega
      have f1 : L.drop (L.length - 3) = markB := by rw [n1, e1, show X.length + 3 - 3 = X.length by omega, List.drop_left]
      have f2 : R.take 3 = markB := by rw [e2]; rfl
      have f3 : F.take (L.length - 3) = L.take (L.length - 3) := by rw [n1, e3, e1, show X.length + 3 - 3 = X.length by omega, List.take_left, List.take_left]
      have f4 : F.drop (F.length - R.length + 3) = R.drop 3 := by
        rw [show F.length - R.length + 3 = X.length + 4 by omega, e3, ← List.append_assoc, e2]
        rw [List.drop_left' (by simp [hQ]), show (markB ++ S).drop 3 = S from rfl]
      have N1 : 3 ≤ L.length := by omega
      have N2 : 3 ≤ R.length := by omega
      have N3 : R.length ≤ F.length + 3 := by omega
      have N3' : R.length ≤ F.length := by omega
      have N4 : L.length ≤ F.length := by omega
      have N5 : L.length + R.length = F.length + 2 := by omega
      have hr4 : Hid (F.length - (F.length - R.length + 3) = R.length - 3) := by show _ = _; omega
      have HN5 := Lib.hid N5
      have F1 := Lib.hid f1
      have F2 := Lib.hid f2
      have F3 := Lib.hid f3
      have F4 := Lib.hid f4
      clear n1 n2 n3 f1 f2 f3 f4 e1 e2 e3 hQ N5 hp hak hbk hca hcb hca8 hcb8 HM
      go_wp2_with (first
        | (at_builtin; refine wpList_appRd _ rfl (.tmp 28) (.tmp 29) 26 rfl w6.heap.size 5 .u8 1 Try.underlying26 info_u8 c2 (rL.alloc _) _ rfl (Own.empty _ _ _) rfl rfl (by simp; omega) (by unfold maxLen; simp; omega) (by simp) ?_; intro A7 c7 J1 w7 hJ1 o7 g7; have b7 := g7.below_lit)
        | (at_builtin; refine wpList_appRd _ rfl (.tmp 30) (.tmp 31) 26 rfl w6.heap.size 5 .u8 1 Try.underlying26 info_u8 c4 (rR.next b7) _ rfl o7 rfl rfl (by rw [hJ1.out]; simp; omega) (by rw [hJ1.out]; unfold maxLen; simp; omega) b7.size ?_; intro A8 c8 J w8 hJ o8 g8; have b8 := b7.trans (g8.below_ o7 b7.size); have cA := HCA.out _ b8; have cB := HCB.out _ b8; have zJ : J.length ≤ 8388608 := by rw [hJ.out, hJ1.out]; simp; omega)
        | (go_at_call 33; refine (isFirst_any _ _).mono ?_; rintro e w' ⟨rfl, rfl⟩; have hJF : ((J.length : Int) != (F.length : Int) + 2) = false := by simp only [bne_eq_false_iff_eq]; rw [hJ.out, hJ1.out]; simp; have := HN5.out; omega)
        | (go_at_call 34; refine (isSecond_any _ _).mono ?_; rintro e w' ⟨rfl, rfl⟩))
      have hmk : Rd (w8.alloc (.cells #[.int .u8 239, .int .u8 191, .int .u8 189] 5)) .u8 (some ⟨w8.heap.size, 0, none⟩) markB := fun _ => by
        refine ⟨w8.heap.size, 0, rfl, by simp, fun j x hx => ?_⟩
        rw [World.cell?_alloc_at _ _ _ _ rfl]
        match j, hx with
        | 0, hx => simp [markB] at hx; subst hx; rfl
        | 1, hx => simp [markB] at hx; subst hx; rfl
        | 2, hx => simp [markB] at hx; subst hx; rfl
      have b9 : Below w6.heap.size w6 (w8.alloc (.cells #[.int .u8 239, .int .u8 191, .int .u8 189] 5)) := b8.alloc b8.size _
      have lL := rL.next b9
      have lR := rR.next b9
      have lF := rF.next b9
      have bl9 := bnext l06 b9
      clear hJF zJ cA cB HCA HCB hJ hJ1 o7 o8 g7 g8 b7 b8 rL rR rF ru z0 z1 i1 hla hlb
      generalize w8.alloc (.cells #[.int .u8 239, .int .u8 191, .int .u8 189] 5) = w9 at *
      have c1 : ∀ n, Calls Try.prog 19 #[.slice (cutA A2 c2 (L.length - 3)) 3 (c2 - (L.length - 3)), .slice (some ⟨w8.heap.size, 0, none⟩) 3 3] (w9.drewN n) fun e w' => e = .returned (.bool true) ∧ ∃ m, w' = (w9.drewN n).drewN m := fun n => by
        have h := sameBytes_n (n := 3) (m := 3) (c := c2 - (L.length - 3)) (c' := 3) ((lL.drop c2 (L.length - 3) kL).drewN n) (hmk.drewN n) (by rw [F1.out]; rfl) rfl (by omega)
        rw [F1.out] at h
        simpa using h
      have c2' : ∀ n, Calls Try.prog 19 #[.slice A4 3 c4, .slice (some ⟨w8.heap.size, 0, none⟩) 3 3] (w9.drewN n) fun e w' => e = .returned (.bool true) ∧ ∃ m, w' = (w9.drewN n).drewN m := fun n => by
        have h := sameBytes_n (n := 3) (m := 3) (c := c4) (c' := 3) ((lR.take 3).drewN n) (hmk.drewN n) (by rw [F2.out]; rfl) rfl (by omega)
        rw [F2.out] at h
        simpa using h
      have c3' : ∀ n, Calls Try.prog 19 #[.slice A6 (L.length - 3) c6, .slice A2 (L.length - 3) c2] (w9.drewN n) fun e w' => e = .returned (.bool true) ∧ ∃ m, w' = (w9.drewN n).drewN m := fun n => by
        have h := sameBytes_n (n := L.length - 3) (m := L.length - 3) (c := c6) (c' := c2) ((lF.take (L.length - 3)).drewN n) ((lL.take (L.length - 3)).drewN n) (by rw [List.length_take]; omega) (by rw [List.length_take]; omega) (by omega)
        rw [F3.out] at h
        simpa using h
      have c4' : ∀ n, Calls Try.prog 19 #[.slice (cutA A6 c6 (F.length - R.length + 3)) (R.length - 3) (c6 - (F.length - R.length + 3)), .slice (cutA A4 c4 3) (R.length - 3) (c4 - 3)] (w9.drewN n) fun e w' => e = .returned (.bool true) ∧ ∃ m, w' = (w9.drewN n).drewN m := fun n => by
        have h := sameBytes_n (n := R.length - 3) (m := R.length - 3) (c := c6 - (F.length - R.length + 3)) (c' := c4 - 3) ((lF.drop c6 (F.length - R.length + 3) kF).drewN n) ((lR.drop c4 3 kR).drewN n) (by rw [List.length_drop, hr4.out]) (by rw [List.length_drop]) (by omega)
        rw [F4.out] at h
        simpa using h
      have C1 := Lib.hid c1
      have C2 := Lib.hid c2'
      have C3 := Lib.hid c3'
      have C4 := Lib.hid c4'
      clear c1 c2' c3' c4' lL lR lF hmk
      have k1 := fun W => run_cut_l (P := Try.prog) (w := W) 26 5 Try.underlying26 j8 J8.out.1 J8.out.2 A2 L.length c2 (L.length - 3) ((L.length : Int) - 3) (by omega) (by omega)
      have k2 := fun W => run_cut_h (P := Try.prog) (w := W) 26 5 Try.underlying26 j8 J8.out.1 A4 R.length c4 3 3 rfl (by omega)
      have k3 := fun W => run_cut_h (P := Try.prog) (w := W) 26 5 Try.underlying26 j8 J8.out.1 A6 F.length c6 (L.length - 3) ((L.length : Int) - 3) (by omega) (by omega)
      have k4 := fun W => run_cut_h (P := Try.prog) (w := W) 26 5 Try.underlying26 j8 J8.out.1 A2 L.length c2 (L.length - 3) ((L.length : Int) - 3) (by omega) (by omega)
      have k5 := fun W => run_cut_l (P := Try.prog) (w := W) 26 5 Try.underlying26 j8 J8.out.1 J8.out.2 A6 F.length c6 (F.length - R.length + 3) ((F.length : Int) - (R.length : Int) + 3) (by omega) (by omega)
      have k6 := fun W => run_cut_l (P := Try.prog) (w := W) 26 5 Try.underlying26 j8 J8.out.1 J8.out.2 A4 R.length c4 3 3 rfl (by omega)
      have e33 : L.length - (L.length - 3) = 3 := by omega
      rw [e33] at k1
      rw [hr4.out] at k5
      clear e33
      have v1 : IntKind.i64.wrap ((L.length : Int) - 3) = (L.length : Int) - 3 := IntWalk.i64_in _ (by omega)
      have v2 : IntKind.i64.wrap ((F.length : Int) - (R.length : Int)) = (F.length : Int) - (R.length : Int) := IntWalk.i64_in _ (by omega)
      have v3 : IntKind.i64.wrap ((F.length : Int) - (R.length : Int) + 3) = (F.length : Int) - (R.length : Int) + 3 := IntWalk.i64_in _ (by omega)
      go_quiet ((go_at_call 19; first | (with_reducible exact quiet_at (C1.out _)) | (with_reducible exact quiet_at (C2.out _)) | (with_reducible exact quiet_at (C3.out _)) | (with_reducible exact quiet_at (C4.out _))))
      go_wp2
      go_ret
      exact ⟨rfl, bdrewN bl9 _⟩
    · have hp' : isPair a b = false := by simpa using hp
      have hno := fun J J1 => HM.out (fun a' b' _ ha hb => by rw [hak] at ha; rw [hbk] at hb; injection ha with ha; injection hb with hb; subst ha; subst hb; exact hp') J J1
      have HNO := Lib.hid hno
      have hca8 : ∀ W, Below w6.heap.size w6 W → W.cell? ⟨ba, oa + (at_ - 1), none⟩ = some (.int .u16 a) := fun W hW => (hW.cell (p := ⟨ba, oa + (at_ - 1), none⟩) hba).trans hca
      have hcb8 : ∀ W, Below w6.heap.size w6 W → W.cell? ⟨ba, oa + at_, none⟩ = some (.int .u16 b) := fun W hW => (hW.cell (p := ⟨ba, oa + at_, none⟩) hba).trans hcb
      have HCA := Lib.hid hca8
      have HCB := Lib.hid hcb8
      have hcase : isH a = false ∨ (isH a = true ∧ isL b = false) := by
        unfold isPair at hp'
        cases ha : isH a
        · exact .inl rfl
        · right; rw [ha] at hp'; simpa using hp'
      clear hno HM hp hp' hak hbk hca hcb hca8 hcb8
      rcases hcase with q1 | ⟨q1, q2⟩
      · go_wp2_with (first
        | (at_builtin; refine wpList_appRd _ rfl (.tmp 28) (.tmp 29) 26 rfl w6.heap.size 5 .u8 1 Try.underlying26 info_u8 c2 (rL.alloc _) _ rfl (Own.empty _ _ _) rfl rfl (by simp; omega) (by unfold maxLen; simp; omega) (by simp) ?_; intro A7 c7 J1 w7 hJ1 o7 g7; have b7 := g7.below_lit)
        | (at_builtin; refine wpList_appRd _ rfl (.tmp 30) (.tmp 31) 26 rfl w6.heap.size 5 .u8 1 Try.underlying26 info_u8 c4 (rR.next b7) _ rfl o7 rfl rfl (by rw [hJ1.out]; simp; omega) (by rw [hJ1.out]; unfold maxLen; simp; omega) b7.size ?_; intro A8 c8 J w8 hJ o8 g8; have b8 := b7.trans (g8.below_ o7 b7.size); have cA := HCA.out _ b8; have cB := HCB.out _ b8; have zJ : J.length ≤ 8388608 := by rw [hJ.out, hJ1.out]; simp; omega)
        | (go_at_call 33; refine (isFirst_any _ _).mono ?_; rintro e w' ⟨rfl, rfl⟩)
        | (go_at_call 19; refine (sameBytes_any o8.rd (rF.next b8) (by omega)).mono ?_; rw [HNO.out J J1 hJ1.out hJ.out]; rintro e w9 ⟨rfl, n9, rfl⟩))
        go_ret
        exact ⟨rfl, bdrewN (bnext l06 b8) _⟩
      · go_wp2_with (first
        | (at_builtin; refine wpList_appRd _ rfl (.tmp 28) (.tmp 29) 26 rfl w6.heap.size 5 .u8 1 Try.underlying26 info_u8 c2 (rL.alloc _) _ rfl (Own.empty _ _ _) rfl rfl (by simp; omega) (by unfold maxLen; simp; omega) (by simp) ?_; intro A7 c7 J1 w7 hJ1 o7 g7; have b7 := g7.below_lit)
        | (at_builtin; refine wpList_appRd _ rfl (.tmp 30) (.tmp 31) 26 rfl w6.heap.size 5 .u8 1 Try.underlying26 info_u8 c4 (rR.next b7) _ rfl o7 rfl rfl (by rw [hJ1.out]; simp; omega) (by rw [hJ1.out]; unfold maxLen; simp; omega) b7.size ?_; intro A8 c8 J w8 hJ o8 g8; have b8 := b7.trans (g8.below_ o7 b7.size); have cA := HCA.out _ b8; have cB := HCB.out _ b8; have zJ : J.length ≤ 8388608 := by rw [hJ.out, hJ1.out]; simp; omega)
        | (go_at_call 33; refine (isFirst_any _ _).mono ?_; rintro e w' ⟨rfl, rfl⟩)
        | (go_at_call 34; refine (isSecond_any _ _).mono ?_; rintro e w' ⟨rfl, rfl⟩)
        | (go_at_call 19; refine (sameBytes_any o8.rd (rF.next b8) (by omega)).mono ?_; rw [HNO.out J J1 hJ1.out hJ.out]; rintro e w9 ⟨rfl, n9, rfl⟩))
        go_ret
        exact ⟨rfl, bdrewN (bnext l06 b8) _⟩
end Go.Proofs.Ytmpaccpkanlpiaa
