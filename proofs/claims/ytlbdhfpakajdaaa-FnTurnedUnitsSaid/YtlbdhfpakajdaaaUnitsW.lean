/- Contracts of utf16.decode, Decode and impl.DecodeUnits, up to the model's own bound. -/
import Derived.Test.YtlbdhfpakajdaaaUnits2
import Derived.Test.YtlbdhfpakajdaaaAppW
set_option linter.unusedVariables false
namespace Go.Proofs.Ytlbdhfpakajdaaa
open Go.RowKit P

set_option maxHeartbeats 2000000 in
theorem decode16_w {A : Option Addr} {base : Nat} {v : Value} {us xs : List Int} {c : Nat} {w : World} (hu : Rd w .u16 A us) (hw : Units us) (hown : Own w base 21 .i32 v xs) (hbase : w.heap.size ≤ base + 1) (hb0 : base ≤ w.heap.size)
    (hub : ∀ b off, A = some ⟨b, off, none⟩ → 0 < us.length → b < base) (hlu : us.length ≤ 1000000000000000) (hl : Fits (xs.length + (dec16 us).length) 4) :
    Calls Try.prog 32 #[.slice A us.length c, v] w (More w base 21 .i32 (xs ++ dec16 us)) := by
  have hN : xs.length + (dec16 us).length ≤ 70368744177664 := hl.four
  obtain ⟨A0, c0, hv⟩ := own_form hown
  subst hv
  go_enter Try.func32, Try.ntmps32
  go_wp2
  go_loopw [1, 5] (fun v i wr => ∃ (k : Nat) (A : Option Addr) (c : Nat) (acc : List Int), k ≤ us.length ∧ i = .int .i64 k ∧ Hid (acc ++ dec16 (us.drop k) = xs ++ dec16 us) ∧ v = .slice A acc.length c ∧ Own wr base 21 .i32 (.slice A acc.length c) acc ∧ Below base w wr)
    (fun _ i _ => us.length - (intOf i).toNat)
  case atStart => exact ⟨0, A0, c0, xs, Nat.zero_le _, rfl, rfl, rfl, hown, Below.refl _ _⟩
  case round =>
    clear hown
    obtain ⟨k, A2, c2, acc, hk, rfl, hacc, rfl, hown, hbel⟩ := hrel
    have hle : acc.length + (dec16 (us.drop k)).length ≤ xs.length + (dec16 us).length := by
      have := congrArg List.length hacc.out
      simp only [List.length_append] at this
      omega
    have hsz := Nat.le_trans hb0 hbel.size
    have hcells : ∀ j x, us[j]? = some x → ∃ b off, A = some ⟨b, off, none⟩ ∧ wr.cell? ⟨b, off + j, none⟩ = some (.int .u16 x) := fun j x hx => by
      have hj : 0 < us.length := by have := (List.getElem?_eq_some_iff.1 hx).1; omega
      obtain ⟨b, off, rfl, _, hc⟩ := hu hj
      exact ⟨b, off, rfl, (hbel.cell (p := ⟨b, off + j, none⟩) (hub b off rfl hj)).trans (hc j x hx)⟩
    have HC := Lib.hid hcells
    clear hcells
    by_cases hlt : k < us.length
    · obtain ⟨x, hxk⟩ : ∃ x, us[k]? = some x := ⟨us[k], List.getElem?_eq_getElem hlt⟩
      obtain ⟨b, off, rfl, hcx⟩ := HC.out k x hxk
      have hx16 := hw x (mem_at hxk)
      have HX := Lib.hid hxk
      have hx0 := hx16.1
      have hx1 := hx16.2
      clear hxk hx16
      have h1 : (k : Int) < (us.length : Int) := by omega
      have lone1 : (∀ v t', us.drop (k + 1) = v :: t' → isPair x v = false) → dec16 (us.drop k) = loneR x :: dec16 (us.drop (k + 1)) := fun h => by
        rw [drop_at HX.out]; exact dec16_cons x _ h
      have HL := Lib.hid lone1
      clear lone1
      have step : ∀ (m : Nat) (z : Int) (acc1 : List Int), dec16 (us.drop k) = z :: dec16 (us.drop m) → acc1 = acc ++ [z] → acc1 ++ dec16 (us.drop m) = xs ++ dec16 us := fun m z acc1 h1 h2 => by
        rw [h2, ← hacc.out, h1]; simp
      have HS := Lib.hid step
      clear step
      rcases (by omega : x < 55296 ∨ 57344 ≤ x ∨ (56320 ≤ x ∧ x < 57344) ∨ (55296 ≤ x ∧ x < 56320)) with hr | hr | ⟨hr, hr'⟩ | ⟨hr, hr'⟩
      · have hd : dec16 (us.drop k) = x :: dec16 (us.drop (k + 1)) := by
          have h := HL.out (fun v t' _ => by rw [isPair_false]; omega)
          rw [h]
          have : loneR x = x := by unfold loneR; rw [if_neg (by simp only [isH_iff, isL_iff]; omega)]
          rw [this]
        have hle1 : acc.length + 1 ≤ xs.length + (dec16 us).length := by rw [hd] at hle; simp at hle; omega
        have hf : Fits (acc.length + 1) 4 := hl.mono hle1
        have hf2 : acc.length + 1 ≤ maxLen := by unfold maxLen; omega
        have HD := Lib.hid hd
        clear hd
        go_wp2_with (at_builtin; refine wpList_app1w _ rfl _ _ 22 rfl base 21 .i32 4 Try.underlying22 info_i32 x hown rfl rfl hf hf2 hsz ?_; intro A1 c1 acc1 w1 he1 hown1 hg1)
        have hb1 := hg1.below_new hown hsz
        clear hown hg1
        go_roundw
        case rel => exact ⟨k + 1, A1, c1, acc1, by omega, by go_num, HS.out _ _ _ HD.out he1.out, rfl, hown1, hbel.trans hb1⟩
        case measure => simp [intOf]; omega
      · have hd : dec16 (us.drop k) = x :: dec16 (us.drop (k + 1)) := by
          have h := HL.out (fun v t' _ => by rw [isPair_false]; omega)
          rw [h]
          have : loneR x = x := by unfold loneR; rw [if_neg (by simp only [isH_iff, isL_iff]; omega)]
          rw [this]
        have hle1 : acc.length + 1 ≤ xs.length + (dec16 us).length := by rw [hd] at hle; simp at hle; omega
        have hf : Fits (acc.length + 1) 4 := hl.mono hle1
        have hf2 : acc.length + 1 ≤ maxLen := by unfold maxLen; omega
        have HD := Lib.hid hd
        clear hd
        go_wp2_with (at_builtin; refine wpList_app1w _ rfl _ _ 22 rfl base 21 .i32 4 Try.underlying22 info_i32 x hown rfl rfl hf hf2 hsz ?_; intro A1 c1 acc1 w1 he1 hown1 hg1)
        have hb1 := hg1.below_new hown hsz
        clear hown hg1
        go_roundw
        case rel => exact ⟨k + 1, A1, c1, acc1, by omega, by go_num, HS.out _ _ _ HD.out he1.out, rfl, hown1, hbel.trans hb1⟩
        case measure => simp [intOf]; omega
      · have hd : dec16 (us.drop k) = 65533 :: dec16 (us.drop (k + 1)) := by
          have h := HL.out (fun v t' _ => by rw [isPair_false]; omega)
          rw [h]
          have : loneR x = 65533 := by unfold loneR; rw [if_pos (by simp only [isH_iff, isL_iff]; omega)]
          rw [this]
        have hle1 : acc.length + 1 ≤ xs.length + (dec16 us).length := by rw [hd] at hle; simp at hle; omega
        have hf : Fits (acc.length + 1) 4 := hl.mono hle1
        have hf2 : acc.length + 1 ≤ maxLen := by unfold maxLen; omega
        have HD := Lib.hid hd
        clear hd
        go_wp2_with (at_builtin; refine wpList_app1w _ rfl _ _ 22 rfl base 21 .i32 4 Try.underlying22 info_i32 65533 hown rfl rfl hf hf2 hsz ?_; intro A1 c1 acc1 w1 he1 hown1 hg1)
        have hb1 := hg1.below_new hown hsz
        clear hown hg1
        go_roundw
        case rel => exact ⟨k + 1, A1, c1, acc1, by omega, by go_num, HS.out _ _ _ HD.out he1.out, rfl, hown1, hbel.trans hb1⟩
        case measure => simp [intOf]; omega
      · by_cases hlt2 : k + 1 < us.length
        · obtain ⟨y, hyk⟩ : ∃ y, us[k + 1]? = some y := ⟨us[k + 1], List.getElem?_eq_getElem hlt2⟩
          obtain ⟨b', off', heq, hcy⟩ := HC.out (k + 1) y hyk
          injection heq with heq
          injection heq with hbb hoo
          subst hbb hoo
          have hy16 := hw y (mem_at hyk)
          have HY := Lib.hid hyk
          have hy0 := hy16.1
          have hy1 := hy16.2
          clear hyk hy16
          have h2 : (k : Int) + 1 < (us.length : Int) := by omega
          rcases (by omega : y < 56320 ∨ 57344 ≤ y ∨ (56320 ≤ y ∧ y < 57344)) with hs | hs | ⟨hs, hs'⟩
          · have hd : dec16 (us.drop k) = 65533 :: dec16 (us.drop (k + 1)) := by
              have h := HL.out (fun v t' e => by rw [drop_at HY.out] at e; injection e with e _; subst e; rw [isPair_false]; omega)
              rw [h]
              have : loneR x = 65533 := by unfold loneR; rw [if_pos (by simp only [isH_iff, isL_iff]; omega)]
              rw [this]
            have hle1 : acc.length + 1 ≤ xs.length + (dec16 us).length := by rw [hd] at hle; simp at hle; omega
            have hf : Fits (acc.length + 1) 4 := hl.mono hle1
            have hf2 : acc.length + 1 ≤ maxLen := by unfold maxLen; omega
            have HD := Lib.hid hd
            clear hd
            go_wp2_with (at_builtin; refine wpList_app1w _ rfl _ _ 22 rfl base 21 .i32 4 Try.underlying22 info_i32 65533 hown rfl rfl hf hf2 hsz ?_; intro A1 c1 acc1 w1 he1 hown1 hg1)
            have hb1 := hg1.below_new hown hsz
            clear hown hg1
            go_roundw
            case rel => exact ⟨k + 1, A1, c1, acc1, by omega, by go_num, HS.out _ _ _ HD.out he1.out, rfl, hown1, hbel.trans hb1⟩
            case measure => simp [intOf]; omega
          · have hd : dec16 (us.drop k) = 65533 :: dec16 (us.drop (k + 1)) := by
              have h := HL.out (fun v t' e => by rw [drop_at HY.out] at e; injection e with e _; subst e; rw [isPair_false]; omega)
              rw [h]
              have : loneR x = 65533 := by unfold loneR; rw [if_pos (by simp only [isH_iff, isL_iff]; omega)]
              rw [this]
            have hle1 : acc.length + 1 ≤ xs.length + (dec16 us).length := by rw [hd] at hle; simp at hle; omega
            have hf : Fits (acc.length + 1) 4 := hl.mono hle1
            have hf2 : acc.length + 1 ≤ maxLen := by unfold maxLen; omega
            have HD := Lib.hid hd
            clear hd
            go_wp2_with (at_builtin; refine wpList_app1w _ rfl _ _ 22 rfl base 21 .i32 4 Try.underlying22 info_i32 65533 hown rfl rfl hf hf2 hsz ?_; intro A1 c1 acc1 w1 he1 hown1 hg1)
            have hb1 := hg1.below_new hown hsz
            clear hown hg1
            go_roundw
            case rel => exact ⟨k + 1, A1, c1, acc1, by omega, by go_num, HS.out _ _ _ HD.out he1.out, rfl, hown1, hbel.trans hb1⟩
            case measure => simp [intOf]; omega
          · have hp : isPair x y = true := by rw [isPair_iff]; omega
            have hd : dec16 (us.drop k) = pairR x y :: dec16 (us.drop (k + 2)) := by
              rw [drop_at HX.out, drop_at HY.out]; exact dec16_pair _ hp
            have hle1 : acc.length + 1 ≤ xs.length + (dec16 us).length := by rw [hd] at hle; simp at hle; omega
            have hf : Fits (acc.length + 1) 4 := hl.mono hle1
            have hf2 : acc.length + 1 ≤ maxLen := by unfold maxLen; omega
            have HD := Lib.hid hd
            have HP := Lib.hid hp
            clear hd hp
            go_wp2_with (first
              | (go_at_call 33; refine (decodeRune16_pair x y HP.out _).mono ?_; rintro e w' ⟨rfl, rfl⟩)
              | (at_builtin; refine wpList_app1w _ rfl _ _ 22 rfl base 21 .i32 4 Try.underlying22 info_i32 (pairR x y) hown rfl rfl hf hf2 hsz ?_; intro A1 c1 acc1 w1 he1 hown1 hg1))
            have hb1 := hg1.below_new hown hsz
            clear hown hg1
            go_roundw
            case rel => exact ⟨k + 2, A1, c1, acc1, by omega, by go_num, HS.out _ _ _ HD.out he1.out, rfl, hown1, hbel.trans hb1⟩
            case measure => simp [intOf]; omega
        · have hd : dec16 (us.drop k) = 65533 :: dec16 (us.drop (k + 1)) := by
            have h := HL.out (fun v t' e => by
              have := congrArg List.length e
              simp at this; omega)
            rw [h]
            have : loneR x = 65533 := by unfold loneR; rw [if_pos (by simp only [isH_iff, isL_iff]; omega)]
            rw [this]
          have hle1 : acc.length + 1 ≤ xs.length + (dec16 us).length := by rw [hd] at hle; simp at hle; omega
          have hf : Fits (acc.length + 1) 4 := hl.mono hle1
          have hf2 : acc.length + 1 ≤ maxLen := by unfold maxLen; omega
          have HD := Lib.hid hd
          clear hd
          have h2 : ¬ (k : Int) + 1 < (us.length : Int) := by omega
          go_wp2_with (at_builtin; refine wpList_app1w _ rfl _ _ 22 rfl base 21 .i32 4 Try.underlying22 info_i32 65533 hown rfl rfl hf hf2 hsz ?_; intro A1 c1 acc1 w1 he1 hown1 hg1)
          have hb1 := hg1.below_new hown hsz
          clear hown hg1
          go_roundw
          case rel => exact ⟨k + 1, A1, c1, acc1, by omega, by go_num, HS.out _ _ _ HD.out he1.out, rfl, hown1, hbel.trans hb1⟩
          case measure => simp [intOf]; omega
    · have h1 : ¬ (k : Int) < (us.length : Int) := by omega
      go_wp2
      go_ret
      refine ⟨A2, c2, acc, ?_, rfl, hown, hbel⟩
      show acc = _
      rw [← hacc.out, List.drop_eq_nil_of_le (by omega), dec16_nil, List.append_nil]
set_option maxHeartbeats 400000 in
theorem decodeAll16_w {A : Option Addr} {us : List Int} {c : Nat} {w : World} (hu : Rd w .u16 A us) (hw : Units us) (hlu : us.length ≤ 1000000000000000) (hl : Fits (dec16 us).length 4) :
    Calls Try.prog 26 #[.slice A us.length c] w (Made w 21 .i32 (dec16 us)) := by
  have hmk := fun W => run_mk (P := Try.prog) 22 21 .i32 4 Try.underlying22 info_i32 0 64 (by omega) (by omega) (by omega) W
  simp only [Int.cast_ofNat_Int] at hmk
  have hown : Own (w.alloc (.cells (madeCells #[.int .i32 0] 64) 21)) w.heap.size 21 .i32 (.slice (some ⟨w.heap.size, 0, none⟩) 0 64) [] :=
    World.ownsRow_made w _ 64 (Nat.le_refl _) (by decide) (by rw [made_size])
  have hub : ∀ b off, A = some ⟨b, off, none⟩ → 0 < us.length → b < w.heap.size := fun b off e h => by
    obtain ⟨b', off', e', hlt, _⟩ := hu h
    rw [e] at e'; injection e' with e'; injection e' with e'; omega
  have hdec := decode16_w (c := c) (hu.alloc (.cells (madeCells #[.int .i32 0] 64) 21)) hw hown (by simp) (by simp) hub hlu (by simpa using hl)
  have HD := Lib.hid hdec
  clear hdec hown hub hu
  go_enter Try.func26, Try.ntmps26
  go_wp2_with fail
  refine HD.out.mono ?_
  rintro e w1 ⟨A1, c1, ys, hys, rfl, hown1, hb1⟩
  go_wp2
  go_ret
  exact ⟨A1, c1, ys, hys, rfl, hown1, ((Below.refl _ _).alloc (Nat.le_refl _) _).trans hb1⟩
theorem decodeUnits_w {A : Option Addr} {us : List Int} {c : Nat} {w : World} (hu : Rd w .u16 A us) (hw : Units us) (hlu : us.length ≤ 1000000000000000) (hl : Fits (dec16 us).length 4) :
    Calls Try.prog 18 #[.slice A us.length c] w (Made w 21 .i32 (dec16 us)) := by
  go_enter Try.func18, Try.ntmps18
  go_wp2_with (go_at_call 26; refine (decodeAll16_w hu hw hlu hl).mono ?_; rintro e w1 ⟨A1, c1, ys, hys, rfl, hown1, hb1⟩)
  go_ret
  exact ⟨A1, c1, ys, hys, rfl, hown1, hb1⟩
end Go.Proofs.Ytlbdhfpakajdaaa
