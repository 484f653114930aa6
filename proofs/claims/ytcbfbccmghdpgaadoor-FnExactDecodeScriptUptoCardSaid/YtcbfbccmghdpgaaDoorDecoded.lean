/- Contract of the reference's Decoded. -/
import Derived.Test.YtcbfbccmghdpgaaDoorNumber
import Derived.Test.YtcbfbccmghdpgaaDoorStep2
import Derived.Test.YtcbfbccmghdpgaaDoorScript
set_option linter.unusedVariables false
namespace Go.Proofs.YtcbfbccmghdpgaaDoor
open Go.RowKit P

theorem isRuneS_f {r : Int} (h : good r = false) (w : World) : Calls Tryd.prog 76 #[.int .i32 r] w fun e w' => e = .returned (.bool false) ∧ w' = w := (isRuneS_any r w).mono fun _ _ h' => ⟨by rw [← h]; exact h'.1, h'.2.symm⟩
theorem take_pre {l m : List Int} {n : Nat} (h : m = l.take n) : m <+: l := by rw [h]; exact List.take_prefix _ _
set_option maxRecDepth 100000 in
set_option maxHeartbeats 4000000 in
theorem decodedS_any {A : Option Addr} {l : List Int} {c : Nat} {w : World} (hr : Rd w .u8 A l) (hb : Bytes l) (hc : l.length ≤ c) (hl : l.length ≤ 17592186044416) :
    Calls Tryd.prog 66 #[.slice A l.length c] w fun e w' => e = .returned (.tuple #[.int .i32 (dec1 l).1, .int .i64 (dec1 l).2]) ∧ Below w.heap.size w w' := by
  obtain ⟨j8, hj8, _, hs8, _⟩ := info_parts info_u8
  have J8 := Lib.hid (And.intro hj8 hs8)
  have BY := Lib.hid hb
  clear hj8 hs8 hb
  go_enter Tryd.func66, Tryd.ntmps66
  go_wp2
  go_loopw [4] (fun v4 wr => ∃ n : Nat, 1 ≤ n ∧ n ≤ 5 ∧ v4 = .int .i64 n ∧ Hid (∀ r, good r = true → enc r <+: l → n ≤ (enc r).length) ∧ Below w.heap.size w wr) (fun v4 _ => 5 - (intOf v4).toNat)
  case atStart => exact ⟨1, Nat.le_refl _, by omega, rfl, (fun r _ _ => (enc_len r).1), Below.refl _ _⟩
  case round =>
    obtain ⟨n, hn1, hn5, rfl, hI, hbel⟩ := hrel
    by_cases hgo : n ≤ 4 ∧ n ≤ l.length
    · have h1 : (n : Int) ≤ 4 := by omega
      have h2 : (n : Int) ≤ (l.length : Int) := by omega
      have zt : (l.take n).length = n := by rw [List.length_take]; omega
      have ZT := Lib.hid zt
      have yt : Bytes (l.take n) := BY.out.take _
      have hcut := fun W => run_cut_h (P := Tryd.prog) (w := W) 29 5 Tryd.underlying29 j8 J8.out.1 A l.length c n (n : Int) rfl (by omega)
      have rt := (hr.next hbel).take n
      clear zt
      go_wp2_with fail
      refine (numberS_any rt yt ZT.out hn1 (by omega) (by omega)).mono ?_
      rintro e w1 ⟨rfl, hv, l1⟩
      have hvb := hv.out
      have HNX : Hid (∀ v, numF (l.take n) = v → ¬ (good v = true ∧ enc v = l.take n) → ∀ r, good r = true → enc r <+: l → n + 1 ≤ (enc r).length) := by
        intro v hv hno r hg hp
        have h3 := hI.out r hg hp
        by_cases e : n + 1 ≤ (enc r).length
        · exact e
        · exfalso
          have hen : (enc r).length = n := by omega
          have he : enc r = l.take n := by rw [← hen]; exact List.prefix_iff_eq_take.1 hp
          have : v = r := by rw [← hv, ← he, num_enc hg]
          exact hno (by rw [this]; exact ⟨hg, he⟩)
      have HYS : Hid (∀ v, numF (l.take n) = v → good v = true → enc v = l.take n → dec1 l = (v, n)) := by
        intro v hv hg he
        rw [dec1_enc hg (take_pre he), he, ZT.out]
      generalize hvv : numF (l.take n) = v at *
      have HN2 := Lib.hid (HNX.out v rfl)
      have HY2 := Lib.hid (HYS.out v rfl)
      have v0 := hvb.1
      have v1 := hvb.2
      have rt1 := rt.next l1
      have bw1 := bnext hbel l1
      clear hv hvb HNX HYS hvv hI rt
      have el := (enc_len v).1
      have yv := enc_bytes v
      by_cases hg : good v = true
      · by_cases he : enc v = l.take n
        · have HD := Lib.hid (HY2.out hg he)
          have HQ : Hid (decide (enc v = l.take n) = true) := decide_eq_true he
          clear he HN2 HY2
          go_wp2_with fail
          go_region_law (first
            | (go_simp; go_at_call 77; refine (sameBytesS_any o2.rd (rt1.next L2) yu yt rfl ZT.out hu0 hn1).mono ?_; rw [hu.out, HQ.out]; rintro e w' ⟨rfl, rfl⟩)
            | (go_simp; go_at_call 78; refine (encodingS_any v v0 v1 w1.drew).mono ?_; rintro e w2 ⟨A2, c2, u, hu, rfl, o2, l2⟩; have L2 := below_drew l2; have yu : Bytes u := (by rw [hu.out]; exact yv); have hu0 : 0 < u.length := (by rw [hu.out]; exact el))
            | (go_simp; go_at_call 76; refine (isRuneS_any v _).mono ?_; rw [hg]; rintro e w' ⟨rfl, rfl⟩))
          all_goals
            go_wp2
            go_ret2
            exact ⟨by rw [HD.out]; rfl, bnext bw1 L2⟩
        · have HP := Lib.hid (HN2.out fun h => he h.2)
          have HQ : Hid (decide (enc v = l.take n) = false) := decide_eq_false he
          clear he HN2 HY2
          go_wp2_with fail
          go_region_law (first
            | (go_simp; go_at_call 77; refine (sameBytesS_any o2.rd (rt1.next L2) yu yt rfl ZT.out hu0 hn1).mono ?_; rw [hu.out, HQ.out]; rintro e w' ⟨rfl, rfl⟩)
            | (go_simp; go_at_call 78; refine (encodingS_any v v0 v1 w1.drew).mono ?_; rintro e w2 ⟨A2, c2, u, hu, rfl, o2, l2⟩; have L2 := below_drew l2; have yu : Bytes u := (by rw [hu.out]; exact yv); have hu0 : 0 < u.length := (by rw [hu.out]; exact el))
            | (go_simp; go_at_call 76; refine (isRuneS_any v _).mono ?_; rw [hg]; rintro e w' ⟨rfl, rfl⟩))
          all_goals
            have bw2 := bnext bw1 L2
            clear o2 rt1 L2 l2 bw1 hbel l1 hu
            go_wp2
            go_roundw
            case rel => first | exact ⟨n + 1, by omega, by omega, by go_num, HP, bw2⟩ | ((repeat apply Exists.intro (α := Value)); refine ⟨?_, rfl⟩; exact ⟨n + 1, by omega, by omega, by go_num, HP, bw2⟩)
            case measure => simp [intOf]; omega
      · have hg' : good v = false := by simpa using hg
        have HP := Lib.hid (HN2.out fun h => hg h.1)
        clear hg HN2 HY2
        go_wp2_with fail
        clear rt1
        go_quiet ((go_at_call 76; exact Calls.quiet_of_same (isRuneS_f hg' _)))
        go_wp2
        go_roundw
        case rel => exact ⟨n + 1, by omega, by omega, by go_num, HP, bdrewN bw1 _⟩
        case measure => simp [intOf]; omega
    · have HD : Hid (dec1 l = (65533, min 1 l.length)) := by
        show _ = _
        by_cases hne : l = []
        · subst hne; rfl
        · have := List.length_pos_iff.2 hne
          rw [dec1_none BY.out hne fun r hg hp => ?_, Nat.min_eq_left (by omega)]
          have h3 := hI.out r hg hp
          have h4 := (enc_len r).2
          have h5 := hp.length_le
          omega
      obtain ⟨q, hq⟩ : ∃ q : Nat, q = min 1 l.length := ⟨_, rfl⟩
      have hmin : min (1 : Int) (l.length : Int) = (q : Int) := by omega
      have HQ2 := Lib.hid hq
      clear hq hI
      rcases (by omega : ¬ n ≤ 4 ∨ (n ≤ 4 ∧ ¬ n ≤ l.length)) with h1 | ⟨h1, h2⟩
      · have h3 : ¬ (n : Int) ≤ 4 := by omega
        go_wp2
        go_ret2
        exact ⟨by rw [HD.out, ← HQ2.out]; rfl, hbel⟩
      · have h3 : (n : Int) ≤ 4 := by omega
        have h4 : ¬ (n : Int) ≤ (l.length : Int) := by omega
        go_wp2
        go_ret2
        exact ⟨by rw [HD.out, ← HQ2.out]; rfl, hbel⟩
end Go.Proofs.YtcbfbccmghdpgaaDoor
