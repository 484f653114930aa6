/- Contract of utf8.Valid. -/
import Derived.Test.YtbjigbhjnmcdgaaDoorWord
import Derived.Test.YtbjigbhjnmcdgaaDoorFull2
import Derived.Test.YtbjigbhjnmcdgaaDoorScript
import Derived.Deep.Cut
import Derived.Deep.CutRange
import Derived.Deep.CutBlock
set_option linter.unusedVariables false
namespace Go.Proofs.YtbjigbhjnmcdgaaDoor
open Go.RowKit P

theorem run_cut_hm {P : Program} {w : World} (t e : TypeId) (ht : P.underlying t = some (.slice e)) (i : TypeInfo) (hi : P.info? e = some i) (A : Option Addr) (len cap n : Nat) (z : Int) (hz : z = (n : Int)) (h1 : n ≤ cap) :
    (Instr.slice t (.slice A len cap) none (some (.int .i64 z)) (some (.int .i64 z))).run P w = .ok (.slice A n n) w := by
  subst hz
  have hel : P.elem t = e := by simp [Program.elem, ht]
  have hr := run_slice_hm (P := P) (w := w) t A len cap (by rw [hel]; exact ht) .i64 .i64 (n : Int) (n : Int) (by omega) (by omega) (by omega)
  rw [hr, hel]
  by_cases h0 : n = 0
  · subst h0; cases A <;> simp [sizeOf, typeInfo, hi, sliced]
  · cases A <;> simp [sizeOf, typeInfo, hi, sliced, h0, Addr.add]
theorem cut_k {A : Option Addr} {rest : List Int} {w : World} (hr : Rd w .u8 A rest) (hb : Bytes rest) (k : Nat) (z : Int) (hz : z = (k : Int)) (hk : k ≤ rest.length) :
    ∃ A1 r1, Hid (r1 = rest.drop k) ∧ Hid (r1.length + k = rest.length) ∧ Rd w .u8 A1 r1 ∧ Bytes r1 ∧ ∀ W, (Instr.slice 22 (.slice A rest.length rest.length) (some (.int .i64 z)) none none).run Tryd.prog W = .ok (.slice A1 r1.length r1.length) W := by
  obtain ⟨j8, hj8, _, hs8, _⟩ := info_parts info_u8
  refine ⟨_, rest.drop k, rfl, by show _ = _; rw [List.length_drop]; omega, hr.drop rest.length k (Nat.le_refl _), hb.drop k, fun W => ?_⟩
  rw [List.length_drop]
  exact run_cut_l 22 5 Tryd.underlying22 j8 hj8 hs8 A rest.length rest.length k z hz hk
set_option maxRecDepth 100000 in
theorem and7_all : ∀ X : Fin 256, bits .and .u8 ((X.val : Nat) : Int) 7 = ((X.val % 8 : Nat) : Int) := by decide
theorem vld_lead {l : List Int} (hb : Bytes l) (hne : l ≠ []) (h0 : 128 ≤ l.getD 0 0) :
    vld l = match Lib.checkN l.length (l.getD 1 0).toNat (l.getD 2 0).toNat (l.getD 3 0).toNat (Lib.firstT (l.getD 0 0).toNat % 8) (Lib.accLo (Lib.firstT (l.getD 0 0).toNat / 16)) (Lib.accHi (Lib.firstT (l.getD 0 0).toNat / 16)) with
      | none => false
      | some k => vld (l.drop k) := by
  have h := Lib.validD_lead (l.map u8of) (by simpa using hne) (by rw [u8of_getD, u8of_toNat (getD_bytes hb 0)]; omega)
  rw [u8of_getD, u8of_getD, u8of_getD, u8of_getD, u8of_toNat (getD_bytes hb 0), u8of_toNat (getD_bytes hb 1), u8of_toNat (getD_bytes hb 2), u8of_toNat (getD_bytes hb 3), List.length_map] at h
  unfold vld
  rw [h]
  split <;> simp_all [List.map_drop]
theorem vld_lead2 {l : List Int} {lo hi s : Nat} (hb : Bytes l) (hne : l ≠ []) (h0 : 128 ≤ l.getD 0 0) (hs : Lib.firstT (l.getD 0 0).toNat % 8 = s) (hlo : Lib.accLo (Lib.firstT (l.getD 0 0).toNat / 16) = lo) (hhi : Lib.accHi (Lib.firstT (l.getD 0 0).toNat / 16) = hi) (hs2 : s = 2) :
    ((l.length < 2 ∨ (l.getD 1 0).toNat < lo ∨ hi < (l.getD 1 0).toNat) ∧ vld l = false) ∨ (¬ (l.length < 2 ∨ (l.getD 1 0).toNat < lo ∨ hi < (l.getD 1 0).toNat) ∧ vld l = vld (l.drop 2)) := by
  have h := vld_lead hb hne h0
  rw [hs, hlo, hhi, hs2] at h
  by_cases hc : l.length < 2 ∨ (l.getD 1 0).toNat < lo ∨ hi < (l.getD 1 0).toNat
  · left
    refine ⟨hc, ?_⟩
    rw [h]; unfold Lib.checkN
    simp only [Nat.reduceEqDiff, if_true, if_false, hc]
  · right
    refine ⟨hc, ?_⟩
    rw [h]; unfold Lib.checkN
    simp only [Nat.reduceEqDiff, if_true, if_false, hc]
theorem vld_lead3 {l : List Int} {lo hi s : Nat} (hb : Bytes l) (hne : l ≠ []) (h0 : 128 ≤ l.getD 0 0) (hs : Lib.firstT (l.getD 0 0).toNat % 8 = s) (hlo : Lib.accLo (Lib.firstT (l.getD 0 0).toNat / 16) = lo) (hhi : Lib.accHi (Lib.firstT (l.getD 0 0).toNat / 16) = hi) (hs2 : s = 3) :
    ((l.length < 3 ∨ (l.getD 1 0).toNat < lo ∨ hi < (l.getD 1 0).toNat ∨ (l.getD 2 0).toNat < 128 ∨ 191 < (l.getD 2 0).toNat) ∧ vld l = false) ∨ (¬ (l.length < 3 ∨ (l.getD 1 0).toNat < lo ∨ hi < (l.getD 1 0).toNat ∨ (l.getD 2 0).toNat < 128 ∨ 191 < (l.getD 2 0).toNat) ∧ vld l = vld (l.drop 3)) := by
  have h := vld_lead hb hne h0
  rw [hs, hlo, hhi, hs2] at h
  by_cases hc : l.length < 3 ∨ (l.getD 1 0).toNat < lo ∨ hi < (l.getD 1 0).toNat ∨ (l.getD 2 0).toNat < 128 ∨ 191 < (l.getD 2 0).toNat
  · left
    refine ⟨hc, ?_⟩
    rw [h]; unfold Lib.checkN
    simp only [Nat.reduceEqDiff, if_true, if_false, hc]
  · right
    refine ⟨hc, ?_⟩
    rw [h]; unfold Lib.checkN
    simp only [Nat.reduceEqDiff, if_true, if_false, hc]
theorem vld_lead4 {l : List Int} {lo hi s : Nat} (hb : Bytes l) (hne : l ≠ []) (h0 : 128 ≤ l.getD 0 0) (hs : Lib.firstT (l.getD 0 0).toNat % 8 = s) (hlo : Lib.accLo (Lib.firstT (l.getD 0 0).toNat / 16) = lo) (hhi : Lib.accHi (Lib.firstT (l.getD 0 0).toNat / 16) = hi) (hs2 : s = 4) :
    ((l.length < 4 ∨ (l.getD 1 0).toNat < lo ∨ hi < (l.getD 1 0).toNat ∨ (l.getD 2 0).toNat < 128 ∨ 191 < (l.getD 2 0).toNat ∨ (l.getD 3 0).toNat < 128 ∨ 191 < (l.getD 3 0).toNat) ∧ vld l = false) ∨ (¬ (l.length < 4 ∨ (l.getD 1 0).toNat < lo ∨ hi < (l.getD 1 0).toNat ∨ (l.getD 2 0).toNat < 128 ∨ 191 < (l.getD 2 0).toNat ∨ (l.getD 3 0).toNat < 128 ∨ 191 < (l.getD 3 0).toNat) ∧ vld l = vld (l.drop 4)) := by
  have h := vld_lead hb hne h0
  rw [hs, hlo, hhi, hs2] at h
  by_cases hc : l.length < 4 ∨ (l.getD 1 0).toNat < lo ∨ hi < (l.getD 1 0).toNat ∨ (l.getD 2 0).toNat < 128 ∨ 191 < (l.getD 2 0).toNat ∨ (l.getD 3 0).toNat < 128 ∨ 191 < (l.getD 3 0).toNat
  · left
    refine ⟨hc, ?_⟩
    rw [h]; unfold Lib.checkN
    simp only [Nat.reduceEqDiff, if_true, if_false, hc]
  · right
    refine ⟨hc, ?_⟩
    rw [h]; unfold Lib.checkN
    simp only [Nat.reduceEqDiff, if_true, if_false, hc]
theorem vld_lead1 {l : List Int} (hb : Bytes l) (hne : l ≠ []) (h0 : 128 ≤ l.getD 0 0) (hs : Lib.firstT (l.getD 0 0).toNat % 8 = 1) : vld l = false := by
  have h := vld_lead hb hne h0
  rw [hs] at h
  rw [h]; unfold Lib.checkN
  simp

set_option maxHeartbeats 16000000 in
set_option maxRecDepth 1000000 in
theorem valid_any {A : Option Addr} {l : List Int} {c : Nat} {w : World} (hr : Rd w .u8 A l) (hb : Bytes l) (hT : Tabs w) (hc : l.length ≤ c) :
    Calls Tryd.prog 28 #[.slice A l.length c] w fun e w' => e = .returned (.bool (vld l)) ∧ Below w.heap.size w w' := by
  obtain ⟨ANS, hANS⟩ : ∃ ANS, vld l = ANS := ⟨_, rfl⟩
  rw [hANS]
  have HANS := Lib.hid hANS
  clear hANS
  obtain ⟨j8, hj8, _, hs8, _⟩ := info_parts info_u8
  have hcut0 := fun W => run_cut_hm (P := Tryd.prog) (w := W) 22 5 Tryd.underlying22 j8 hj8 A l.length c l.length (l.length : Int) rfl hc
  clear hj8 hs8
  go_enter Tryd.func28, Tryd.ntmps28
  go_wp2
  go_loopw [0] (fun v0 wr => ∃ (A : Option Addr) (rest : List Int), v0 = .slice A rest.length rest.length ∧ Rd w .u8 A rest ∧ Bytes rest ∧ Hid (vld rest = ANS) ∧ Below w.heap.size w wr) (fun v0 _ => lenV v0)
  case atStart => exact ⟨A, l, rfl, hr, hb, HANS, Below.refl _ _⟩
  case round =>
    obtain ⟨A0, rest, rfl, hrd, hby, HV, hbel⟩ := hrel
    clear hcut0
    have hsz := hbel.size
    by_cases h0 : 0 < rest.length
    · have h0z : (0 : Int) < (rest.length : Int) := by omega
      obtain ⟨b, off, x, hA, hb1, hx, hcx⟩ := (hrd.next hbel).at_ h0
      subst hA
      have c0 : wr.cell? ⟨b, off, none⟩ = some (.int .u8 x) := by simpa using hcx
      have hxb := hby x (mem_at hx)
      have hg0 : rest.getD 0 0 = x := by rw [List.getD_eq_getElem?_getD, hx]; rfl
      have HG0 := Lib.hid hg0
      clear hcx hg0
      by_cases hasc : x < 128
      · as_aux_lemma =>
          obtain ⟨A1, r1, HR1, Z1, rd1, by1, cut1⟩ := cut_k hrd hby 1 1 rfl (by omega)
          have HV1 : Hid (vld r1 = ANS) := by
            show _ = _
            rw [HR1.out, vld_skip hby 1 ?_, HV.out]
            intro y hy
            obtain ⟨y0, t, rfl⟩ := List.exists_cons_of_ne_nil (List.length_pos_iff.1 h0)
            simp at hy hx
            omega
          have z1 : r1.length < rest.length := by have := Z1.out; omega
          clear hx
          by_cases c8 : 8 < r1.length
          · have c8z : (8 : Int) < (r1.length : Int) := by omega
            obtain ⟨K1, hK1⟩ : ∃ K, wordOf r1 = K := ⟨_, rfl⟩
            have lK1 : K1 < 18446744073709551616 := hK1 ▸ wordOf_lt r1
            have C1 := Lib.hid (word_any (c := r1.length) (rd1.next hbel) by1 rfl (by omega))
            rw [hK1] at C1
            have HK1 := Lib.hid hK1
            clear hK1
            have hand1 : bits .and .u64 (K1 : Int) 9259542123273814144 = ((K1 &&& 9259542123273814144 : Nat) : Int) := u64_and_nat K1 9259542123273814144 lK1 (by omega)
            obtain ⟨Y1, hY1⟩ : ∃ Y, K1 &&& 9259542123273814144 = Y := ⟨_, rfl⟩
            rw [hY1] at hand1
            have HY1 := Lib.hid hY1
            clear hY1
            by_cases hz1 : Y1 = 0
            · have hz1b : ((Y1 : Int) == 0) = true := by simp [hz1]
              obtain ⟨A2, r2, HR2, Z2, rd2, by2, cut2⟩ := cut_k rd1 by1 8 8 rfl (by omega)
              have HV2 : Hid (vld r2 = ANS) := by show _ = _; rw [HR2.out, vld_skip by1 8 (wordOf_asc by1 (by omega) (by rw [HK1.out, HY1.out, hz1])), HV1.out]
              have z2 : r2.length < r1.length := by have := Z2.out; omega
              clear hz1
              go_wp2_with (go_at_call 35; refine C1.out.mono ?_; rintro e W1 ⟨rfl, q1, rfl⟩)
              have hbel1 : Below w.heap.size w (wr.drewN q1) := bdrewN hbel _
              generalize wr.drewN q1 = wq at hbel1 ⊢
              clear C1 hbel c0 hb1 hsz
              by_cases c16 : 16 < r2.length
              · have c16z : (16 : Int) < (r2.length : Int) := by omega
                obtain ⟨A4, r4, HR4, Z4, rd4, by4, cut4⟩ := cut_k rd2 by2 8 8 rfl (by omega)
                have z4 : 8 < r4.length := by have := Z4.out; omega
                obtain ⟨K2, hK2⟩ : ∃ K, wordOf r2 = K := ⟨_, rfl⟩
                have lK2 : K2 < 18446744073709551616 := hK2 ▸ wordOf_lt r2
                have C2 := Lib.hid (fun m => word_any (c := r2.length) ((rd2.next hbel1).drewN m) by2 rfl (by omega))
                rw [hK2] at C2
                have HK2 := Lib.hid hK2
                clear hK2
                obtain ⟨K3, hK3⟩ : ∃ K, wordOf r4 = K := ⟨_, rfl⟩
                have lK3 : K3 < 18446744073709551616 := hK3 ▸ wordOf_lt r4
                have C3 := Lib.hid (fun m => word_any (c := r4.length) ((rd4.next hbel1).drewN m) by4 rfl (by omega))
                rw [hK3] at C3
                have HK3 := Lib.hid hK3
                clear hK3
                have hor2 : bits .or .u64 (K2 : Int) (K3 : Int) = ((K2 ||| K3 : Nat) : Int) := u64_or_nat K2 K3 lK2 lK3
                have lor2 : K2 ||| K3 < 18446744073709551616 := Nat.or_lt_two_pow (n := 64) lK2 lK3
                have hand2 : bits .and .u64 ((K2 ||| K3 : Nat) : Int) 9259542123273814144 = (((K2 ||| K3) &&& 9259542123273814144 : Nat) : Int) := u64_and_nat _ 9259542123273814144 lor2 (by omega)
                have HA2 : Hid ((K2 ||| K3) &&& 9259542123273814144 = 0 → ∀ x ∈ r2.take 16, x < 128) := fun h0' => by
                  obtain ⟨e1, e2⟩ := (Lib.or_mask K2 K3 _).1 h0'
                  exact asc_app (a := 8) (b := 8) (wordOf_asc by2 (by omega) (by rw [HK2.out]; exact e1)) (by rw [← HR4.out]; exact wordOf_asc by4 (by omega) (by rw [HK3.out]; exact e2))
                obtain ⟨O2, hO2⟩ : ∃ O, K2 ||| K3 = O := ⟨_, rfl⟩
                rw [hO2] at hor2 hand2 HA2
                obtain ⟨Y2, hY2⟩ : ∃ Y, O2 &&& 9259542123273814144 = Y := ⟨_, rfl⟩
                rw [hY2] at hand2 HA2
                clear hO2 hY2 lor2
                by_cases hz2 : Y2 = 0
                · have hz2b : ((Y2 : Int) == 0) = true := by simp [hz2]
                  obtain ⟨A3, r3, HR3, Z3, rd3, by3, cut3⟩ := cut_k rd2 by2 16 16 rfl (by omega)
                  have HV3 : Hid (vld r3 = ANS) := by show _ = _; rw [HR3.out, vld_skip by2 16 (HA2.out hz2), HV2.out]
                  have z3 : r3.length < r2.length := by have := Z3.out; omega
                  clear hz2
                  go_quiet ((go_at_call 35; first | (with_reducible exact quiet_at (C2.out _)) | (with_reducible exact quiet_at (C3.out _))))
                  have hbel2 : Below w.heap.size w (wq.drewN nq) := bdrewN hbel1 _
                  generalize wq.drewN nq = wq2 at hbel2 ⊢
                  clear C2 C3 hbel1 HA2 cut4 rd4 by4 HR4 hor2 hand2 z4
                  go_wp2
                  go_loopw [0] (fun v0 wr => ∃ (A : Option Addr) (u : List Int), v0 = .slice A u.length u.length ∧ Rd w .u8 A u ∧ Bytes u ∧ u.length ≤ r3.length ∧ Hid (vld u = ANS) ∧ Below w.heap.size w wr) (fun v0 _ => lenV v0)
                  case atStart => exact ⟨A3, r3, rfl, rd3, by3, Nat.le_refl _, HV3, hbel2⟩
                  case round =>
                    obtain ⟨Au, r5, rfl, rd5, by5, hle5, HV5, hbel5⟩ := hrel
                    clear hbel2 cut1 cut2 cut3 hand1 hz1b hz2b
                    by_cases c32 : 32 < r5.length
                    · have c32z : (32 : Int) < (r5.length : Int) := by omega
                      obtain ⟨A6, r6, HR6, Z6, rd6, by6, cut6⟩ := cut_k rd5 by5 8 8 rfl (by omega)
                      have z6 : 8 < r6.length := by have := Z6.out; omega
                      obtain ⟨A7, r7, HR7, Z7, rd7, by7, cut7⟩ := cut_k rd5 by5 16 16 rfl (by omega)
                      have z7 : 8 < r7.length := by have := Z7.out; omega
                      obtain ⟨A8, r8, HR8, Z8, rd8, by8, cut8⟩ := cut_k rd5 by5 24 24 rfl (by omega)
                      have z8 : 8 < r8.length := by have := Z8.out; omega
                      obtain ⟨K5, hK5⟩ : ∃ K, wordOf r5 = K := ⟨_, rfl⟩
                      have lK5 : K5 < 18446744073709551616 := hK5 ▸ wordOf_lt r5
                      have C5 := Lib.hid (fun m => word_any (c := r5.length) ((rd5.next hbel5).drewN m) by5 rfl (by omega))
                      rw [hK5] at C5
                      have HK5 := Lib.hid hK5
                      clear hK5
                      obtain ⟨K6, hK6⟩ : ∃ K, wordOf r6 = K := ⟨_, rfl⟩
                      have lK6 : K6 < 18446744073709551616 := hK6 ▸ wordOf_lt r6
                      have C6 := Lib.hid (fun m => word_any (c := r6.length) ((rd6.next hbel5).drewN m) by6 rfl (by omega))
                      rw [hK6] at C6
                      have HK6 := Lib.hid hK6
                      clear hK6
                      obtain ⟨K7, hK7⟩ : ∃ K, wordOf r7 = K := ⟨_, rfl⟩
                      have lK7 : K7 < 18446744073709551616 := hK7 ▸ wordOf_lt r7
                      have C7 := Lib.hid (fun m => word_any (c := r7.length) ((rd7.next hbel5).drewN m) by7 rfl (by omega))
                      rw [hK7] at C7
                      have HK7 := Lib.hid hK7
                      clear hK7
                      obtain ⟨K8, hK8⟩ : ∃ K, wordOf r8 = K := ⟨_, rfl⟩
                      have lK8 : K8 < 18446744073709551616 := hK8 ▸ wordOf_lt r8
                      have C8 := Lib.hid (fun m => word_any (c := r8.length) ((rd8.next hbel5).drewN m) by8 rfl (by omega))
                      rw [hK8] at C8
                      have HK8 := Lib.hid hK8
                      clear hK8
                      have ho1 : bits .or .u64 (K5 : Int) (K6 : Int) = ((K5 ||| K6 : Nat) : Int) := u64_or_nat K5 K6 lK5 lK6
                      have ho2 : bits .or .u64 (K7 : Int) (K8 : Int) = ((K7 ||| K8 : Nat) : Int) := u64_or_nat K7 K8 lK7 lK8
                      have lo1 : K5 ||| K6 < 18446744073709551616 := Nat.or_lt_two_pow (n := 64) lK5 lK6
                      have lo2 : K7 ||| K8 < 18446744073709551616 := Nat.or_lt_two_pow (n := 64) lK7 lK8
                      have ho3 : bits .or .u64 ((K5 ||| K6 : Nat) : Int) ((K7 ||| K8 : Nat) : Int) = (((K5 ||| K6) ||| (K7 ||| K8) : Nat) : Int) := u64_or_nat _ _ lo1 lo2
                      have lo3 : (K5 ||| K6) ||| (K7 ||| K8) < 18446744073709551616 := Nat.or_lt_two_pow (n := 64) lo1 lo2
                      have hand3 : bits .and .u64 (((K5 ||| K6) ||| (K7 ||| K8) : Nat) : Int) 9259542123273814144 = ((((K5 ||| K6) ||| (K7 ||| K8)) &&& 9259542123273814144 : Nat) : Int) := u64_and_nat _ 9259542123273814144 lo3 (by omega)
                      have HA3 : Hid (((K5 ||| K6) ||| (K7 ||| K8)) &&& 9259542123273814144 = 0 → ∀ x ∈ r5.take 32, x < 128) := fun h0' => by
                        obtain ⟨e01, e23⟩ := (Lib.or_mask _ _ _).1 h0'
                        obtain ⟨e0, e1⟩ := (Lib.or_mask _ _ _).1 e01
                        obtain ⟨e2, e3⟩ := (Lib.or_mask _ _ _).1 e23
                        have s16 := asc_app (l := r5) (a := 8) (b := 8) (wordOf_asc by5 (by omega) (by rw [HK5.out]; exact e0)) (by rw [← HR6.out]; exact wordOf_asc by6 (by omega) (by rw [HK6.out]; exact e1))
                        have s24 := asc_app (l := r5) (a := 16) (b := 8) s16 (by rw [← HR7.out]; exact wordOf_asc by7 (by omega) (by rw [HK7.out]; exact e2))
                        exact asc_app (l := r5) (a := 24) (b := 8) s24 (by rw [← HR8.out]; exact wordOf_asc by8 (by omega) (by rw [HK8.out]; exact e3))
                      obtain ⟨P1, hP1⟩ : ∃ Y, K5 ||| K6 = Y := ⟨_, rfl⟩
                      obtain ⟨P2, hP2⟩ : ∃ Y, K7 ||| K8 = Y := ⟨_, rfl⟩
                      rw [hP1, hP2] at ho3 hand3 HA3
                      rw [hP1] at ho1
                      rw [hP2] at ho2
                      obtain ⟨P3, hP3⟩ : ∃ Y, P1 ||| P2 = Y := ⟨_, rfl⟩
                      rw [hP3] at ho3 hand3 HA3
                      obtain ⟨Y3, hY3⟩ : ∃ Y, P3 &&& 9259542123273814144 = Y := ⟨_, rfl⟩
                      rw [hY3] at hand3 HA3
                      clear lo1 lo2 lo3 hP1 hP2 hP3 hY3
                      by_cases hz3 : Y3 = 0
                      · have hz3b : ((Y3 : Int) == 0) = true := by simp [hz3]
                        obtain ⟨A9, r9, HR9, Z9, rd9, by9, cut9⟩ := cut_k rd5 by5 32 32 rfl (by omega)
                        have HV9 : Hid (vld r9 = ANS) := by show _ = _; rw [HR9.out, vld_skip by5 32 (HA3.out hz3), HV5.out]
                        have z9 : r9.length < r5.length := by have := Z9.out; omega
                        clear hz3
                        go_wp2_with fail
                        go_quiet ((go_at_call 35; first | (with_reducible exact quiet_at (C5.out _)) | (with_reducible exact quiet_at (C6.out _)) | (with_reducible exact quiet_at (C7.out _)) | (with_reducible exact quiet_at (C8.out _))))
                        go_wp2
                        go_roundw
                        case rel =>
                          first
                            | exact ⟨A9, r9, rfl, rd9, by9, by omega, HV9, bdrewN hbel5 _⟩
                            | ((repeat apply Exists.intro (α := Value)); refine ⟨?_, rfl⟩; exact ⟨A9, r9, rfl, rd9, by9, by omega, HV9, bdrewN hbel5 _⟩)
                        case measure => simp only [lenV]; omega
                      · have hz3b : ((Y3 : Int) == 0) = false := by simp; omega
                        clear hz3
                        go_wp2_with fail
                        go_quiet ((go_at_call 35; first | (with_reducible exact quiet_at (C5.out _)) | (with_reducible exact quiet_at (C6.out _)) | (with_reducible exact quiet_at (C7.out _)) | (with_reducible exact quiet_at (C8.out _))))
                        go_wp2
                        go_roundw
                        case rel =>
                          first
                            | exact ⟨Au, r5, rfl, rd5, by5, HV5, bdrewN hbel5 _⟩
                            | ((repeat apply Exists.intro (α := Value)); refine ⟨?_, rfl⟩; exact ⟨Au, r5, rfl, rd5, by5, HV5, bdrewN hbel5 _⟩)
                        case measure => simp only [lenV]; omega
                    · have c32z : ¬ ((32 : Int) < (r5.length : Int)) := by omega
                      have c32b : decide ((32 : Int) < (r5.length : Int)) = false := decide_eq_false c32z
                      go_wp2_with fail
                      go_quiet (fail)
                      go_wp2
                      go_roundw
                      case rel =>
                        first
                          | exact ⟨Au, r5, rfl, rd5, by5, HV5, bdrewN hbel5 _⟩
                          | ((repeat apply Exists.intro (α := Value)); refine ⟨?_, rfl⟩; exact ⟨Au, r5, rfl, rd5, by5, HV5, bdrewN hbel5 _⟩)
                      case measure => simp only [lenV]; omega
                · have hz2b : ((Y2 : Int) == 0) = false := by simp; omega
                  clear hz2
                  go_quiet ((go_at_call 35; first | (with_reducible exact quiet_at (C2.out _)) | (with_reducible exact quiet_at (C3.out _))))
                  go_wp2
                  go_roundw
                  case rel =>
                    first
                      | exact ⟨A2, r2, rfl, rd2, by2, HV2, bdrewN hbel1 _⟩
                      | ((repeat apply Exists.intro (α := Value)); refine ⟨?_, rfl⟩; exact ⟨A2, r2, rfl, rd2, by2, HV2, bdrewN hbel1 _⟩)
                  case measure => simp only [lenV]; omega
              · have c16z : ¬ ((16 : Int) < (r2.length : Int)) := by omega
                go_quiet (fail)
                go_wp2
                go_roundw
                case rel =>
                  first
                    | exact ⟨A2, r2, rfl, rd2, by2, HV2, bdrewN hbel1 _⟩
                    | ((repeat apply Exists.intro (α := Value)); refine ⟨?_, rfl⟩; exact ⟨A2, r2, rfl, rd2, by2, HV2, bdrewN hbel1 _⟩)
                case measure => simp only [lenV]; omega
            · have hz1b : ((Y1 : Int) == 0) = false := by simp; omega
              clear hz1
              go_wp2_with (go_at_call 35; refine C1.out.mono ?_; rintro e W1 ⟨rfl, q1, rfl⟩)
              go_roundw
              case rel =>
                first
                  | exact ⟨A1, r1, rfl, rd1, by1, HV1, bdrewN hbel _⟩
                  | ((repeat apply Exists.intro (α := Value)); refine ⟨?_, rfl⟩; exact ⟨A1, r1, rfl, rd1, by1, HV1, bdrewN hbel _⟩)
              case measure => simp only [lenV]; omega
          · have c8z : ¬ ((8 : Int) < (r1.length : Int)) := by omega
            go_wp2
            go_roundw
            case rel =>
              first
                | exact ⟨A1, r1, rfl, rd1, by1, HV1, hbel⟩
                | ((repeat apply Exists.intro (α := Value)); refine ⟨?_, rfl⟩; exact ⟨A1, r1, rfl, rd1, by1, HV1, hbel⟩)
            case measure => simp only [lenV]; omega
      · obtain ⟨h, rfl⟩ : ∃ h : Nat, x = (h : Int) := ⟨x.toNat, by omega⟩
        have hge : ¬ ((h : Int) < 128) := hasc
        have hh : h < 256 := by omega
        have hne : rest ≠ [] := List.length_pos_iff.1 h0
        have hgd : 128 ≤ rest.getD 0 0 := by rw [HG0.out]; omega
        have hTr := hT.next hbel
        have ct := hTr.1 h hh
        have hcell : ∀ j, j < rest.length → wr.cell? ⟨b, off + j, none⟩ = some (.int .u8 (((rest.getD j 0).toNat : Nat) : Int)) := fun j hj => by
          obtain ⟨b', off', y, hA', _, hy, hcy⟩ := (hrd.next hbel).at_ hj
          injection hA' with hA'; injection hA' with e1 e2; subst e1 e2
          have hyb := hby y (mem_at hy)
          rw [hcy, List.getD_eq_getElem?_getD, hy]
          simp only [Option.getD_some]
          rw [Int.toNat_of_nonneg hyb.1]
        have hXs : Lib.firstT h % 8 = 1 ∨ Lib.firstT h % 8 = 2 ∨ Lib.firstT h % 8 = 3 ∨ Lib.firstT h % 8 = 4 := by
          rcases firstT_inv h with ⟨q, _⟩ | q | ⟨q, _⟩ | ⟨q, _⟩ | ⟨q, _⟩ | ⟨q, _⟩ | ⟨q, _⟩ | ⟨q, _⟩ | ⟨q, _⟩ <;> omega
        have hXlt : Lib.firstT h < 256 := by
          rcases firstT_inv h with ⟨q, _⟩ | q | ⟨q, _⟩ | ⟨q, _⟩ | ⟨q, _⟩ | ⟨q, _⟩ | ⟨q, _⟩ | ⟨q, _⟩ | ⟨q, _⟩ <;> omega
        have g0n : (rest.getD 0 0).toNat = h := by rw [HG0.out]; rfl
        have L1 := fun e => vld_lead1 hby hne hgd (by rw [g0n]; exact e)
        have L2 := fun e => vld_lead2 hby hne hgd rfl rfl rfl (by rw [g0n]; exact e)
        have L3 := fun e => vld_lead3 hby hne hgd rfl rfl rfl (by rw [g0n]; exact e)
        have L4 := fun e => vld_lead4 hby hne hgd rfl rfl rfl (by rw [g0n]; exact e)
        rw [g0n] at L2 L3 L4
        obtain ⟨X, hX⟩ : ∃ X, Lib.firstT h = X := ⟨_, rfl⟩
        rw [hX] at ct hXs hXlt L1 L2 L3 L4
        have h7 := and7_all ⟨X, hXlt⟩
        simp only at h7
        have a0 := (hTr.2 (X / 16) (by omega)).1
        have a1 := (hTr.2 (X / 16) (by omega)).2
        rw [Nat.mul_comm] at a0 a1
        have h4 : (X : Int) / 16 = ((X / 16 : Nat) : Int) := by omega
        have ha16 : X / 16 < 16 := by omega
        have hX0 : 0 ≤ (X : Int) := by omega
        have hX1 : (X : Int) < 256 := by omega
        obtain ⟨a, ha⟩ : ∃ a, X / 16 = a := ⟨_, rfl⟩
        rw [ha] at a0 a1 h4 ha16 L2 L3 L4
        obtain ⟨lo, hlo⟩ : ∃ lo, Lib.accLo a = lo := ⟨_, rfl⟩
        obtain ⟨hi, hhi⟩ : ∃ hi, Lib.accHi a = hi := ⟨_, rfl⟩
        rw [hlo] at a0 L2 L3 L4
        rw [hhi] at a1 L2 L3 L4
        obtain ⟨s, hs⟩ : ∃ s, X % 8 = s := ⟨_, rfl⟩
        rw [hs] at h7 hXs L1 L2 L3 L4
        have hbA : ∀ (o : Obj) (n : Nat), Below w.heap.size w ((wr.alloc o).drewN n) := fun o n => bdrewN (hbel.alloc hsz o) n
        clear hX ha hlo hhi hs hTr g0n HG0 hxb hne hgd hasc hx hXlt
        obtain ⟨y1, hy1⟩ : ∃ y, (rest.getD 1 0).toNat = y := ⟨_, rfl⟩
        obtain ⟨y2, hy2⟩ : ∃ y, (rest.getD 2 0).toNat = y := ⟨_, rfl⟩
        obtain ⟨y3, hy3⟩ : ∃ y, (rest.getD 3 0).toNat = y := ⟨_, rfl⟩
        have cy1 := hcell 1
        have cy2 := hcell 2
        have cy3 := hcell 3
        rw [hy1] at L2 L3 L4 cy1
        rw [hy2] at L3 L4 cy2
        rw [hy3] at L4 cy3
        clear hcell hy1 hy2 hy3
        rcases hXs with rfl | rfl | rfl | rfl
        · have HF := Lib.hid (L1 rfl)
          clear L1 L2 L3 L4 cy1 cy2 cy3
          go_wp2
          go_ret
          exact ⟨ret_bool (by rw [← HV.out, HF.out]), hbel.alloc hsz _⟩
        · as_aux_lemma =>
            have LL := L2 rfl
            clear L1 L2 L3 L4
            go_upto_region 18 with fail
            go_cut [103] from 85 to 103 (fun c wx => c = .bool (decide (rest.length < 2 ∨ y1 < lo ∨ hi < y1)) ∧ Below w.heap.size w wx)
            case first =>
              by_cases q0 : rest.length < 2
              · have q0z : (rest.length : Int) < 2 := by omega
                clear LL cy1 cy2 cy3
                go_quiet (fail)
                go_wp2
                go_meet
                exact ⟨congrArg Value.bool (decide_eq_true (p := rest.length < 2 ∨ y1 < lo ∨ hi < y1) (by omega)).symm, hbA _ _⟩
              have q0z : ¬ (rest.length : Int) < 2 := by omega
              have n1 : (1 : Int) < (rest.length : Int) := by omega
              have cz1 := cy1 (by omega)
              clear cy1 cy2 cy3
              by_cases q1 : y1 < lo
              · have q1z : (y1 : Int) < (lo : Int) := by omega
                clear LL
                go_quiet (fail)
                go_wp2
                go_meet
                exact ⟨congrArg Value.bool (decide_eq_true (p := rest.length < 2 ∨ y1 < lo ∨ hi < y1) (by omega)).symm, hbA _ _⟩
              have q1z : ¬ (y1 : Int) < (lo : Int) := by omega
              by_cases q2 : hi < y1
              · have q2z : (hi : Int) < (y1 : Int) := by omega
                clear LL
                go_quiet (fail)
                go_wp2
                go_meet
                exact ⟨congrArg Value.bool (decide_eq_true (p := rest.length < 2 ∨ y1 < lo ∨ hi < y1) (by omega)).symm, hbA _ _⟩
              have q2z : ¬ (hi : Int) < (y1 : Int) := by omega
              clear LL
              go_quiet (fail)
              go_wp2
              go_meet
              exact ⟨congrArg Value.bool (decide_eq_false (p := rest.length < 2 ∨ y1 < lo ∨ hi < y1) (by omega)).symm, hbA _ _⟩
            case rest =>
              obtain ⟨rfl, hbc⟩ := hcut
              clear cy1 cy2 cy3
              by_cases hq : rest.length < 2 ∨ y1 < lo ∨ hi < y1
              · have hbd : decide (rest.length < 2 ∨ y1 < lo ∨ hi < y1) = true := decide_eq_true hq
                have HF : Hid (vld rest = false) := by rcases LL with ⟨_, e⟩ | ⟨e, _⟩; exact e; exact absurd hq e
                clear LL
                go_wp2
                all_goals (go_ret; exact ⟨ret_bool (by rw [← HV.out, HF.out]), hbc⟩)
              · have hbd : decide (rest.length < 2 ∨ y1 < lo ∨ hi < y1) = false := decide_eq_false hq
                have HV1 : Hid (vld (rest.drop 2) = ANS) := by rcases LL with ⟨e, _⟩ | ⟨_, e⟩; exact absurd e hq; exact e.symm.trans HV.out
                obtain ⟨A1, r1, HR1, Z1, rd1, by1, cut1⟩ := cut_k hrd hby 2 2 rfl (by omega)
                rw [← HR1.out] at HV1
                have z1 : r1.length < rest.length := by have := Z1.out; omega
                clear LL
                go_wp2
                go_roundw
                case rel =>
                  first
                    | exact ⟨A1, r1, rfl, rd1, by1, HV1, hbc⟩
                    | ((repeat apply Exists.intro (α := Value)); refine ⟨?_, rfl⟩; exact ⟨A1, r1, rfl, rd1, by1, HV1, hbc⟩)
                case measure => simp only [lenV]; omega
        · as_aux_lemma =>
            have LL := L3 rfl
            clear L1 L2 L3 L4
            go_upto_region 22 with fail
            go_cut [138] from 108 to 138 (fun c wx => c = .bool (decide (rest.length < 3 ∨ y1 < lo ∨ hi < y1 ∨ y2 < 128 ∨ 191 < y2)) ∧ Below w.heap.size w wx)
            case first =>
              by_cases q0 : rest.length < 3
              · have q0z : (rest.length : Int) < 3 := by omega
                clear LL cy1 cy2 cy3
                go_quiet (fail)
                go_wp2
                go_meet
                exact ⟨congrArg Value.bool (decide_eq_true (p := rest.length < 3 ∨ y1 < lo ∨ hi < y1 ∨ y2 < 128 ∨ 191 < y2) (by omega)).symm, hbA _ _⟩
              have q0z : ¬ (rest.length : Int) < 3 := by omega
              have n1 : (1 : Int) < (rest.length : Int) := by omega
              have cz1 := cy1 (by omega)
              have n2 : (2 : Int) < (rest.length : Int) := by omega
              have cz2 := cy2 (by omega)
              clear cy1 cy2 cy3
              by_cases q1 : y1 < lo
              · have q1z : (y1 : Int) < (lo : Int) := by omega
                clear LL
                go_quiet (fail)
                go_wp2
                go_meet
                exact ⟨congrArg Value.bool (decide_eq_true (p := rest.length < 3 ∨ y1 < lo ∨ hi < y1 ∨ y2 < 128 ∨ 191 < y2) (by omega)).symm, hbA _ _⟩
              have q1z : ¬ (y1 : Int) < (lo : Int) := by omega
              by_cases q2 : hi < y1
              · have q2z : (hi : Int) < (y1 : Int) := by omega
                clear LL
                go_quiet (fail)
                go_wp2
                go_meet
                exact ⟨congrArg Value.bool (decide_eq_true (p := rest.length < 3 ∨ y1 < lo ∨ hi < y1 ∨ y2 < 128 ∨ 191 < y2) (by omega)).symm, hbA _ _⟩
              have q2z : ¬ (hi : Int) < (y1 : Int) := by omega
              by_cases q3 : y2 < 128
              · have q3z : (y2 : Int) < 128 := by omega
                clear LL
                go_quiet (fail)
                go_wp2
                go_meet
                exact ⟨congrArg Value.bool (decide_eq_true (p := rest.length < 3 ∨ y1 < lo ∨ hi < y1 ∨ y2 < 128 ∨ 191 < y2) (by omega)).symm, hbA _ _⟩
              have q3z : ¬ (y2 : Int) < 128 := by omega
              by_cases q4 : 191 < y2
              · have q4z : (191 : Int) < (y2 : Int) := by omega
                clear LL
                go_quiet (fail)
                go_wp2
                go_meet
                exact ⟨congrArg Value.bool (decide_eq_true (p := rest.length < 3 ∨ y1 < lo ∨ hi < y1 ∨ y2 < 128 ∨ 191 < y2) (by omega)).symm, hbA _ _⟩
              have q4z : ¬ (191 : Int) < (y2 : Int) := by omega
              clear LL
              go_quiet (fail)
              go_wp2
              go_meet
              exact ⟨congrArg Value.bool (decide_eq_false (p := rest.length < 3 ∨ y1 < lo ∨ hi < y1 ∨ y2 < 128 ∨ 191 < y2) (by omega)).symm, hbA _ _⟩
            case rest =>
              obtain ⟨rfl, hbc⟩ := hcut
              clear cy1 cy2 cy3
              by_cases hq : rest.length < 3 ∨ y1 < lo ∨ hi < y1 ∨ y2 < 128 ∨ 191 < y2
              · have hbd : decide (rest.length < 3 ∨ y1 < lo ∨ hi < y1 ∨ y2 < 128 ∨ 191 < y2) = true := decide_eq_true hq
                have HF : Hid (vld rest = false) := by rcases LL with ⟨_, e⟩ | ⟨e, _⟩; exact e; exact absurd hq e
                clear LL
                go_wp2
                all_goals (go_ret; exact ⟨ret_bool (by rw [← HV.out, HF.out]), hbc⟩)
              · have hbd : decide (rest.length < 3 ∨ y1 < lo ∨ hi < y1 ∨ y2 < 128 ∨ 191 < y2) = false := decide_eq_false hq
                have HV1 : Hid (vld (rest.drop 3) = ANS) := by rcases LL with ⟨e, _⟩ | ⟨_, e⟩; exact absurd e hq; exact e.symm.trans HV.out
                obtain ⟨A1, r1, HR1, Z1, rd1, by1, cut1⟩ := cut_k hrd hby 3 3 rfl (by omega)
                rw [← HR1.out] at HV1
                have z1 : r1.length < rest.length := by have := Z1.out; omega
                clear LL
                go_wp2
                go_roundw
                case rel =>
                  first
                    | exact ⟨A1, r1, rfl, rd1, by1, HV1, hbc⟩
                    | ((repeat apply Exists.intro (α := Value)); refine ⟨?_, rfl⟩; exact ⟨A1, r1, rfl, rd1, by1, HV1, hbc⟩)
                case measure => simp only [lenV]; omega
        · as_aux_lemma =>
            have LL := L4 rfl
            clear L1 L2 L3 L4
            go_upto_region 26 with fail
            go_cut [185] from 143 to 185 (fun c wx => c = .bool (decide (rest.length < 4 ∨ y1 < lo ∨ hi < y1 ∨ y2 < 128 ∨ 191 < y2 ∨ y3 < 128 ∨ 191 < y3)) ∧ Below w.heap.size w wx)
            case first =>
              by_cases q0 : rest.length < 4
              · have q0z : (rest.length : Int) < 4 := by omega
                clear LL cy1 cy2 cy3
                go_quiet (fail)
                go_wp2
                go_meet
                exact ⟨congrArg Value.bool (decide_eq_true (p := rest.length < 4 ∨ y1 < lo ∨ hi < y1 ∨ y2 < 128 ∨ 191 < y2 ∨ y3 < 128 ∨ 191 < y3) (by omega)).symm, hbA _ _⟩
              have q0z : ¬ (rest.length : Int) < 4 := by omega
              have n1 : (1 : Int) < (rest.length : Int) := by omega
              have cz1 := cy1 (by omega)
              have n2 : (2 : Int) < (rest.length : Int) := by omega
              have cz2 := cy2 (by omega)
              have n3 : (3 : Int) < (rest.length : Int) := by omega
              have cz3 := cy3 (by omega)
              clear cy1 cy2 cy3
              by_cases q1 : y1 < lo
              · have q1z : (y1 : Int) < (lo : Int) := by omega
                clear LL
                go_quiet (fail)
                go_wp2
                go_meet
                exact ⟨congrArg Value.bool (decide_eq_true (p := rest.length < 4 ∨ y1 < lo ∨ hi < y1 ∨ y2 < 128 ∨ 191 < y2 ∨ y3 < 128 ∨ 191 < y3) (by omega)).symm, hbA _ _⟩
              have q1z : ¬ (y1 : Int) < (lo : Int) := by omega
              by_cases q2 : hi < y1
              · have q2z : (hi : Int) < (y1 : Int) := by omega
                clear LL
                go_quiet (fail)
                go_wp2
                go_meet
                exact ⟨congrArg Value.bool (decide_eq_true (p := rest.length < 4 ∨ y1 < lo ∨ hi < y1 ∨ y2 < 128 ∨ 191 < y2 ∨ y3 < 128 ∨ 191 < y3) (by omega)).symm, hbA _ _⟩
              have q2z : ¬ (hi : Int) < (y1 : Int) := by omega
              by_cases q3 : y2 < 128
              · have q3z : (y2 : Int) < 128 := by omega
                clear LL
                go_quiet (fail)
                go_wp2
                go_meet
                exact ⟨congrArg Value.bool (decide_eq_true (p := rest.length < 4 ∨ y1 < lo ∨ hi < y1 ∨ y2 < 128 ∨ 191 < y2 ∨ y3 < 128 ∨ 191 < y3) (by omega)).symm, hbA _ _⟩
              have q3z : ¬ (y2 : Int) < 128 := by omega
              by_cases q4 : 191 < y2
              · have q4z : (191 : Int) < (y2 : Int) := by omega
                clear LL
                go_quiet (fail)
                go_wp2
                go_meet
                exact ⟨congrArg Value.bool (decide_eq_true (p := rest.length < 4 ∨ y1 < lo ∨ hi < y1 ∨ y2 < 128 ∨ 191 < y2 ∨ y3 < 128 ∨ 191 < y3) (by omega)).symm, hbA _ _⟩
              have q4z : ¬ (191 : Int) < (y2 : Int) := by omega
              by_cases q5 : y3 < 128
              · have q5z : (y3 : Int) < 128 := by omega
                clear LL
                go_quiet (fail)
                go_wp2
                go_meet
                exact ⟨congrArg Value.bool (decide_eq_true (p := rest.length < 4 ∨ y1 < lo ∨ hi < y1 ∨ y2 < 128 ∨ 191 < y2 ∨ y3 < 128 ∨ 191 < y3) (by omega)).symm, hbA _ _⟩
              have q5z : ¬ (y3 : Int) < 128 := by omega
              by_cases q6 : 191 < y3
              · have q6z : (191 : Int) < (y3 : Int) := by omega
                clear LL
                go_quiet (fail)
                go_wp2
                go_meet
                exact ⟨congrArg Value.bool (decide_eq_true (p := rest.length < 4 ∨ y1 < lo ∨ hi < y1 ∨ y2 < 128 ∨ 191 < y2 ∨ y3 < 128 ∨ 191 < y3) (by omega)).symm, hbA _ _⟩
              have q6z : ¬ (191 : Int) < (y3 : Int) := by omega
              clear LL
              go_quiet (fail)
              go_wp2
              go_meet
              exact ⟨congrArg Value.bool (decide_eq_false (p := rest.length < 4 ∨ y1 < lo ∨ hi < y1 ∨ y2 < 128 ∨ 191 < y2 ∨ y3 < 128 ∨ 191 < y3) (by omega)).symm, hbA _ _⟩
            case rest =>
              obtain ⟨rfl, hbc⟩ := hcut
              clear cy1 cy2 cy3
              by_cases hq : rest.length < 4 ∨ y1 < lo ∨ hi < y1 ∨ y2 < 128 ∨ 191 < y2 ∨ y3 < 128 ∨ 191 < y3
              · have hbd : decide (rest.length < 4 ∨ y1 < lo ∨ hi < y1 ∨ y2 < 128 ∨ 191 < y2 ∨ y3 < 128 ∨ 191 < y3) = true := decide_eq_true hq
                have HF : Hid (vld rest = false) := by rcases LL with ⟨_, e⟩ | ⟨e, _⟩; exact e; exact absurd hq e
                clear LL
                go_wp2
                all_goals (go_ret; exact ⟨ret_bool (by rw [← HV.out, HF.out]), hbc⟩)
              · have hbd : decide (rest.length < 4 ∨ y1 < lo ∨ hi < y1 ∨ y2 < 128 ∨ 191 < y2 ∨ y3 < 128 ∨ 191 < y3) = false := decide_eq_false hq
                have HV1 : Hid (vld (rest.drop 4) = ANS) := by rcases LL with ⟨e, _⟩ | ⟨_, e⟩; exact absurd e hq; exact e.symm.trans HV.out
                obtain ⟨A1, r1, HR1, Z1, rd1, by1, cut1⟩ := cut_k hrd hby 4 4 rfl (by omega)
                rw [← HR1.out] at HV1
                have z1 : r1.length < rest.length := by have := Z1.out; omega
                clear LL
                go_wp2
                go_roundw
                case rel =>
                  first
                    | exact ⟨A1, r1, rfl, rd1, by1, HV1, hbc⟩
                    | ((repeat apply Exists.intro (α := Value)); refine ⟨?_, rfl⟩; exact ⟨A1, r1, rfl, rd1, by1, HV1, hbc⟩)
                case measure => simp only [lenV]; omega
    · have h0z : ¬ (0 : Int) < (rest.length : Int) := by omega
      have HN : Hid (vld rest = true) := by
        show _ = _
        obtain rfl : rest = [] := List.eq_nil_of_length_eq_zero (by omega)
        rfl
      go_wp2
      go_ret
      exact ⟨ret_bool (by rw [← HV.out, HN.out]), hbel⟩
end Go.Proofs.YtbjigbhjnmcdgaaDoor
