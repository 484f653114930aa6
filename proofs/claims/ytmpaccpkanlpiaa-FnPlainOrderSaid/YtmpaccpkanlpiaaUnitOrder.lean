/- Contract of unitOrder. -/
import Derived.Test.YtmpaccpkanlpiaaOrder
set_option linter.unusedVariables false
namespace Go.Proofs.Ytmpaccpkanlpiaa
open Go.RowKit P

theorem isFirst_q (u : Int) (w : World) : Calls Try.prog 33 #[.int .u16 u] w fun e w' => e = .returned (.bool (isH u)) ∧ w' = w := (isFirst_any u w).mono fun _ _ h => ⟨h.1, h.2.symm⟩
theorem isSecond_q (u : Int) (w : World) : Calls Try.prog 34 #[.int .u16 u] w fun e w' => e = .returned (.bool (isL u)) ∧ w' = w := (isSecond_any u w).mono fun _ _ h => ⟨h.1, h.2.symm⟩

theorem halves (u : Int) : (isH u = true ∧ isL u = false ∧ key16 u = u + 65536) ∨ (isH u = false ∧ isL u = true ∧ key16 u = u + 65536) ∨ (isH u = false ∧ isL u = false ∧ key16 u = u) := by
  rw [key16_val]
  by_cases h : 55296 ≤ u ∧ u < 56320
  · exact .inl ⟨isH_iff.2 h, isL_false.2 (by omega), if_pos (by omega)⟩
  · by_cases h' : 56320 ≤ u ∧ u < 57344
    · exact .inr (.inl ⟨isH_false.2 h, isL_iff.2 h', if_pos (by omega)⟩)
    · exact .inr (.inr ⟨isH_false.2 h, isL_false.2 h', if_neg (by omega)⟩)

set_option maxHeartbeats 4000000 in
theorem unitOrder_turned {A A' : Option Addr} {xs ys : List Int} {c c' : Nat} {w : World} (hx : Rd w .u16 A xs) (hy : Rd w .u16 A' ys) (ux : Units xs) (uy : Units ys) (hl : xs.length ≤ 1000000000000000) (hl' : ys.length ≤ 1000000000000000) :
    Calls Try.prog 40 #[.slice A xs.length c, .slice A' ys.length c', .bool true] w fun e w' => e = .returned (.int .i64 (ord key16 xs ys)) ∧ Below w.heap.size w w' := by
  rcases (by omega : xs.length ≤ ys.length ∨ ys.length < xs.length) with hmin | hmin
  all_goals
    go_enter Try.func40, Try.ntmps40
    go_wp2
    go_loopw [15] (fun i wr => ∃ k : Nat, k ≤ xs.length ∧ k ≤ ys.length ∧ i = .int .i64 k ∧ Below w.heap.size w wr ∧ Hid (ord key16 (xs.drop k) (ys.drop k) = ord key16 xs ys)) (fun i _ => xs.length - (intOf i).toNat)
    case atStart => exact ⟨0, Nat.zero_le _, Nat.zero_le _, rfl, Below.refl _ _, rfl⟩
    case round =>
      obtain ⟨k, hk, hk', rfl, hbel, hag⟩ := hrel
      by_cases hlt : k < xs.length ∧ k < ys.length
      · obtain ⟨hlt, hlt'⟩ := hlt
        obtain ⟨b, off, x, rfl, hb, hxk, hcx⟩ := (hx.next hbel).at_ hlt
        obtain ⟨b', off', y, rfl, hb', hyk, hcy⟩ := (hy.next hbel).at_ hlt'
        have hst := ord_step key16 hxk hyk
        rw [hag.out] at hst
        have hbx := ux x (mem_at' hxk)
        have hby := uy y (mem_at' hyk)
        have HS := Lib.hid hst
        have hx0 := hbx.1
        have hx1 := hbx.2
        have hy0 := hby.1
        have hy1 := hby.2
        clear hxk hyk hst hag hbx hby
        have h1 : (k : Int) < (xs.length : Int) := by omega
        have h2 : (k : Int) < (ys.length : Int) := by omega
        by_cases hxy : x = y
        · subst hxy
          go_wp2
          go_quiet (fail)
          go_wp2
          go_roundw
          case rel => exact ⟨k + 1, by omega, by omega, by go_num, bdrewN hbel _, by show _ = _; rw [HS.out]; simp⟩
          case measure => simp [intOf]; omega
        · have hxy' : (x == y) = false := by simpa using hxy
          rcases halves x with ⟨p1, p2, p3⟩ | ⟨p1, p2, p3⟩ | ⟨p1, p2, p3⟩ <;> rcases halves y with ⟨q1, q2, q3⟩ | ⟨q1, q2, q3⟩ | ⟨q1, q2, q3⟩
          all_goals
            have P3 := Lib.hid p3
            have Q3 := Lib.hid q3
            clear p3 q3
            go_wp2
            go_quiet (fail)
            go_wp2
            go_quiet (fail)
            go_wp2_with (first
              | (go_at_call 33; refine (isFirst_any _ _).mono ?_; rintro e w' ⟨rfl, rfl⟩)
              | (go_at_call 34; refine (isSecond_any _ _).mono ?_; rintro e w' ⟨rfl, rfl⟩)
              | (go_at_call 54; refine (sign_any _ _).mono ?_; rintro e w' ⟨rfl, rfl⟩))
            go_ret
            refine ⟨ret_int ?_, bdrewN hbel _⟩
            rw [HS.out, if_neg hxy, P3.out, Q3.out]
            first | rfl | (show sgn _ = sgn _; congr 1; omega)
      · have h1 : ¬ ((k : Int) < (xs.length : Int) ∧ (k : Int) < (ys.length : Int)) := by omega
        have hend := ord_end key16 (xs := xs.drop k) (ys := ys.drop k) (by simp; omega)
        rw [hag.out] at hend
        have HE := Lib.hid hend
        clear hend hag hlt
        go_wp2_with (go_at_call 54; refine (sign_any _ _).mono ?_; rintro e w' ⟨rfl, rfl⟩)
        go_ret
        refine ⟨ret_int ?_, hbel⟩
        rw [HE.out, sign_eq]
        simp only [List.length_drop]
        congr 1
        omega
end Go.Proofs.Ytmpaccpkanlpiaa
