/- Contracts of the functions that compare lists in order. -/
import Derived.Test.YtmpaccpkanlpiaaReaders
import Derived.Test.YtmpaccpkanlpiaaPlainOrder
set_option linter.unusedVariables false
namespace Go.Proofs.Ytmpaccpkanlpiaa
open Go.RowKit P

theorem sign_eq (n : Int) : signOf n = sgn n := rfl
theorem mem_at' {xs : List Int} {k : Nat} {x : Int} (h : xs[k]? = some x) : x ∈ xs := List.mem_of_getElem? h

set_option maxHeartbeats 1000000 in
theorem runeOrder_any {A A' : Option Addr} {xs ys : List Int} {c c' : Nat} {w : World} (hx : Rd w .i32 A xs) (hy : Rd w .i32 A' ys) (hl : xs.length ≤ 1000000000000000) (hl' : ys.length ≤ 1000000000000000) :
    Calls Try.prog 38 #[.slice A xs.length c, .slice A' ys.length c'] w fun e w' => e = .returned (.int .i64 (ord id xs ys)) ∧ ∃ n, w' = w.drewN n := by
  rcases (by omega : xs.length ≤ ys.length ∨ ys.length < xs.length) with hmin | hmin
  all_goals
    go_enter Try.func38, Try.ntmps38
    go_wp2
    go_loopw [11] (fun i wr => ∃ k n : Nat, k ≤ xs.length ∧ k ≤ ys.length ∧ i = .int .i64 k ∧ wr = w.drewN n ∧ Hid (ord id (xs.drop k) (ys.drop k) = ord id xs ys)) (fun i _ => xs.length - (intOf i).toNat)
    case atStart => exact ⟨0, 0, Nat.zero_le _, Nat.zero_le _, rfl, rfl, rfl⟩
    case round =>
      obtain ⟨k, n, hk, hk', rfl, rfl, hag⟩ := hrel
      by_cases hlt : k < xs.length ∧ k < ys.length
      · obtain ⟨hlt, hlt'⟩ := hlt
        obtain ⟨b, off, x, rfl, hb, hxk, hcx⟩ := hx.at_ hlt
        obtain ⟨b', off', y, rfl, hb', hyk, hcy⟩ := hy.at_ hlt'
        have hst := ord_step id hxk hyk
        rw [hag.out] at hst
        have HS := Lib.hid hst
        clear hxk hyk hst hag
        have h1 : (k : Int) < (xs.length : Int) := by omega
        have h2 : (k : Int) < (ys.length : Int) := by omega
        rcases (by omega : x = y ∨ x < y ∨ y < x) with hxy | hxy | hxy
        · subst hxy
          go_wp2
          go_quiet (fail)
          go_wp2
          go_roundw
          case rel => exact ⟨k + 1, _, by omega, by omega, by go_num, rfl, by show _ = _; rw [HS.out]; simp⟩
          case measure => simp [intOf]; omega
        · have hxy' : (x != y) = true := by simp; omega
          go_wp2
          go_quiet (fail)
          go_wp2
          go_quiet (fail)
          go_wp2
          go_ret
          refine ⟨ret_int ?_, _, (World.drewN_drewN _ _ _).trans (World.drewN_drewN _ _ _)⟩
          rw [HS.out, if_neg (by omega)]
          unfold sgn; simp only [id]; rw [if_pos (by omega)]
        · have hxy' : (x != y) = true := by simp; omega
          have hxy2 : decide (x < y) = false := by simp; omega
          go_wp2
          go_quiet (fail)
          go_wp2
          go_quiet (fail)
          go_wp2
          go_ret
          refine ⟨ret_int ?_, _, (World.drewN_drewN _ _ _).trans (World.drewN_drewN _ _ _)⟩
          rw [HS.out, if_neg (by omega)]
          unfold sgn; simp only [id]; rw [if_neg (by omega), if_pos (by omega)]
      · have h1 : ¬ ((k : Int) < (xs.length : Int) ∧ (k : Int) < (ys.length : Int)) := by omega
        have hend := ord_end id (xs := xs.drop k) (ys := ys.drop k) (by simp; omega)
        rw [hag.out] at hend
        have HE := Lib.hid hend
        clear hend hag hlt
        go_wp2_with (go_at_call 54; refine (sign_any _ _).mono ?_; rintro e w' ⟨rfl, rfl⟩)
        go_ret
        refine ⟨ret_int ?_, _, rfl⟩
        rw [HE.out, sign_eq]
        simp only [List.length_drop]
        congr 1
        omega

set_option maxHeartbeats 1000000 in
theorem textOrder_any {A A' : Option Addr} {xs ys : List Int} {c c' : Nat} {w : World} (hx : Rd w .u8 A xs) (hy : Rd w .u8 A' ys) (hl : xs.length ≤ 1000000000000000) (hl' : ys.length ≤ 1000000000000000) :
    Calls Try.prog 39 #[.slice A xs.length c, .slice A' ys.length c'] w fun e w' => e = .returned (.int .i64 (ord id xs ys)) ∧ ∃ n, w' = w.drewN n := by
  rcases (by omega : xs.length ≤ ys.length ∨ ys.length < xs.length) with hmin | hmin
  all_goals
    go_enter Try.func39, Try.ntmps39
    go_wp2
    go_loopw [11] (fun i wr => ∃ k n : Nat, k ≤ xs.length ∧ k ≤ ys.length ∧ i = .int .i64 k ∧ wr = w.drewN n ∧ Hid (ord id (xs.drop k) (ys.drop k) = ord id xs ys)) (fun i _ => xs.length - (intOf i).toNat)
    case atStart => exact ⟨0, 0, Nat.zero_le _, Nat.zero_le _, rfl, rfl, rfl⟩
    case round =>
      obtain ⟨k, n, hk, hk', rfl, rfl, hag⟩ := hrel
      by_cases hlt : k < xs.length ∧ k < ys.length
      · obtain ⟨hlt, hlt'⟩ := hlt
        obtain ⟨b, off, x, rfl, hb, hxk, hcx⟩ := hx.at_ hlt
        obtain ⟨b', off', y, rfl, hb', hyk, hcy⟩ := hy.at_ hlt'
        have hst := ord_step id hxk hyk
        rw [hag.out] at hst
        have HS := Lib.hid hst
        clear hxk hyk hst hag
        have h1 : (k : Int) < (xs.length : Int) := by omega
        have h2 : (k : Int) < (ys.length : Int) := by omega
        rcases (by omega : x = y ∨ x < y ∨ y < x) with hxy | hxy | hxy
        · subst hxy
          go_wp2
          go_quiet (fail)
          go_wp2
          go_roundw
          case rel => exact ⟨k + 1, _, by omega, by omega, by go_num, rfl, by show _ = _; rw [HS.out]; simp⟩
          case measure => simp [intOf]; omega
        · have hxy' : (x != y) = true := by simp; omega
          go_wp2
          go_quiet (fail)
          go_wp2
          go_quiet (fail)
          go_wp2
          go_ret
          refine ⟨ret_int ?_, _, (World.drewN_drewN _ _ _).trans (World.drewN_drewN _ _ _)⟩
          rw [HS.out, if_neg (by omega)]
          unfold sgn; simp only [id]; rw [if_pos (by omega)]
        · have hxy' : (x != y) = true := by simp; omega
          have hxy2 : decide (x < y) = false := by simp; omega
          go_wp2
          go_quiet (fail)
          go_wp2
          go_quiet (fail)
          go_wp2
          go_ret
          refine ⟨ret_int ?_, _, (World.drewN_drewN _ _ _).trans (World.drewN_drewN _ _ _)⟩
          rw [HS.out, if_neg (by omega)]
          unfold sgn; simp only [id]; rw [if_neg (by omega), if_pos (by omega)]
      · have h1 : ¬ ((k : Int) < (xs.length : Int) ∧ (k : Int) < (ys.length : Int)) := by omega
        have hend := ord_end id (xs := xs.drop k) (ys := ys.drop k) (by simp; omega)
        rw [hag.out] at hend
        have HE := Lib.hid hend
        clear hend hag hlt
        go_wp2_with (go_at_call 54; refine (sign_any _ _).mono ?_; rintro e w' ⟨rfl, rfl⟩)
        go_ret
        refine ⟨ret_int ?_, _, rfl⟩
        rw [HE.out, sign_eq]
        simp only [List.length_drop]
        congr 1
        omega

end Go.Proofs.Ytmpaccpkanlpiaa
