/- Contracts of the functions that only read slices: comparisons, and the search for a place. -/
import Derived.Test.YtlbdhfpakajdaaaPure
set_option linter.unusedVariables false
namespace Go.Proofs.Ytlbdhfpakajdaaa
open Go.RowKit P

def agree (xs ys : List Int) (k : Nat) : Prop := ∀ j, j < k → xs[j]? = ys[j]?
theorem agree.zero (xs ys : List Int) : agree xs ys 0 := fun j hj => absurd hj (by omega)
theorem agree.succ {xs ys : List Int} {k : Nat} {x : Int} (h : agree xs ys k) (hx : xs[k]? = some x) (hy : ys[k]? = some x) : agree xs ys (k + 1) := fun j hj => by
  by_cases e : j = k
  · subst e; rw [hx, hy]
  · exact h j (by omega)
theorem agree.all {xs ys : List Int} (h : agree xs ys xs.length) (hl : xs.length = ys.length) : xs = ys := by
  apply List.ext_getElem?
  intro j
  by_cases hj : j < xs.length
  · exact h j hj
  · rw [List.getElem?_eq_none (by omega), List.getElem?_eq_none (by omega)]
theorem ne_at {xs ys : List Int} {k : Nat} {x y : Int} (hx : xs[k]? = some x) (hy : ys[k]? = some y) (h : x ≠ y) : xs ≠ ys := by
  rintro rfl
  rw [hx] at hy
  exact h (by injection hy)


set_option maxHeartbeats 400000 in
theorem sameRunes_any {A A' : Option Addr} {xs ys : List Int} {c c' : Nat} {w : World} (hx : Rd w .i32 A xs) (hy : Rd w .i32 A' ys) (hl : xs.length ≤ 1000000000000000) :
    Calls Try.prog 17 #[.slice A xs.length c, .slice A' ys.length c'] w fun e w' => e = .returned (.bool (decide (xs = ys))) ∧ ∃ n, w' = w.drewN n := by
  by_cases hlen : xs.length = ys.length
  · have H := Lib.hid hlen
    have hle : xs.length ≤ ys.length := by omega
    have hge : ys.length ≤ xs.length := by omega
    clear hlen
    go_enter Try.func17, Try.ntmps17
    go_wp2
    go_loopw [13] (fun i wr => ∃ k n : Nat, k ≤ xs.length ∧ i = .int .i64 k ∧ wr = w.drewN n ∧ agree xs ys k) (fun i _ => xs.length - (intOf i).toNat)
    case atStart => exact ⟨0, 0, Nat.zero_le _, rfl, rfl, agree.zero _ _⟩
    case round =>
      obtain ⟨k, n, hk, rfl, rfl, hag⟩ := hrel
      by_cases hlt : k < xs.length
      · obtain ⟨b, off, x, rfl, hb, hxk, hcx⟩ := hx.at_ hlt
        obtain ⟨b', off', y, rfl, hb', hyk, hcy⟩ := hy.at_ (show k < ys.length by omega)
        have HX := Lib.hid hxk
        have HY := Lib.hid hyk
        clear hxk hyk
        have h1 : (k : Int) < (xs.length : Int) := by omega
        have h2 : (k : Int) < (ys.length : Int) := by omega
        by_cases hxy : x = y
        · subst hxy
          go_wp2
          go_quiet (fail)
          go_wp2
          go_roundw
          case rel => exact ⟨k + 1, _, by omega, by go_num, rfl, hag.succ HX.out HY.out⟩
          case measure => simp [intOf]; omega
        · have hxy' : (x != y) = true := by simpa using hxy
          go_wp2
          go_quiet (fail)
          go_wp2
          go_ret
          exact ⟨ret_bool (by simp [ne_at HX.out HY.out hxy]), _, World.drewN_drewN _ _ _⟩
      · have h1 : ¬ (k : Int) < (xs.length : Int) := by omega
        go_wp2
        go_ret
        have : k = xs.length := by omega
        subst this
        exact ⟨ret_bool (by simp [hag.all H.out]), _, rfl⟩
  · have hne : xs ≠ ys := fun e => hlen (by rw [e])
    have H := Lib.hid hne
    have hlen' : ((xs.length : Int) != (ys.length : Int)) = true := by simp; omega
    clear hne hlen
    go_enter Try.func17, Try.ntmps17
    go_wp2
    go_ret
    exact ⟨ret_bool (by simp [H.out]), 0, rfl⟩

set_option maxHeartbeats 400000 in
theorem sameBytes_any {A A' : Option Addr} {xs ys : List Int} {c c' : Nat} {w : World} (hx : Rd w .u8 A xs) (hy : Rd w .u8 A' ys) (hl : xs.length ≤ 1000000000000000) :
    Calls Try.prog 9 #[.slice A xs.length c, .slice A' ys.length c'] w fun e w' => e = .returned (.bool (decide (xs = ys))) ∧ ∃ n, w' = w.drewN n := by
  by_cases hlen : xs.length = ys.length
  · have H := Lib.hid hlen
    have hle : xs.length ≤ ys.length := by omega
    have hge : ys.length ≤ xs.length := by omega
    clear hlen
    go_enter Try.func9, Try.ntmps9
    go_wp2
    go_loopw [13] (fun i wr => ∃ k n : Nat, k ≤ xs.length ∧ i = .int .i64 k ∧ wr = w.drewN n ∧ agree xs ys k) (fun i _ => xs.length - (intOf i).toNat)
    case atStart => exact ⟨0, 0, Nat.zero_le _, rfl, rfl, agree.zero _ _⟩
    case round =>
      obtain ⟨k, n, hk, rfl, rfl, hag⟩ := hrel
      by_cases hlt : k < xs.length
      · obtain ⟨b, off, x, rfl, hb, hxk, hcx⟩ := hx.at_ hlt
        obtain ⟨b', off', y, rfl, hb', hyk, hcy⟩ := hy.at_ (show k < ys.length by omega)
        have HX := Lib.hid hxk
        have HY := Lib.hid hyk
        clear hxk hyk
        have h1 : (k : Int) < (xs.length : Int) := by omega
        have h2 : (k : Int) < (ys.length : Int) := by omega
        by_cases hxy : x = y
        · subst hxy
          go_wp2
          go_quiet (fail)
          go_wp2
          go_roundw
          case rel => exact ⟨k + 1, _, by omega, by go_num, rfl, hag.succ HX.out HY.out⟩
          case measure => simp [intOf]; omega
        · have hxy' : (x != y) = true := by simpa using hxy
          go_wp2
          go_quiet (fail)
          go_wp2
          go_ret
          exact ⟨ret_bool (by simp [ne_at HX.out HY.out hxy]), _, World.drewN_drewN _ _ _⟩
      · have h1 : ¬ (k : Int) < (xs.length : Int) := by omega
        go_wp2
        go_ret
        have : k = xs.length := by omega
        subst this
        exact ⟨ret_bool (by simp [hag.all H.out]), _, rfl⟩
  · have hne : xs ≠ ys := fun e => hlen (by rw [e])
    have H := Lib.hid hne
    have hlen' : ((xs.length : Int) != (ys.length : Int)) = true := by simp; omega
    clear hne hlen
    go_enter Try.func9, Try.ntmps9
    go_wp2
    go_ret
    exact ⟨ret_bool (by simp [H.out]), 0, rfl⟩




end Go.Proofs.Ytlbdhfpakajdaaa
