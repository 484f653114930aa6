/- Contract of cutInto. -/
import Derived.Test.YtbjigbhjnmcdgaaDoorPieces
import Derived.Test.YtbjigbhjnmcdgaaDoorQuiet
import Derived.Test.YtbjigbhjnmcdgaaDoorStep2
set_option linter.unusedVariables false
namespace Go.Proofs.YtbjigbhjnmcdgaaDoor
open Go.RowKit P

/-- the parts of some bytes -/
def cutB : List Int → List Int → List (List Int)
  | l, [] => [l]
  | l, n :: ns => l.take n.toNat :: cutB (l.drop n.toNat) ns
theorem cutB_flat (l ns : List Int) : (cutB l ns).flatten = l := by
  induction ns generalizing l with
  | nil => simp [cutB]
  | cons n ns ih => simp [cutB, ih]
theorem cutB_len (l ns : List Int) : (cutB l ns).length = ns.length + 1 := by
  induction ns generalizing l with
  | nil => simp [cutB]
  | cons n ns ih => simp [cutB, ih]
theorem cutB_each {l : List Int} (hb : Bytes l) (ns : List Int) : ∀ p ∈ cutB l ns, Bytes p ∧ p.length ≤ l.length := by
  induction ns generalizing l with
  | nil => intro p hp; simp [cutB] at hp; subst hp; exact ⟨hb, Nat.le_refl _⟩
  | cons n ns ih =>
    intro p hp
    rcases List.mem_cons.1 hp with rfl | hp
    · exact ⟨hb.take _, by rw [List.length_take]; omega⟩
    · obtain ⟨h1, h2⟩ := ih (hb.drop _) p hp
      rw [List.length_drop] at h2
      exact ⟨h1, by omega⟩

set_option maxRecDepth 100000 in
set_option maxHeartbeats 4000000 in
theorem cutInto_any {A B : Option Addr} {l ns : List Int} {c d n : Nat} {w : World} (hr : Rd w .u8 A l) (hlen : l.length = n) (hcap : l.length ≤ c) (hB : Rd w .u8 B ns) (hy : Bytes ns) (hl : l.length ≤ 1000000000000) (hns : ns.length ≤ 16777216) :
    Calls Tryd.prog 15 #[.slice A n c, .slice B ns.length d] w (MadeP w (cutB l ns)) := by
  subst hlen
  obtain ⟨j8, hj8, _, hs8, _⟩ := info_parts info_u8
  have J8 := Lib.hid (And.intro hj8 hs8)
  clear hj8 hs8
  go_enter Tryd.func15, Tryd.ntmps15
  go_wp2
  go_loopw [0, 5, 12] (fun v0 v5 v12 wr => ∃ (k : Nat) (A0 : Option Addr) (c0 : Nat) (rest : List Int) (A5 : Option Addr) (c5 : Nat) (vs : List Value) (done : List (List Int)),
      k ≤ ns.length ∧ vs.length ≤ k ∧ v12 = .int .i64 k ∧ v0 = .slice A0 rest.length c0 ∧ Rd w .u8 A0 rest ∧ rest.length ≤ c0 ∧ rest.length ≤ l.length ∧ Hid (done ++ cutB rest (ns.drop k) = cutB l ns) ∧
      v5 = .slice A5 vs.length c5 ∧ OwnV wr w.heap.size 22 (.slice A5 vs.length c5) vs ∧ PcsO wr w.heap.size vs done ∧ Below w.heap.size w wr)
    (fun _ _ v12 _ => ns.length - (intOf v12).toNat)
  case atStart => exact ⟨0, A, c, l, _, 0, [], [], Nat.zero_le _, Nat.le_refl _, rfl, rfl, hr, hcap, Nat.le_refl _, rfl, rfl, OwnV.empty _ _, PcsO.nil _ _, (Below.refl _ _).alloc (Nat.le_refl _) _⟩
  case round =>
    obtain ⟨k, A0, c0, rest, A5, c5, vs, done, hk, hvk, rfl, rfl, hrd, hc0, hle, HD, rfl, hown, hpc, hbel⟩ := hrel
    have hsz := hbel.size
    by_cases hlt : k < ns.length
    · obtain ⟨b1, off1, x, hA1, hb1, hxk, hc1⟩ := (hB.next hbel).at_ hlt
      subst hA1
      have hx8 := hy x (List.mem_of_getElem? hxk)
      have hx0 := hx8.1
      have hx1 := hx8.2
      have h1 : (k : Int) < (ns.length : Int) := by omega
      have hdrop : ns.drop k = x :: ns.drop (k + 1) := by
        obtain ⟨hk', rfl⟩ := List.getElem?_eq_some_iff.1 hxk
        exact (List.getElem_cons_drop hk').symm
      obtain ⟨z, rfl⟩ : ∃ z : Nat, x = (z : Int) := ⟨x.toNat, by omega⟩
      by_cases q : (rest.length : Int) < (z : Int)
      · have hm : rest.length ≤ rest.length := by omega
        have hmx : rest.length = min (z : Int).toNat rest.length := by omega
        have ht : rest.take (z : Int).toNat = rest.take rest.length := by rw [hmx, List.take_eq_take_iff]; omega
        have hd : rest.drop (z : Int).toNat = rest.drop rest.length := by
          rcases Nat.le_total (z : Int).toNat rest.length with h | h
          · rw [hmx, Nat.min_eq_left h]
          · rw [hmx, Nat.min_eq_right h, List.drop_eq_nil_of_le h, List.drop_eq_nil_of_le (Nat.le_refl _)]
        have HD2 : Hid (done ++ [rest.take rest.length] ++ cutB (rest.drop rest.length) (ns.drop (k + 1)) = cutB l ns) := by
          show _ = _
          rw [← HD.out, hdrop]
          show _ = done ++ (rest.take (z : Int).toNat :: cutB (rest.drop (z : Int).toNat) (ns.drop (k + 1)))
          rw [ht, hd]; simp
        have hcut1 := fun W => run_cut_h (P := Tryd.prog) (w := W) 22 5 Tryd.underlying22 j8 J8.out.1 A0 rest.length c0 rest.length (rest.length : Int) rfl (by omega)
        have hcut2 := fun W => run_cut_l (P := Tryd.prog) (w := W) 22 5 Tryd.underlying22 j8 J8.out.1 J8.out.2 A0 rest.length c0 rest.length (rest.length : Int) rfl hm
        have rpt := (hrd.next hbel).take rest.length
        have zpt : (rest.take rest.length).length = rest.length := by rw [List.length_take]; omega
        have ZPT := Lib.hid zpt
        have zpt2 : (rest.take rest.length).length ≤ 140737488355328 := by rw [zpt]; omega
        have hdr := hrd.drop c0 rest.length hc0
        have hq1 : (vs.length + 1) * 24 ≤ 140737488355328 := by omega
        have hq2 : vs.length + 1 ≤ maxLen := by unfold maxLen; omega
        clear zpt hxk hx8 hdrop ht hd hmx HD
        go_wp2_with (first
          | (go_at_call 8; refine (copied_q rpt ZPT.out zpt2).mono ?_; rintro e w5 ⟨A6, c6, p5, hp5, rfl, o5, l5⟩; have hown1 := hown.next l5; have hpc1 := hpc.next l5; have hs1 := Nat.le_trans hsz l5.size)
          | (at_builtin; refine wpList_app1v w5 rfl _ _ 36 rfl w.heap.size 22 Tryd.underlying36 info_bytes (.slice A6 p5.length c6) rfl hown1 rfl rfl hq1 hq2 hs1 ?_; intro A7 c7 vs1 w7 he1 hown3 hg3))
        have hb7 := hg3.below_newV hown1 hs1
        have hz : vs1.length ≤ k + 1 := by rw [he1.out, List.length_append]; simp; omega
        have hp2 := ((hpc1.snoc (o5.lower hsz)).alloc (.cells #[.slice A6 p5.length c6] 22)).grow hg3 (hown1.alloc _)
        rw [← he1.out, hp5.out] at hp2
        have hfin := (bnext hbel l5).trans hb7
        clear hown hown1 hpc hpc1 o5 hg3 l5 rpt hcut1 hcut2
        go_roundw
        case rel => exact ⟨k + 1, _, _, rest.drop rest.length, A7, c7, vs1, done ++ [rest.take rest.length], by omega, hz, by go_num, by rw [List.length_drop, Nat.sub_self], hdr, by rw [List.length_drop]; omega, by rw [List.length_drop]; omega, HD2, rfl, hown3, hp2, hfin⟩
        case measure => simp [intOf]; omega
      · have hm : z ≤ rest.length := by omega
        have hmx : z = min (z : Int).toNat rest.length := by omega
        have ht : rest.take (z : Int).toNat = rest.take z := by rw [Int.toNat_natCast]
        have hd : rest.drop (z : Int).toNat = rest.drop z := by rw [Int.toNat_natCast]
        have HD2 : Hid (done ++ [rest.take z] ++ cutB (rest.drop z) (ns.drop (k + 1)) = cutB l ns) := by
          show _ = _
          rw [← HD.out, hdrop]
          show _ = done ++ (rest.take (z : Int).toNat :: cutB (rest.drop (z : Int).toNat) (ns.drop (k + 1)))
          rw [ht, hd]; simp
        have hcut1 := fun W => run_cut_h (P := Tryd.prog) (w := W) 22 5 Tryd.underlying22 j8 J8.out.1 A0 rest.length c0 z (z : Int) rfl (by omega)
        have hcut2 := fun W => run_cut_l (P := Tryd.prog) (w := W) 22 5 Tryd.underlying22 j8 J8.out.1 J8.out.2 A0 rest.length c0 z (z : Int) rfl hm
        have rpt := (hrd.next hbel).take z
        have zpt : (rest.take z).length = z := by rw [List.length_take]; omega
        have ZPT := Lib.hid zpt
        have zpt2 : (rest.take z).length ≤ 140737488355328 := by rw [zpt]; omega
        have hdr := hrd.drop c0 z hc0
        have hq1 : (vs.length + 1) * 24 ≤ 140737488355328 := by omega
        have hq2 : vs.length + 1 ≤ maxLen := by unfold maxLen; omega
        clear zpt hxk hx8 hdrop ht hd hmx HD
        go_wp2_with (first
          | (go_at_call 8; refine (copied_q rpt ZPT.out zpt2).mono ?_; rintro e w5 ⟨A6, c6, p5, hp5, rfl, o5, l5⟩; have hown1 := hown.next l5; have hpc1 := hpc.next l5; have hs1 := Nat.le_trans hsz l5.size)
          | (at_builtin; refine wpList_app1v w5 rfl _ _ 36 rfl w.heap.size 22 Tryd.underlying36 info_bytes (.slice A6 p5.length c6) rfl hown1 rfl rfl hq1 hq2 hs1 ?_; intro A7 c7 vs1 w7 he1 hown3 hg3))
        have hb7 := hg3.below_newV hown1 hs1
        have hz : vs1.length ≤ k + 1 := by rw [he1.out, List.length_append]; simp; omega
        have hp2 := ((hpc1.snoc (o5.lower hsz)).alloc (.cells #[.slice A6 p5.length c6] 22)).grow hg3 (hown1.alloc _)
        rw [← he1.out, hp5.out] at hp2
        have hfin := (bnext hbel l5).trans hb7
        clear hown hown1 hpc hpc1 o5 hg3 l5 rpt hcut1 hcut2
        go_roundw
        case rel => exact ⟨k + 1, _, _, rest.drop z, A7, c7, vs1, done ++ [rest.take z], by omega, hz, by go_num, by rw [List.length_drop], hdr, by rw [List.length_drop]; omega, by rw [List.length_drop]; omega, HD2, rfl, hown3, hp2, hfin⟩
        case measure => simp [intOf]; omega
    · have h1 : ¬ (k : Int) < (ns.length : Int) := by omega
      have HD2 : Hid (done ++ [rest] = cutB l ns) := by
        show _ = _
        rw [← HD.out, List.drop_eq_nil_of_le (by omega)]
        rfl
      have rpt := hrd.next hbel
      have zpt2 : rest.length ≤ 140737488355328 := by omega
      have hq1 : (vs.length + 1) * 24 ≤ 140737488355328 := by omega
      have hq2 : vs.length + 1 ≤ maxLen := by unfold maxLen; omega
      clear HD
      go_wp2_with (first
        | (go_at_call 8; refine (copied_any rpt zpt2).mono ?_; rintro e w5 ⟨A6, c6, p5, hp5, rfl, o5, l5⟩; have hown1 := hown.next l5; have hpc1 := hpc.next l5; have hs1 := Nat.le_trans hsz l5.size)
        | (at_builtin; refine wpList_app1v w5 rfl _ _ 36 rfl w.heap.size 22 Tryd.underlying36 info_bytes (.slice A6 p5.length c6) rfl hown1 rfl rfl hq1 hq2 hs1 ?_; intro A7 c7 vs1 w7 he1 hown3 hg3))
      have hb7 := hg3.below_newV hown1 hs1
      have hp2 := ((hpc1.snoc (o5.lower hsz)).alloc (.cells #[.slice A6 p5.length c6] 22)).grow hg3 (hown1.alloc _)
      rw [← he1.out, hp5.out, HD2.out] at hp2
      have hfin := (bnext hbel l5).trans hb7
      clear hown hown1 hpc hpc1 o5 hg3 l5 rpt
      go_ret
      exact ⟨A7, c7, vs1, rfl, hown3, hp2, hfin⟩
end Go.Proofs.YtbjigbhjnmcdgaaDoor
