/- Contract of Same. -/
import Derived.Test.YtjogehjgoemdpaaLists
namespace Go.Proofs.Ytjogehjgoemdpaa
open Go.RowKit
namespace Bv

def sameB (l m : List Nat) : Bool := decide (l = m)

set_option maxHeartbeats 400000 in
theorem sSame_any (A A' : Option Addr) (l m : List Nat) (c c' : Nat) (w : World) (B : Nat) (hB : B ≤ w.heap.size) (hr : Row w B A (ints l)) (hr' : Row w B A' (ints m)) (hl : l.length ≤ 600) (hm : m.length ≤ 600) :
    Calls Try.prog 31 #[.slice A l.length c, .slice A' m.length c'] w fun e w' => e = .returned (.bool (sameB l m)) ∧ Below w.heap.size w w' := by
  by_cases hne : l.length = m.length
  · generalize hn : l.length = n at *
    have Hn := hide hn
    have Hm : Hid (m.length = n) := hne.symm
    rw [← hne]
    clear hn hne
    go_enter Try.func31, Try.ntmps31
    go_wp2
    go_loopw [13] (fun i wr => ∃ k : Nat, k ≤ n ∧ i = .int .i64 k ∧ l.take k = m.take k ∧ Below w.heap.size w wr) (fun i _ => n - (intOf i).toNat)
    case atStart => exact ⟨0, Nat.zero_le _, rfl, rfl, Below.refl _ _⟩
    case round =>
      obtain ⟨k, hk, rfl, heq, hbl⟩ := hrel
      have Heq := hide heq
      clear heq
      by_cases hlt : k < n
      · have hkl : k < l.length := by rw [Hn.out]; exact hlt
        have hkm : k < m.length := by rw [Hm.out]; exact hlt
        obtain ⟨ad, rfl, hadB, hcell⟩ := (hr.below (hbl.mono hB)).get k (by rw [ints_length]; exact hkl)
        obtain ⟨ad', rfl, hadB', hcell'⟩ := (hr'.below (hbl.mono hB)).get k (by rw [ints_length]; exact hkm)
        obtain ⟨x, hx⟩ : ∃ x, x = l[k] := ⟨_, rfl⟩
        obtain ⟨y, hy⟩ : ∃ y, y = m[k] := ⟨_, rfl⟩
        have hx2 : wr.cell? (ad.add k) = some (.int .i64 x) := by rw [hcell, hx]; simp [ints]
        have hy2 : wr.cell? (ad'.add k) = some (.int .i64 y) := by rw [hcell', hy]; simp [ints]
        have Hx : Hid (l.take (k + 1) = l.take k ++ [x]) := by rw [hx, List.take_succ_eq_append_getElem hkl]; rfl
        have Hy : Hid (m.take (k + 1) = m.take k ++ [y]) := by rw [hy, List.take_succ_eq_append_getElem hkm]; rfl
        have i0 : (0 : Int) ≤ (k : Int) := by omega
        have i1 : (k : Int) < (n : Int) := by omega
        by_cases hxy : x = y
        · subst hxy
          clear hx hy hcell hcell' hr hr' hkl hkm
          go_wp2
          go_quiet (fail)
          go_wp2
          go_roundw
          case rel => exact ⟨k + 1, by omega, by go_num, by rw [Hx.out, Hy.out, Heq.out], drewN_below hbl _⟩
          case measure => simp [intOf]; omega
        · have hne2 : ((x : Int) != (y : Int)) = true := by rw [bne_iff_ne]; omega
          have Hs : Hid (sameB l m = false) := by
            unfold Hid sameB
            rw [decide_eq_false_iff_not]
            intro e
            subst e
            exact hxy (hx.trans hy.symm)
          clear hx hy hcell hcell' hr hr' hkl hkm hxy
          go_wp2
          go_quiet (fail)
          go_wp2
          go_ret
          rw [Hs.out]
          exact ⟨rfl, drewN_below hbl _⟩
      · have hke : k = n := by omega
        subst hke
        have Hs : Hid (sameB l m = true) := by
          unfold Hid sameB
          have h1 := Heq.out
          rw [List.take_of_length_le (Nat.le_of_eq Hn.out), List.take_of_length_le (Nat.le_of_eq Hm.out)] at h1
          simp [h1]
        clear hr hr'
        go_wp2
        go_ret
        rw [Hs.out]
        exact ⟨rfl, hbl⟩
  · have hne2 : ((l.length : Int) != (m.length : Int)) = true := by rw [bne_iff_ne]; omega
    have Hs : Hid (sameB l m = false) := by
      unfold Hid sameB
      rw [decide_eq_false_iff_not]
      intro e
      exact hne (by rw [e])
    clear hr hr'
    go_enter Try.func31, Try.ntmps31
    go_wp2
    go_ret
    rw [Hs.out]
    exact ⟨rfl, Below.refl _ _⟩
end Bv
end Go.Proofs.Ytjogehjgoemdpaa
