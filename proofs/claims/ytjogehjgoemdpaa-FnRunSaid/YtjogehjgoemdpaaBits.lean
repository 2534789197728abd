/- Contract of bits: the places of a vector that are set. -/
import Derived.Test.YtjogehjgoemdpaaLists
import Derived.Test.YtjogehjgoemdpaaGetm
namespace Go.Proofs.Ytjogehjgoemdpaa
open Go.RowKit
namespace Bv

set_option maxHeartbeats 400000 in
theorem bits_any (N g off cap : Nat) (f : Nat → Bool) (w : World) (h2 : N ≤ 300) (hv : Vec w g off N f) :
    Calls Try.prog 51 #[.agg #[.int .i32 N, .slice (some ⟨g, off, none⟩) ((N + 31) / 32) cap]] w (GivesInts w (on N f)) := by
  obtain ⟨i0, hi, hz0, hz1, hz2⟩ := info_parts info_int
  have hg := hv.lt
  go_enter Try.func51, Try.ntmps51
  go_wp2
  generalize hW : w.alloc (.cells #[.int .i32 N, .slice (some ⟨g, off, none⟩) ((N + 31) / 32) cap] 60) = W
  have q0 : W.cell? ⟨w.heap.size, 0, none⟩ = some (.int .i32 N) := by rw [← hW]; clear hW; go_simp
  have q1 : W.cell? ⟨w.heap.size, 1, none⟩ = some (.slice (some ⟨g, off, none⟩) ((N + 31) / 32) cap) := by rw [← hW]; clear hW; go_simp
  have hbW : Below w.heap.size w W := by rw [← hW]; exact then_alloc (Below.refl _ _) _
  have hWs : W.heap.size = w.heap.size + 1 := by rw [← hW]; simp
  have Hv := hide (hv.keep hbW)
  have Hz : Hid (W.heap.size = w.heap.size + 1) := hWs
  have HbW := hide hbW
  have e1 : w.heap.size + 1 = W.heap.size := hWs.symm
  rw [e1]
  clear hv hbW hW hWs e1
  go_loopw [3, 9] (fun v i wr => ∃ k : Nat, k ≤ N ∧ i = .int .i64 k ∧ wr.ownsRow W.heap.size 3 1 v (on k f).length (ints (on k f)) ∧ Below W.heap.size W wr)
    (fun _ i _ => N - (intOf i).toNat)
  case atStart => exact ⟨0, Nat.zero_le _, rfl, World.ownsRow_made W #[] 0 (Nat.le_refl _) (by decide) rfl, then_alloc (Below.refl _ _) _⟩
  case round =>
    obtain ⟨k, hk, rfl, hown, hbl⟩ := hrel
    have hol := on_le k f
    by_cases hlt : k < N
    · have k0 := cell_keep hbl q0
      have k1 := cell_keep hbl q1
      have Hon := hide (on_succ k f)
      have Hown := hide hown
      have Hbl := hide hbl
      clear q0 q1 hown hbl
      go_wp2_with fail
      refine (mGet_nat N k g off cap f _ hlt h2 (Hv.out.keep Hbl.out)).mono ?_
      rintro e w2 ⟨rfl, hb2⟩
      have hown := Hown.out.kept (grown_of_below (row := none) hb2) (by
        rcases hq : u3.ownBlock with _ | x
        · exact Or.inl rfl
        · exact Or.inr (by simp))
      have hbl := then_ Hbl.out hb2
      have hsz := hbl.size
      clear hb2 k0 k1
      by_cases hfk : f k = true
      · have Hfk := hide hfk
        go_wp2_with (at_builtin; refine wpList_append_own _ rfl _ _ 22 rfl W.heap.size 3 i0 (.int .i64 0) 1 8 Try.underlying22 hi hz0 hz1 hz2 rfl (by decide) _ _ _ rfl (hown.alloc _) ⟨w2.heap.size, 0, none⟩ 1 1 [.int .i64 (k : Int)] rfl rfl ?c1 ?c2 ?c3 ?c4 ?c5 ?_)
        case c1 =>
          intro j u hj
          match j, hj with
          | 0, hj => simp at hj; subst hj; simp [Addr.add]
        case c2 => intro u hu; simp at hu; subst hu; rfl
        case c3 => unfold maxLen; omega
        case c4 => omega
        case c5 => simp; omega
        intro v' w1 hown' hgrow _
        have hb1 : Below W.heap.size W w1 := (hbl.alloc (by omega) _).grown hgrow (by simp; omega) (fun x hx => (hown.lt x hx).1)
        have hown2 : w1.ownsRow W.heap.size 3 1 v' (on (k + 1) f).length (ints (on (k + 1) f)) := by
          rw [Hon.out, Hfk.out, if_pos rfl, ints_snoc, List.length_append]
          exact hown'
        clear hown' hgrow hown hbl hfk
        go_wp2
        go_roundw
        case rel => exact ⟨k + 1, by omega, by go_num, hown2, hb1⟩
        case measure => simp [intOf]; omega
      · have hff : f k = false := by simpa using hfk
        have hown2 : w2.ownsRow W.heap.size 3 1 u3 (on (k + 1) f).length (ints (on (k + 1) f)) := by
          rw [Hon.out, hff]
          simpa using hown
        clear hfk hown
        go_wp2
        go_roundw
        case rel => exact ⟨k + 1, by omega, by go_num, hown2, hbl⟩
        case measure => simp [intOf]; omega
    · have hke : k = N := by omega
      subst hke
      obtain ⟨A', c', hv, hrow⟩ := own_row hown
      have Hv2 := hide hv
      clear hv hown q0 q1
      go_wp2
      go_ret
      rw [Hv2.out]
      exact ⟨A', c', rfl, hrow, then_ HbW.out hbl⟩
end Bv
end Go.Proofs.Ytjogehjgoemdpaa
