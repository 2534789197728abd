/- The lists of places that bits and Bits give lie in blocks of numbers. -/
import Derived.Test.YtjogehjgoemdpaaBits
import Derived.Test.YtjogehjgoemdpaaRunk
namespace Go.Proofs.Ytjogehjgoemdpaa
open Go.RowKit
namespace Bv

/-- The slice's block holds elements of this type. -/
def Typed (w : World) (e : TypeId) (A : Option Addr) : Prop := ∀ ad, A = some ad → ∃ cur, w.heap[ad.block]? = some (.cells cur e (0, 0))
theorem lt_some {w : World} {b : Nat} {o : Obj} (h : w.heap[b]? = some o) : b < w.heap.size := by
  rcases Nat.lt_or_ge b w.heap.size with hlt | hge
  · exact hlt
  · rw [Array.getElem?_eq_none hge] at h; cases h
theorem Typed.keep {w w' : World} {e : TypeId} {A : Option Addr} (h : Typed w e A) (hb : Below w.heap.size w w') : Typed w' e A := fun ad ha => by
  obtain ⟨cur, hc⟩ := h ad ha
  exact ⟨cur, (hb.block _ (lt_some hc)).trans hc⟩
/-- Not the block of a row of another type. -/
theorem Typed.apart {w : World} {base size n : Nat} {e e' : TypeId} {v : Value} {xs : List Value} {A : Option Addr} (h : Typed w e A) (hown : w.ownsRow base e' size v n xs) (hne : e ≠ e') : ∀ ad, A = some ad → some ad.block ≠ v.ownBlock := fun ad ha hb => by
  obtain ⟨cur, hc⟩ := h ad ha
  rcases hown.2 with ⟨rfl, _⟩ | ⟨g, cap, cur', rfl, _, hg, _⟩
  · simp [Value.ownBlock] at hb
  · simp only [Value.ownBlock, Option.some.injEq] at hb
    rw [hb, hg] at hc
    simp only [Option.some.injEq, Obj.cells.injEq] at hc
    exact hne hc.2.1.symm
theorem Typed.grown {w w1 : World} {e : TypeId} {A : Option Addr} {row : Option Nat} (h : Typed w e A) (hg : w.grownBy w1 row) (ha : ∀ ad, A = some ad → some ad.block ≠ row) : Typed w1 e A := fun ad he => by
  obtain ⟨cur, hc⟩ := h ad he
  exact ⟨cur, (hg.block _ (lt_some hc) (ha ad he)).trans hc⟩
theorem Row.grown {w w1 : World} {B : Nat} {xs : List Value} {A : Option Addr} {row : Option Nat} (h : Row w B A xs) (hB : B ≤ w.heap.size) (hg : w.grownBy w1 row) (ha : ∀ ad, A = some ad → some ad.block ≠ row) : Row w1 B A xs := fun k u hk => by
  obtain ⟨ad, e, hl, hc⟩ := h k u hk
  refine ⟨ad, e, hl, (World.cell?_of_block (hg.block _ ?_ ?_)).trans hc⟩
  · rw [block_add]; omega
  · rw [block_add]; exact ha ad e
theorem own_typed {w : World} {base size k n c : Nat} {e : TypeId} {v : Value} {xs : List Value} {A : Option Addr} (h : w.ownsRow base e size v k xs) (hv : v = .slice A n c) : Typed w e A := fun ad ha => by
  subst hv ha
  rcases h.2 with ⟨h', _⟩ | ⟨g, cap, cur, h', _, hg, _⟩
  · simp at h'
  · simp only [Value.slice.injEq, Option.some.injEq] at h'
    rw [h'.1]
    exact ⟨cur, hg⟩
/-- A list of places, in a block of numbers. -/
def GivesKind (w : World) (l : List Nat) (e : Ending) (w' : World) : Prop :=
  ∃ A c, e = .returned (.slice A l.length c) ∧ Row w' w'.heap.size A (ints l) ∧ Below w.heap.size w w' ∧ Typed w' 3 A

/-- For each vector the list of its places that are set, in blocks of numbers. -/
def KindLists (w : World) (outs : List Value) (N : Nat) (F : Nat → Nat → Bool) : Prop :=
  ∀ t, t < outs.length → ∃ A c, outs[t]? = some (.slice A (on N (F t)).length c) ∧ Row w w.heap.size A (ints (on N (F t))) ∧ Typed w 3 A
theorem KindLists.lists {w : World} {outs : List Value} {N : Nat} {F : Nat → Nat → Bool} (h : KindLists w outs N F) : IsLists w outs N F := fun t ht => by
  obtain ⟨A, c, h1, h2, _⟩ := h t ht
  exact ⟨A, c, h1, h2⟩
theorem KindLists.keep {w w' : World} {outs : List Value} {N : Nat} {F : Nat → Nat → Bool} (h : KindLists w outs N F) (hb : Below w.heap.size w w') : KindLists w' outs N F := fun t ht => by
  obtain ⟨A, c, h1, h2, h3⟩ := h t ht
  exact ⟨A, c, h1, (h2.below hb).mono hb.size, h3.keep hb⟩
/-- One list more is appended. -/
theorem KindLists.snoc {w w1 : World} {outs : List Value} {N base size n c : Nat} {e' : TypeId} {v : Value} {F : Nat → Nat → Bool} {A : Option Addr} (h : KindLists w outs N F) (hown : w.ownsRow base e' size v n outs) (hne : 3 ≠ e') (hg : w.grownBy w1 v.ownBlock)
    (hr : Row w w.heap.size A (ints (on N (F outs.length)))) (ht : Typed w 3 A) : KindLists w1 (outs ++ [.slice A (on N (F outs.length)).length c]) N F := fun t hl => by
  rw [List.length_append, List.length_singleton] at hl
  by_cases he : t < outs.length
  · obtain ⟨A', c', h1, h2, h3⟩ := h t he
    exact ⟨A', c', by rw [List.getElem?_append_left he]; exact h1, (h2.grown (Nat.le_refl _) hg (h3.apart hown hne)).mono hg.size, h3.grown hg (h3.apart hown hne)⟩
  · have e : t = outs.length := by omega
    subst e
    exact ⟨A, c, by simp, (hr.grown (Nat.le_refl _) hg (ht.apart hown hne)).mono hg.size, ht.grown hg (ht.apart hown hne)⟩
theorem KindLists.congr {w : World} {outs : List Value} {N : Nat} {F G : Nat → Nat → Bool} (h : KindLists w outs N G) (hF : Agree N G F) : KindLists w outs N F := fun t ht => by
  obtain ⟨A, c, h1, h2, h3⟩ := h t ht
  have e : on N (G t) = on N (F t) := on_congr fun i hi => hF t i hi
  rw [e] at h1 h2
  exact ⟨A, c, h1, h2, h3⟩

set_option maxHeartbeats 400000 in
theorem bits_kind (N g off cap : Nat) (f : Nat → Bool) (w : World) (h2 : N ≤ 300) (hv : Vec w g off N f) :
    Calls Try.prog 51 #[.agg #[.int .i32 N, .slice (some ⟨g, off, none⟩) ((N + 31) / 32) cap]] w (GivesKind w (on N f)) := by
  obtain ⟨i0, hi, hz0, hz1, hz2⟩ := info_parts info_int
  have hg := hv.lt
  go_enter Try.func51, Try.ntmps51
  go_wp2
  generalize hW : w.alloc (.cells #[.int .i32 N, .slice (some ⟨g, off, none⟩) ((N + 31) / 32) cap] 60) = W
  have q0 : W.cell? ⟨w.heap.size, 0, none⟩ = some (.int .i32 N) := by rw [← hW]; clear hW; go_simp
  have q1 : W.cell? ⟨w.heap.size, 1, none⟩ = some (.slice (some ⟨g, off, none⟩) ((N + 31) / 32) cap) := by rw [← hW]; clear hW; go_simp
  have hbW : Below w.heap.size w W := by rw [← hW]; exact then_alloc (Below.refl _ _) _
  have hWs : W.heap.size = w.heap.size + 1 := by rw [← hW]; simp
  have Hv := hide (hv.keep hbW)
  have Hz : Hid (W.heap.size = w.heap.size + 1) := hWs
  have HbW := hide hbW
  have e1 : w.heap.size + 1 = W.heap.size := hWs.symm
  rw [e1]
  clear hv hbW hW hWs e1
  go_loopw [3, 9] (fun v i wr => ∃ k : Nat, k ≤ N ∧ i = .int .i64 k ∧ wr.ownsRow W.heap.size 3 1 v (on k f).length (ints (on k f)) ∧ Below W.heap.size W wr)
    (fun _ i _ => N - (intOf i).toNat)
  case atStart => exact ⟨0, Nat.zero_le _, rfl, World.ownsRow_made W #[] 0 (Nat.le_refl _) (by decide) rfl, then_alloc (Below.refl _ _) _⟩
  case round =>
    obtain ⟨k, hk, rfl, hown, hbl⟩ := hrel
    have hol := on_le k f
    by_cases hlt : k < N
    · have k0 := cell_keep hbl q0
      have k1 := cell_keep hbl q1
      have Hon := hide (on_succ k f)
      have Hown := hide hown
      have Hbl := hide hbl
      clear q0 q1 hown hbl
      go_wp2_with fail
      refine (mGet_nat N k g off cap f _ hlt h2 (Hv.out.keep Hbl.out)).mono ?_
      rintro e w2 ⟨rfl, hb2⟩
      have hown := Hown.out.kept (grown_of_below (row := none) hb2) (by
        rcases hq : u3.ownBlock with _ | x
        · exact Or.inl rfl
        · exact Or.inr (by simp))
      have hbl := then_ Hbl.out hb2
      have hsz := hbl.size
      clear hb2 k0 k1
      by_cases hfk : f k = true
      · have Hfk := hide hfk
        go_wp2_with (at_builtin; refine wpList_append_own _ rfl _ _ 22 rfl W.heap.size 3 i0 (.int .i64 0) 1 8 Try.underlying22 hi hz0 hz1 hz2 rfl (by decide) _ _ _ rfl (hown.alloc _) ⟨w2.heap.size, 0, none⟩ 1 1 [.int .i64 (k : Int)] rfl rfl ?c1 ?c2 ?c3 ?c4 ?c5 ?_)
        case c1 =>
          intro j u hj
          match j, hj with
          | 0, hj => simp at hj; subst hj; simp [Addr.add]
        case c2 => intro u hu; simp at hu; subst hu; rfl
        case c3 => unfold maxLen; omega
        case c4 => omega
        case c5 => simp; omega
        intro v' w1 hown' hgrow _
        have hb1 : Below W.heap.size W w1 := (hbl.alloc (by omega) _).grown hgrow (by simp; omega) (fun x hx => (hown.lt x hx).1)
        have hown2 : w1.ownsRow W.heap.size 3 1 v' (on (k + 1) f).length (ints (on (k + 1) f)) := by
          rw [Hon.out, Hfk.out, if_pos rfl, ints_snoc, List.length_append]
          exact hown'
        clear hown' hgrow hown hbl hfk
        go_wp2
        go_roundw
        case rel => exact ⟨k + 1, by omega, by go_num, hown2, hb1⟩
        case measure => simp [intOf]; omega
      · have hff : f k = false := by simpa using hfk
        have hown2 : w2.ownsRow W.heap.size 3 1 u3 (on (k + 1) f).length (ints (on (k + 1) f)) := by
          rw [Hon.out, hff]
          simpa using hown
        clear hfk hown
        go_wp2
        go_roundw
        case rel => exact ⟨k + 1, by omega, by go_num, hown2, hbl⟩
        case measure => simp [intOf]; omega
    · have hke : k = N := by omega
      subst hke
      obtain ⟨A', c', hv, hrow⟩ := own_row hown
      have Hk := hide (own_typed hown hv)
      have Hv2 := hide hv
      clear hv hown q0 q1
      go_wp2
      go_ret
      rw [Hv2.out]
      exact ⟨A', c', rfl, hrow, then_ HbW.out hbl, Hk.out⟩

set_option maxHeartbeats 400000 in
theorem sBits_kind (N : Nat) (A : Option Addr) (f : Nat → Bool) (c : Nat) (w : World) (B : Nat) (h2 : N ≤ 300) (hB : B ≤ w.heap.size) (hr : Row w B A (truths N f)) :
    Calls Try.prog 27 #[.slice A N c] w (GivesKind w (on N f)) := by
  obtain ⟨i0, hi, hz0, hz1, hz2⟩ := info_parts info_int
  go_enter Try.func27, Try.ntmps27
  go_wp2
  go_loopw [3, 9] (fun v i wr => ∃ k : Nat, k ≤ N ∧ i = .int .i64 k ∧ wr.ownsRow w.heap.size 3 1 v (on k f).length (ints (on k f)) ∧ Below w.heap.size w wr)
    (fun _ i _ => N - (intOf i).toNat)
  case atStart =>
    exact ⟨0, Nat.zero_le _, rfl, World.ownsRow_made w #[] 0 (Nat.le_refl _) (by decide) rfl, (Below.refl _ _).alloc (Nat.le_refl _) _⟩
  case round =>
    obtain ⟨k, hk, rfl, hown, hbl⟩ := hrel
    have hol := on_le k f
    by_cases hlt : k < N
    · obtain ⟨ad, rfl, hadB, hcell⟩ := (hr.below (hbl.mono hB)).get k (by rw [truths_length]; exact hlt)
      rw [truths_get] at hcell
      have hsz := hbl.size
      have Hon := hide (on_succ k f)
      by_cases hfk : f k = true
      · rw [hfk] at hcell
        have Hfk := hide hfk
        clear hr hfk
        go_wp2_with (at_builtin; refine wpList_append_own _ rfl _ _ 22 rfl w.heap.size 3 i0 (.int .i64 0) 1 8 Try.underlying22 hi hz0 hz1 hz2 rfl (by decide) _ _ _ rfl (hown.alloc _) ⟨wr.heap.size, 0, none⟩ 1 1 [.int .i64 (k : Int)] rfl rfl ?c1 ?c2 ?c3 ?c4 ?c5 ?_)
        case c1 =>
          intro j u hj
          match j, hj with
          | 0, hj => simp at hj; subst hj; simp [Addr.add]
        case c2 => intro u hu; simp at hu; subst hu; rfl
        case c3 => unfold maxLen; omega
        case c4 => omega
        case c5 => simp; omega
        intro v' w1 hown' hgrow _
        have hb1 : Below w.heap.size w w1 := (hbl.alloc (by omega) _).grown hgrow (by simp; omega) (fun g hg => (hown.lt g hg).1)
        have hown2 : w1.ownsRow w.heap.size 3 1 v' (on (k + 1) f).length (ints (on (k + 1) f)) := by
          rw [Hon.out, Hfk.out, if_pos rfl, ints_snoc, List.length_append]
          exact hown'
        clear hown' hgrow hown hbl hcell
        go_wp2
        go_roundw
        case rel => exact ⟨k + 1, by omega, by go_num, hown2, hb1⟩
        case measure => simp [intOf]; omega
      · have hff : f k = false := by simpa using hfk
        rw [hff] at hcell
        have hown2 : wr.ownsRow w.heap.size 3 1 u3 (on (k + 1) f).length (ints (on (k + 1) f)) := by
          rw [Hon.out, hff]
          simpa using hown
        clear hr hfk hff hown
        go_wp2
        go_roundw
        case rel => exact ⟨k + 1, by omega, by go_num, hown2, hbl⟩
        case measure => simp [intOf]; omega
    · have hke : k = N := by omega
      subst hke
      obtain ⟨A', c', hv, hrow⟩ := own_row hown
      have Hk := hide (own_typed hown hv)
      have Hv := hide hv
      clear hr hv hown
      go_wp2
      go_ret
      rw [Hv.out]
      exact ⟨A', c', rfl, hrow, hbl, Hk.out⟩
end Bv
end Go.Proofs.Ytjogehjgoemdpaa
