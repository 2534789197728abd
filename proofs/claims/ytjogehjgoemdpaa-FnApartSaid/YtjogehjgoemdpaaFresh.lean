/- The lists of places that bits, And, AndNot give lie in new memory. -/
import Derived.Test.YtjogehjgoemdpaaImpl2
import Derived.Test.YtjogehjgoemdpaaKit
namespace Go.Proofs.Ytjogehjgoemdpaa
open Go.RowKit
namespace Bv

/-- A list of places in new memory. -/
def GivesFresh (w : World) (l : List Nat) (e : Ending) (w' : World) : Prop :=
  ∃ A c, e = .returned (.slice A l.length c) ∧ Row w' w'.heap.size A (ints l) ∧ Below w.heap.size w w' ∧ ∀ ad, A = some ad → w.heap.size ≤ ad.block
theorem own_fresh {w : World} {base : Nat} {e : TypeId} {ad : Addr} {n c k : Nat} {xs : List Value} (h : w.ownsRow base e 1 (.slice (some ad) n c) k xs) : base ≤ ad.block := by
  rcases h.2 with ⟨h', _⟩ | ⟨g, cap, cur, h', hb, _⟩
  · simp at h'
  · simp at h'
    obtain ⟨rfl, _⟩ := h'
    exact hb
/-- A row elsewhere than in the block that is written. -/
theorem Row.setCell {w : World} {B : Nat} {A : Option Addr} {xs : List Value} (h : Row w B A xs) {p : Addr} (hp : ∀ ad, A = some ad → p.block ≠ ad.block) (u : Value) : Row (w.setCell p u) B A xs := fun k v hk => by
  obtain ⟨ad, e, hl, hc⟩ := h k v hk
  refine ⟨ad, e, hl, (World.cell?_of_block (Below.heap_setCell w p u _ ?_)).trans hc⟩
  rw [block_add]
  exact fun e' => hp ad e e'.symm

/-- A struct laid ahead of a call is as it was behind it. -/
theorem boxed_cells {W wd : World} {t : TypeId} {n : Nat} (h : Below (W.alloc (.cells #[.int .i64 0, .slice none 0 0] t)).heap.size (W.alloc (.cells #[.int .i64 0, .slice none 0 0] t)) wd) (hn : n = W.heap.size) :
    wd.cell? ⟨n, 0, none⟩ = some (.int .i64 0) ∧ wd.cell? ⟨n, 1, none⟩ = some (.slice none 0 0) ∧ wd.frozen? ⟨n, 0, none⟩ = false ∧ wd.frozen? ⟨n, 1, none⟩ = false := by
  subst hn
  exact ⟨cell_keep h (new_cell rfl), cell_keep h (new_cell rfl), (h.frozen (p := ⟨W.heap.size, 0, none⟩) (by simp)).trans (by simp), (h.frozen (p := ⟨W.heap.size, 1, none⟩) (by simp)).trans (by simp)⟩

/-- s is a new struct variable that holds N and this list. -/
def Boxed (W X : World) (N : Nat) (l : List Nat) (s : Value) : Prop :=
  ∃ (b : Nat) (A : Option Addr) (c : Nat), s = .pointer (some ⟨b, 0, none⟩) ∧ X.cell? ⟨b, 0, none⟩ = some (.int .i64 N) ∧ X.cell? ⟨b, 1, none⟩ = some (.slice A l.length c) ∧ Row X X.heap.size A (ints l) ∧ Below W.heap.size W X
theorem boxed_behind {W wd : World} {N : Nat} {l : List Nat} {A : Option Addr} {c : Nat} {t : TypeId} (hr : Row wd wd.heap.size A (ints l)) (hb : Below W.heap.size W wd) :
    Boxed W (wd.alloc (.cells #[.int .i64 N, .slice A l.length c] t)) N l (.pointer (some ⟨wd.heap.size, 0, none⟩)) :=
  ⟨_, A, c, rfl, new_cell rfl, new_cell rfl, (hr.below (then_alloc (Below.refl _ _) _)).mono (by simp), then_alloc hb _⟩
theorem boxed_ahead {W wd : World} {N n m : Nat} {l : List Nat} {A : Option Addr} {c : Nat} {u0 u1 : Value} (hr : Row wd wd.heap.size A (ints l)) (hb : Below W.heap.size W wd) (hn : W.heap.size ≤ n) (hm : n < m) (hf : ∀ ad, A = some ad → m ≤ ad.block)
    (z0 : wd.cell? ⟨n, 0, none⟩ = some u0) (z1 : wd.cell? ⟨n, 1, none⟩ = some u1) :
    Boxed W ((wd.setCell ⟨n, 0, none⟩ (.int .i64 N)).setCell ⟨n, 1, none⟩ (.slice A l.length c)) N l (.pointer (some ⟨n, 0, none⟩)) := by
  have hp : ∀ ad, A = some ad → n ≠ ad.block := fun ad ha => by have := hf ad ha; omega
  refine ⟨n, A, c, rfl, ?_, ?_, ?_, (hb.setCell (p := ⟨n, 0, none⟩) hn _).setCell (p := ⟨n, 1, none⟩) hn _⟩
  · go_simp
  · go_simp
  · exact (Row.setCell (Row.setCell hr (p := ⟨n, 0, none⟩) hp _) (p := ⟨n, 1, none⟩) hp _).mono (by simp)

set_option maxHeartbeats 400000 in
theorem bits_fresh (N g off cap : Nat) (f : Nat → Bool) (w : World) (h2 : N ≤ 300) (hv : Vec w g off N f) :
    Calls Try.prog 51 #[.agg #[.int .i32 N, .slice (some ⟨g, off, none⟩) ((N + 31) / 32) cap]] w (GivesFresh w (on N f)) := by
  obtain ⟨i0, hi, hz0, hz1, hz2⟩ := info_parts info_int
  have hg := hv.lt
  go_enter Try.func51, Try.ntmps51
  go_wp2
  generalize hW : w.alloc (.cells #[.int .i32 N, .slice (some ⟨g, off, none⟩) ((N + 31) / 32) cap] 60) = W
  have q0 : W.cell? ⟨w.heap.size, 0, none⟩ = some (.int .i32 N) := by rw [← hW]; clear hW; go_simp
  have q1 : W.cell? ⟨w.heap.size, 1, none⟩ = some (.slice (some ⟨g, off, none⟩) ((N + 31) / 32) cap) := by rw [← hW]; clear hW; go_simp
  have hbW : Below w.heap.size w W := by rw [← hW]; exact then_alloc (Below.refl _ _) _
  have hWs : W.heap.size = w.heap.size + 1 := by rw [← hW]; simp
  have Hv := hide (hv.keep hbW)
  have Hz : Hid (W.heap.size = w.heap.size + 1) := hWs
  have HbW := hide hbW
  have e1 : w.heap.size + 1 = W.heap.size := hWs.symm
  rw [e1]
  clear hv hbW hW hWs e1
  go_loopw [3, 9] (fun v i wr => ∃ k : Nat, k ≤ N ∧ i = .int .i64 k ∧ wr.ownsRow W.heap.size 3 1 v (on k f).length (ints (on k f)) ∧ Below W.heap.size W wr)
    (fun _ i _ => N - (intOf i).toNat)
  case atStart => exact ⟨0, Nat.zero_le _, rfl, World.ownsRow_made W #[] 0 (Nat.le_refl _) (by decide) rfl, then_alloc (Below.refl _ _) _⟩
  case round =>
    obtain ⟨k, hk, rfl, hown, hbl⟩ := hrel
    have hol := on_le k f
    by_cases hlt : k < N
    · have k0 := cell_keep hbl q0
      have k1 := cell_keep hbl q1
      have Hon := hide (on_succ k f)
      have Hown := hide hown
      have Hbl := hide hbl
      clear q0 q1 hown hbl
      go_wp2_with fail
      refine (mGet_nat N k g off cap f _ hlt h2 (Hv.out.keep Hbl.out)).mono ?_
      rintro e w2 ⟨rfl, hb2⟩
      have hown := Hown.out.kept (grown_of_below (row := none) hb2) (by
        rcases hq : u3.ownBlock with _ | x
        · exact Or.inl rfl
        · exact Or.inr (by simp))
      have hbl := then_ Hbl.out hb2
      have hsz := hbl.size
      clear hb2 k0 k1
      by_cases hfk : f k = true
      · have Hfk := hide hfk
        go_wp2_with (at_builtin; refine wpList_append_own _ rfl _ _ 22 rfl W.heap.size 3 i0 (.int .i64 0) 1 8 Try.underlying22 hi hz0 hz1 hz2 rfl (by decide) _ _ _ rfl (hown.alloc _) ⟨w2.heap.size, 0, none⟩ 1 1 [.int .i64 (k : Int)] rfl rfl ?c1 ?c2 ?c3 ?c4 ?c5 ?_)
        case c1 =>
          intro j u hj
          match j, hj with
          | 0, hj => simp at hj; subst hj; simp [Addr.add]
        case c2 => intro u hu; simp at hu; subst hu; rfl
        case c3 => unfold maxLen; omega
        case c4 => omega
        case c5 => simp; omega
        intro v' w1 hown' hgrow _
        have hb1 : Below W.heap.size W w1 := (hbl.alloc (by omega) _).grown hgrow (by simp; omega) (fun x hx => (hown.lt x hx).1)
        have hown2 : w1.ownsRow W.heap.size 3 1 v' (on (k + 1) f).length (ints (on (k + 1) f)) := by
          rw [Hon.out, Hfk.out, if_pos rfl, ints_snoc, List.length_append]
          exact hown'
        clear hown' hgrow hown hbl hfk
        go_wp2
        go_roundw
        case rel => exact ⟨k + 1, by omega, by go_num, hown2, hb1⟩
        case measure => simp [intOf]; omega
      · have hff : f k = false := by simpa using hfk
        have hown2 : w2.ownsRow W.heap.size 3 1 u3 (on (k + 1) f).length (ints (on (k + 1) f)) := by
          rw [Hon.out, hff]
          simpa using hown
        clear hfk hown
        go_wp2
        go_roundw
        case rel => exact ⟨k + 1, by omega, by go_num, hown2, hbl⟩
        case measure => simp [intOf]; omega
    · have hke : k = N := by omega
      subst hke
      obtain ⟨A', c', hv, hrow⟩ := own_row hown
      have hfr : ∀ ad, A' = some ad → w.heap.size ≤ ad.block := fun ad ha => by
        rw [hv, ha] at hown
        have := own_fresh hown
        have := Hz.out
        omega
      have Hv2 := hide hv
      clear hv hown q0 q1
      go_wp2
      go_ret
      rw [Hv2.out]
      exact ⟨A', c', rfl, hrow, then_ HbW.out hbl, hfr⟩
set_option maxHeartbeats 1600000 in
theorem iAnd_fresh (N : Nat) (A A' : Option Addr) (l l' : List Nat) (c c' : Nat) (w : World) (B : Nat) (h1 : 1 ≤ N) (h2 : N ≤ 300) (hB : B ≤ w.heap.size) (hr : Row w B A (ints l)) (hl : l.length ≤ 600) (hN : ∀ x ∈ l, x < N)
    (hr' : Row w B A' (ints l')) (hl' : l'.length ≤ 600) (hN' : ∀ x ∈ l', x < N) :
    Calls Try.prog 34 #[.agg #[.int .i64 N, .slice A l.length c], .agg #[.int .i64 N, .slice A' l'.length c']] w (GivesFresh w (on N (fun i => bitsOf l i && bitsOf l' i))) := by
  go_enter Try.func34, Try.ntmps34
  go_wp2_with fail
  refine (New_any N _ h2).mono ?_
  rintro e w1 ⟨g, rfl, hg, hv, hb⟩
  simp only [World.size_alloc] at hg hb
  have q0 := old_cell hb (b := w.heap.size) (o := 0) (v := .int .i64 N) (by omega) (by go_simp)
  have q1 := old_cell hb (b := w.heap.size) (o := 1) (v := .slice A l.length c) (by omega) (by go_simp)
  have r0 := old_cell hb (b := w.heap.size + 1) (o := 0) (v := .int .i64 N) (by omega) (by go_simp)
  have r1 := old_cell hb (b := w.heap.size + 1) (o := 1) (v := .slice A' l'.length c') (by omega) (by go_simp)
  have hb1 : Below w.heap.size w w1 := then_ (then_alloc (then_alloc (Below.refl w.heap.size w) _) _) (by simpa using hb)
  have z1 := lt_cell r0
  have z0 := lt_cell q0
  have hgl := hv.lt
  clear hb
  go_wp2_with fail
  generalize hW : w1.alloc (.cells #[.int .i32 N, .slice (some ⟨g, 0, none⟩) ((N + 31) / 32) ((N + 31) / 32)] 60) = W
  have d0 : W.cell? ⟨w1.heap.size, 0, none⟩ = some (.int .i32 N) := by rw [← hW]; exact new_cell rfl
  have d1 : W.cell? ⟨w1.heap.size, 1, none⟩ = some (.slice (some ⟨g, 0, none⟩) ((N + 31) / 32) ((N + 31) / 32)) := by rw [← hW]; exact new_cell rfl
  have hb2 : Below w1.heap.size w1 W := by rw [← hW]; exact then_alloc (Below.refl _ _) _
  clear hW
  replace q0 := cell_keep hb2 q0
  replace q1 := cell_keep hb2 q1
  replace r0 := cell_keep hb2 r0
  replace r1 := cell_keep hb2 r1
  replace hv := hv.keep hb2
  have hbW := then_ hb1 hb2
  clear hb1 hb2
  have HR : Hid (∀ w', Below w.heap.size w w' → Row w' B A (ints l)) := fun w' h => hr.below (h.mono hB)
  have HR' : Hid (∀ w', Below w.heap.size w w' → Row w' B A' (ints l')) := fun w' h => hr'.below (h.mono hB)
  have HB : Hid (∀ w', Below w.heap.size w w' → B ≤ w'.heap.size) := fun w' h => Nat.le_trans hB h.size
  have HV : Hid (∀ w', Below W.heap.size W w' → Vec w' g 0 N fun _ => false) := fun w' h => hv.keep h
  have hgW := hv.lt
  have tok : True := trivial
  clear hr hr' hv
  go_region_held3 (fun w' => w'.cell? ⟨w.heap.size, 0, none⟩ = some (.int .i64 N) ∧ w'.cell? ⟨w.heap.size, 1, none⟩ = some (.slice A l.length c) ∧ w'.cell? ⟨w.heap.size + 1, 0, none⟩ = some (.int .i64 N) ∧ w'.cell? ⟨w.heap.size + 1, 1, none⟩ = some (.slice A' l'.length c') ∧ w'.cell? ⟨w1.heap.size, 0, none⟩ = some (.int .i32 N) ∧ w'.cell? ⟨w1.heap.size, 1, none⟩ = some (.slice (some ⟨g, 0, none⟩) ((N + 31) / 32) ((N + 31) / 32)) ∧ Below w.heap.size w w')
    (first
      | assumption
      | exact ⟨q0, q1, r0, r1, d0, d1, hbW.drew⟩
      | (go_split_ands; exact ⟨far_cell ho6 ‹_› (by omega), far_cell ho6 ‹_› (by omega), far_cell ho6 ‹_› (by omega), far_cell ho6 ‹_› (by omega), far_cell ho6 ‹_› (by omega), far_cell ho6 ‹_› (by omega), Wrote.below ‹_› ho6 (by omega)⟩)
      | (go_split_ands; exact ⟨cell_keep hb5 ‹_›, cell_keep hb5 ‹_›, cell_keep hb5 ‹_›, cell_keep hb5 ‹_›, cell_keep hb5 ‹_›, cell_keep hb5 ‹_›, then_ ‹_› hb5⟩)
      | (go_split_ands; exact ⟨cell_keep hb4 ‹_›, cell_keep hb4 ‹_›, cell_keep hb4 ‹_›, cell_keep hb4 ‹_›, cell_keep hb4 ‹_›, cell_keep hb4 ‹_›, then_ ‹_› hb4⟩))
    (first
      | (go_at_call 45; have _t := tok; go_split_ands; refine (build_any N A l c _ B h2 (HB.out _ ‹_›) (HR.out _ ‹_›) hl hN).mono ?_; rintro e w4 ⟨g1, rfl, hg1, hv1, hb4⟩; have hg4 : W.heap.size ≤ g1 := hg1; have hu4 := undrew hb4; clear tok)
      | (go_at_call 45; go_split_ands; refine (build_any N A' l' c' _ B h2 (HB.out _ ‹_›) (HR'.out _ ‹_›) hl' hN').mono ?_; rintro e w5 ⟨g2, rfl, hg2, hv2, hb5⟩)
      | (go_at_call 54; go_split_ands; refine (mAnd_any N g 0 _ g1 0 _ g2 0 _ _ _ _ _ h1 h2 (HV.out _ (then_ hu4 hb5)) (hv1.keep hb5) hv2 (Or.inr (Or.inl (by omega))) (Or.inr (Or.inl (by have := hu4.size; omega)))).mono ?_; rintro e w6 ⟨rfl, hv6, ho6⟩))
  go_split_ands
  go_wp2_with fail
  refine (bits_fresh N g 0 _ _ _ h2 hv6).mono ?_
  rintro e w7 ⟨A', c', rfl, hrow, hb7, hfr⟩
  have hb8 := then_ (‹Below w.heap.size w w6›) hb7
  have hs6 := (‹Below w.heap.size w w6›).size
  clear hb7
  go_wp2_with fail
  go_ret
  exact ⟨A', c', rfl, hrow, hb8, fun ad ha => Nat.le_trans hs6 (hfr ad ha)⟩

set_option maxHeartbeats 1600000 in
theorem iAndNot_fresh (N : Nat) (A A' : Option Addr) (l l' : List Nat) (c c' : Nat) (w : World) (B : Nat) (h1 : 1 ≤ N) (h2 : N ≤ 300) (hB : B ≤ w.heap.size) (hr : Row w B A (ints l)) (hl : l.length ≤ 600) (hN : ∀ x ∈ l, x < N)
    (hr' : Row w B A' (ints l')) (hl' : l'.length ≤ 600) (hN' : ∀ x ∈ l', x < N) :
    Calls Try.prog 36 #[.agg #[.int .i64 N, .slice A l.length c], .agg #[.int .i64 N, .slice A' l'.length c']] w (GivesFresh w (on N (fun i => bitsOf l i && !bitsOf l' i))) := by
  go_enter Try.func36, Try.ntmps36
  go_wp2_with fail
  refine (New_any N _ h2).mono ?_
  rintro e w1 ⟨g, rfl, hg, hv, hb⟩
  simp only [World.size_alloc] at hg hb
  have q0 := old_cell hb (b := w.heap.size) (o := 0) (v := .int .i64 N) (by omega) (by go_simp)
  have q1 := old_cell hb (b := w.heap.size) (o := 1) (v := .slice A l.length c) (by omega) (by go_simp)
  have r0 := old_cell hb (b := w.heap.size + 1) (o := 0) (v := .int .i64 N) (by omega) (by go_simp)
  have r1 := old_cell hb (b := w.heap.size + 1) (o := 1) (v := .slice A' l'.length c') (by omega) (by go_simp)
  have hb1 : Below w.heap.size w w1 := then_ (then_alloc (then_alloc (Below.refl w.heap.size w) _) _) (by simpa using hb)
  have z1 := lt_cell r0
  have z0 := lt_cell q0
  have hgl := hv.lt
  clear hb
  go_wp2_with fail
  generalize hW : w1.alloc (.cells #[.int .i32 N, .slice (some ⟨g, 0, none⟩) ((N + 31) / 32) ((N + 31) / 32)] 60) = W
  have d0 : W.cell? ⟨w1.heap.size, 0, none⟩ = some (.int .i32 N) := by rw [← hW]; exact new_cell rfl
  have d1 : W.cell? ⟨w1.heap.size, 1, none⟩ = some (.slice (some ⟨g, 0, none⟩) ((N + 31) / 32) ((N + 31) / 32)) := by rw [← hW]; exact new_cell rfl
  have hb2 : Below w1.heap.size w1 W := by rw [← hW]; exact then_alloc (Below.refl _ _) _
  clear hW
  replace q0 := cell_keep hb2 q0
  replace q1 := cell_keep hb2 q1
  replace r0 := cell_keep hb2 r0
  replace r1 := cell_keep hb2 r1
  replace hv := hv.keep hb2
  have hbW := then_ hb1 hb2
  clear hb1 hb2
  have HR : Hid (∀ w', Below w.heap.size w w' → Row w' B A (ints l)) := fun w' h => hr.below (h.mono hB)
  have HR' : Hid (∀ w', Below w.heap.size w w' → Row w' B A' (ints l')) := fun w' h => hr'.below (h.mono hB)
  have HB : Hid (∀ w', Below w.heap.size w w' → B ≤ w'.heap.size) := fun w' h => Nat.le_trans hB h.size
  have HV : Hid (∀ w', Below W.heap.size W w' → Vec w' g 0 N fun _ => false) := fun w' h => hv.keep h
  have hgW := hv.lt
  have tok : True := trivial
  clear hr hr' hv
  go_region_held3 (fun w' => w'.cell? ⟨w.heap.size, 0, none⟩ = some (.int .i64 N) ∧ w'.cell? ⟨w.heap.size, 1, none⟩ = some (.slice A l.length c) ∧ w'.cell? ⟨w.heap.size + 1, 0, none⟩ = some (.int .i64 N) ∧ w'.cell? ⟨w.heap.size + 1, 1, none⟩ = some (.slice A' l'.length c') ∧ w'.cell? ⟨w1.heap.size, 0, none⟩ = some (.int .i32 N) ∧ w'.cell? ⟨w1.heap.size, 1, none⟩ = some (.slice (some ⟨g, 0, none⟩) ((N + 31) / 32) ((N + 31) / 32)) ∧ Below w.heap.size w w')
    (first
      | assumption
      | exact ⟨q0, q1, r0, r1, d0, d1, hbW.drew⟩
      | (go_split_ands; exact ⟨far_cell ho6 ‹_› (by omega), far_cell ho6 ‹_› (by omega), far_cell ho6 ‹_› (by omega), far_cell ho6 ‹_› (by omega), far_cell ho6 ‹_› (by omega), far_cell ho6 ‹_› (by omega), Wrote.below ‹_› ho6 (by omega)⟩)
      | (go_split_ands; exact ⟨cell_keep hb5 ‹_›, cell_keep hb5 ‹_›, cell_keep hb5 ‹_›, cell_keep hb5 ‹_›, cell_keep hb5 ‹_›, cell_keep hb5 ‹_›, then_ ‹_› hb5⟩)
      | (go_split_ands; exact ⟨cell_keep hb4 ‹_›, cell_keep hb4 ‹_›, cell_keep hb4 ‹_›, cell_keep hb4 ‹_›, cell_keep hb4 ‹_›, cell_keep hb4 ‹_›, then_ ‹_› hb4⟩))
    (first
      | (go_at_call 45; have _t := tok; go_split_ands; refine (build_any N A l c _ B h2 (HB.out _ ‹_›) (HR.out _ ‹_›) hl hN).mono ?_; rintro e w4 ⟨g1, rfl, hg1, hv1, hb4⟩; have hg4 : W.heap.size ≤ g1 := hg1; have hu4 := undrew hb4; clear tok)
      | (go_at_call 45; go_split_ands; refine (build_any N A' l' c' _ B h2 (HB.out _ ‹_›) (HR'.out _ ‹_›) hl' hN').mono ?_; rintro e w5 ⟨g2, rfl, hg2, hv2, hb5⟩)
      | (go_at_call 55; go_split_ands; refine (mAndNot_any N g 0 _ g1 0 _ g2 0 _ _ _ _ _ h1 h2 (HV.out _ (then_ hu4 hb5)) (hv1.keep hb5) hv2 (Or.inr (Or.inl (by omega))) (Or.inr (Or.inl (by have := hu4.size; omega)))).mono ?_; rintro e w6 ⟨rfl, hv6, ho6⟩))
  go_split_ands
  go_wp2_with fail
  refine (bits_fresh N g 0 _ _ _ h2 hv6).mono ?_
  rintro e w7 ⟨A', c', rfl, hrow, hb7, hfr⟩
  have hb8 := then_ (‹Below w.heap.size w w6›) hb7
  have hs6 := (‹Below w.heap.size w w6›).size
  clear hb7
  go_wp2_with fail
  go_ret
  exact ⟨A', c', rfl, hrow, hb8, fun ad ha => Nat.le_trans hs6 (hfr ad ha)⟩
/-- The intersection of what only the first has with the second is empty. -/
theorem iAnd_apart (N : Nat) (A A' : Option Addr) (l l' : List Nat) (c c' : Nat) (w : World) (B : Nat) (h1 : 1 ≤ N) (h2 : N ≤ 300) (hB : B ≤ w.heap.size) (f : Nat → Bool) (hf : l = on N fun i => f i && !bitsOf l' i) (hr : Row w B A (ints l))
    (hr' : Row w B A' (ints l')) (hl' : l'.length ≤ 600) (hN' : ∀ x ∈ l', x < N) :
    Calls Try.prog 34 #[.agg #[.int .i64 N, .slice A l.length c], .agg #[.int .i64 N, .slice A' l'.length c']] w fun e w' => ∃ A2 c2, e = .returned (.slice A2 0 c2) ∧ Below w.heap.size w w' := by
  subst hf
  have ho := on_le N fun i => f i && !bitsOf l' i
  refine (iAnd_any N A A' _ l' c c' w B h1 h2 hB hr (by omega) on_lt hr' hl' hN').mono ?_
  rintro e w2 ⟨A2, c2, rfl, _, hb⟩
  refine ⟨A2, c2, ?_, hb⟩
  rw [on_apart]
  rfl
end Bv
end Go.Proofs.Ytjogehjgoemdpaa
