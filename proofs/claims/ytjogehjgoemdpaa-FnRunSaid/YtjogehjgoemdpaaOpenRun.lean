/- A slice of steps that is an argument, opened: its numbers in a row. -/
import Derived.Test.YtjogehjgoemdpaaOpen
import Derived.Test.YtjogehjgoemdpaaStepsP
import Derived.Deep.Slices
import Derived.Deep.Fields
import Derived.ChangeSame
namespace Go.Proofs.Ytjogehjgoemdpaa
open Go.ChangeShapes Go.WideShapes Go.Deep Go.RowKit
namespace Bv

/-- A slice of structs of one-cell fields: each field's cell, and how it reads. -/
theorem open_cells {H : Type} {enc : TypeId × Value → H} {w : World} {t e : TypeId} {fs : Array Field} {fuel : Nat} {cs : List Value} {x : DataW H × List MemPlace} (ht : Try.prog.underlying t = some (.slice e)) (he : Try.prog.underlying e = some (.struct fs))
    (hone : oneCellFields Try.prog fs = true) (hC : Try.prog.cellsOf e = fs.size) (h : DataW.trod enc Try.prog w 0 (fun _ => true) true fuel t cs = some x) :
    cs = [.slice none 0 0] ∨ ∃ (a : Addr) (len cap : Nat), cs = [.slice (some a) len cap] ∧
      ∀ i j f, i < len → fs[j]? = some f → ∃ (v : Value) (n : Nat) (y : DataW H × List MemPlace), w.cell? (a.add (i * fs.size + j)) = some v ∧ DataW.trod enc Try.prog w 0 (fun _ => true) true n f.type [v] = some y := by
  rcases open_slice ht h with ⟨h0, _⟩ | ⟨a, len, cap, m, n, D, Pl, hcs, _, hl, _, hmm, _, hi⟩
  · exact .inl h0
  · refine .inr ⟨a, len, cap, hcs, fun i j f hil hj => ?_⟩
    simp only [if_true] at hmm
    obtain ⟨cs', hc, ht'⟩ := hi i (by omega)
    rw [hC] at hc
    obtain ⟨ys, n', _, _, hlen, hyl, hf⟩ := DataW.trod_struct he ht'
    obtain ⟨_, _, hat⟩ := World.cells?_some hc
    obtain ⟨ho, hk⟩ := hone_of hone j f hj
    have hjl : j < fs.size := (Array.getElem?_eq_some_iff.1 hj).1
    have h1 := hf j f hj
    rw [ho, hk] at h1
    have e1 : (cs'.drop j).take 1 = [cs'[j]'(by omega)] := by
      rw [List.drop_eq_getElem_cons (by omega)]
      rfl
    rw [e1] at h1
    refine ⟨cs'[j]'(by omega), _, ys[j]'(by omega), ?_, h1.trans (List.getElem?_eq_getElem (by omega))⟩
    rw [← Go.Deep.add_add, hat j hjl]
    exact List.getElem?_eq_getElem (by omega)
def numAt (W : World) (ad : Addr) : Int := match W.cell? ad with
  | some (.int _ n) => n
  | _ => 0
def siAt (W : World) (a : Addr) (i : Nat) : SI :=
  ⟨numAt W (a.add (i * 5 + 0)), numAt W (a.add (i * 5 + 1)), numAt W (a.add (i * 5 + 2)), numAt W (a.add (i * 5 + 3)), numAt W (a.add (i * 5 + 4))⟩
theorem siAt_nums (W : World) (a : Addr) (i j : Nat) (hj : j < 5) : (siAt W a i).nums[j]? = some (numAt W (a.add (i * 5 + j))) := by
  match j, hj with
  | 0, _ => rfl
  | 1, _ => rfl
  | 2, _ => rfl
  | 3, _ => rfl
  | 4, _ => rfl
theorem steps_row {W : World} {a : Addr} {len : Nat} (h : ∀ i j, i < len → j < 5 → ∃ n, W.cell? (a.add (i * 5 + j)) = some (.int .i64 n)) :
    ∃ l : List SI, l.length = len ∧ Row W W.heap.size (some a) (flat l) := by
  refine ⟨(List.range len).map (siAt W a), by simp, ?_⟩
  intro k u hk
  have hkl : k < 5 * len := by
    have := (List.getElem?_eq_some_iff.1 hk).1
    rw [flat_length] at this
    simpa using this
  have hd : k / 5 < len := by omega
  have hm : k % 5 < 5 := Nat.mod_lt _ (by decide)
  have h1 := flat_get ((List.range len).map (siAt W a)) (k / 5) (k % 5) (by simpa using hd) hm
  rw [Nat.div_add_mod] at h1
  rw [h1] at hk
  have e : ((List.range len).map (siAt W a))[k / 5]'(by simpa using hd) = siAt W a (k / 5) := by simp
  rw [e, siAt_nums _ _ _ _ hm] at hk
  obtain ⟨n, hn⟩ := h (k / 5) (k % 5) hd hm
  have e2 : k / 5 * 5 + k % 5 = k := by omega
  rw [e2] at hn hk
  have hnum : numAt W (a.add k) = n := by unfold numAt; rw [hn]
  rw [hnum] at hk
  simp only [Option.map_some, Option.some.injEq] at hk
  subst hk
  refine ⟨a, rfl, ?_, hn⟩
  have := World.block_lt_of_cell? W _ hn
  rwa [block_add] at this

theorem open_steps {H : Type} {enc : TypeId × Value → H} {W : World} {base : Nat} {v : Value} {d : DataW H} {p : List MemPlace} (hv : Value.okWide Try.prog W .any base 48 v)
    (h : DataW.Trod enc Try.prog W 0 (fun _ => true) true 48 v d p) :
    ∃ (A : Option Addr) (l : List SI) (c : Nat), v = .slice A l.length c ∧ Row W W.heap.size A (flat l) := by
  obtain ⟨a0, len, cap, rfl⟩ := okWide_slice Try.underlying48 hv
  obtain ⟨fuel, hf⟩ := h
  rcases open_cells Try.underlying48 Try.underlying51 (by kernel_rfl) (by kernel_rfl) hf with hcs | ⟨a, len', cap', hcs, hi⟩
  · simp [Value.cells] at hcs
    obtain ⟨rfl, rfl, rfl⟩ := hcs
    exact ⟨none, [], 0, rfl, fun k u hk => by simp [flat] at hk⟩
  · simp [Value.cells] at hcs
    obtain ⟨rfl, rfl, rfl⟩ := hcs
    obtain ⟨l, hlen, hrow⟩ := steps_row (W := W) (a := a) (len := len) fun i j hil hj => by
      have hone : ∀ f : Field, f.type = 3 → ∀ jj, (∃ (v : Value) (n : Nat) (y : DataW H × List MemPlace), W.cell? (a.add (i * 5 + jj)) = some v ∧ DataW.trod enc Try.prog W 0 (fun _ => true) true n f.type [v] = some y) → ∃ n, W.cell? (a.add (i * 5 + jj)) = some (.int .i64 n) := by
        rintro f hft jj ⟨v, n, y, hc, ht⟩
        rw [hft] at ht
        obtain ⟨z, hz, _, _⟩ := DataW.trod_int Try.underlying3 ht
        simp only [List.cons.injEq, and_true] at hz
        subst hz
        exact ⟨z, hc⟩
      match j, hj with
      | 0, _ => exact hone _ rfl 0 (hi i 0 _ hil rfl)
      | 1, _ => exact hone _ rfl 1 (hi i 1 _ hil rfl)
      | 2, _ => exact hone _ rfl 2 (hi i 2 _ hil rfl)
      | 3, _ => exact hone _ rfl 3 (hi i 3 _ hil rfl)
      | 4, _ => exact hone _ rfl 4 (hi i 4 _ hil rfl)
    subst hlen
    exact ⟨some a, l, cap, rfl, hrow⟩
end Bv
end Go.Proofs.Ytjogehjgoemdpaa
