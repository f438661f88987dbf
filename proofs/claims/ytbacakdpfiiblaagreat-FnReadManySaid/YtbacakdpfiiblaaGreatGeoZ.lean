/-
  An argument that is plain data, opened to any depth.
-/
import Derived.Test.YtbacakdpfiiblaaGreatGeoM
import Derived.SizedLaws
namespace Go.Proofs.YtbacakdpfiiblaaGreat.geo
open Go.ChangeShapes Go.WideShapes Go.ChangeAt Go.RowKit
open Go.Proofs.YtbacakdpfiiblaaGreat.mem
set_option linter.unusedVariables false
set_option linter.unusedSimpArgs false

theorem weightsAll_mem {H : Type} {P : Program} {e : TypeId} : ∀ {l : List (DataW H)} {d : DataW H}, d ∈ l → ∀ n ∈ d.weights P e, n ∈ DataW.weightsAll P e l
  | x :: l, d, hd, n, hn => by
    rw [DataW.weightsAll]
    rcases List.mem_cons.1 hd with rfl | hd
    · exact List.mem_append.2 (.inl hn)
    · exact List.mem_append.2 (.inr (weightsAll_mem hd n hn))
  | [], d, hd, n, hn => by cases hd

theorem rows_open {w : World} {α : Type} (enc : α → List Value) (Q : α → Prop) {c : Nat} (hpos : 0 < c) (hlen : ∀ a, (enc a).length = c) (ad : Addr) (len : Nat) (hm : len ≤ maxLen)
    (h : ∀ i, i < len → ∃ a : α, Q a ∧ ∀ j, j < c → w.cell? ((ad.add (i * c)).add j) = (enc a)[j]?) :
    ∃ l : List α, l.length = len ∧ Sl w w.heap.size (some ad) len c (l.flatMap enc) ∧ ∀ a ∈ l, Q a := by
  obtain ⟨l, hll, hlp⟩ := choose_list (α := α) (p := fun i a => Q a ∧ ∀ j, j < c → w.cell? ((ad.add (i * c)).add j) = (enc a)[j]?) len h
  refine ⟨l, hll, ⟨by rw [flatMap_len enc c hlen, hll], hm, fun hn => ?_⟩, fun a ha => ?_⟩
  · obtain ⟨b, off, spot⟩ := ad
    have h0 : l[0]? = some l[0] := List.getElem?_eq_getElem (by omega)
    have hc0 := (hlp 0 _ h0).2 0 hpos
    have hp0 : 0 < (enc l[0]).length := by rw [hlen]; exact hpos
    rw [List.getElem?_eq_getElem hp0] at hc0
    have hspot : spot = none := by simpa [Addr.add] using World.cell?_spot hc0
    subst hspot
    refine ⟨b, off, rfl, ?_, fun j u hu => ?_⟩
    · have := World.block_lt_of_cell? w _ hc0
      rw [mem.add_plain, mem.add_plain] at this
      exact this
    · have hjl : j < len * c := by
        rcases Nat.lt_or_ge j (len * c) with hj | hj
        · exact hj
        · rw [List.getElem?_eq_none (by rw [flatMap_len enc c hlen, hll]; exact hj)] at hu; cases hu
      have hjd : j = j / c * c + j % c := by rw [Nat.mul_comm]; exact (Nat.div_add_mod j c).symm
      have hr : j % c < c := Nat.mod_lt _ hpos
      have hq : j / c < len := (Nat.div_lt_iff_lt_mul hpos).2 hjl
      rw [hjd, flatMap_get enc c hlen _ _ _ hr] at hu
      have hli : l[j / c]? = some l[j / c] := List.getElem?_eq_getElem (by omega)
      rw [hli] at hu
      have := (hlp _ _ hli).2 _ hr
      rw [mem.add_plain, mem.add_plain] at this
      rw [hjd, ← Nat.add_assoc, this]
      simpa using hu
  · obtain ⟨i, hi', rfl⟩ := List.getElem_of_mem ha
    exact (hlp i _ (List.getElem?_eq_getElem hi')).1

/-- A slice that came in, what its elements are left open. -/
theorem slice_open {H : Type} {ec : TypeId × Value → H} {P : Program} {w : World} {t e : TypeId} {fuel c by_ : Nat} {cs : List Value} {x : DataW H × List MemPlace} {α : Type} (enc : α → List Value) (Q : α → Prop)
    (ht : P.underlying t = some (.slice e)) (hc : P.cellsOf e = c) (hby : P.bytesOf e = by_) (hpos : 0 < c) (hlen : ∀ a, (enc a).length = c)
    (hw : ∀ n ∈ x.1.weights P t, n ≤ reachBytes)
    (hel : ∀ (m : Nat) (cs' : List Value) (y : DataW H × List MemPlace), m < fuel → (∀ n ∈ y.1.weights P e, n ≤ reachBytes) → DataW.trod ec P w 0 (fun _ => true) true m e cs' = some y → ∃ a, cs' = enc a ∧ Q a)
    (h : DataW.trod ec P w 0 (fun _ => true) true fuel t cs = some x) :
    ∃ (A : Option Addr) (n k : Nat) (l : List α), cs = [.slice A n k] ∧ l.length = n ∧ n ≤ k ∧ n * by_ ≤ reachBytes ∧ Sl w w.heap.size A n c (l.flatMap enc) ∧ ∀ a ∈ l, Q a := by
  rcases DataW.trod_slice ht h with ⟨hcs, _⟩ | ⟨a, len, cap, elems, rest, n, hfu, hcs, hx, hb, hl, hm, hlen2, hel2, hsp, hns⟩
  · exact ⟨none, 0, 0, [], hcs, rfl, Nat.le_refl _, by simp, by simpa using Sl.nil w w.heap.size c, fun a ha => by cases ha⟩
  · subst hx
    rw [hc] at hel2
    have hw1 : ∀ n ∈ (elems.length + rest.length) * P.bytesOf e :: (DataW.weightsAll P e (elems.map (·.1)) ++ DataW.weightsAll P e (rest.map (·.1))), n ≤ reachBytes := by
      have := hw
      simp only [DataW.weights, ht, List.length_map] at this
      exact this
    obtain ⟨l, h1, h2, h3⟩ := rows_open (w := w) enc Q hpos hlen a len (by omega) (fun i hi => by
      have hy := hel2 i hi
      obtain ⟨y, hy1⟩ : ∃ y, elems[i]? = some y := ⟨elems[i]'(by omega), List.getElem?_eq_getElem (by omega)⟩
      rw [hy1] at hy
      obtain ⟨cs', hc1, hc2⟩ := Option.bind_eq_some_iff.1 hy
      have hmem : y.1 ∈ elems.map (·.1) := List.mem_map_of_mem (f := (·.1)) (List.mem_of_getElem? hy1)
      obtain ⟨b, rfl, hq⟩ := hel n cs' y (by omega) (fun k hk => hw1 k (List.mem_cons_of_mem _ (List.mem_append.2 (.inl (weightsAll_mem hmem k hk))))) hc2
      obtain ⟨_, _, h3⟩ := World.cells?_some hc1
      exact ⟨b, hq, h3⟩)
    refine ⟨some a, len, cap, l, hcs, h1, hl, ?_, h2, h3⟩
    have h4 := hw1 _ (List.mem_cons_self ..)
    rw [hby, hlen2] at h4
    exact Nat.le_trans (Nat.mul_le_mul_right _ (Nat.le_add_right _ _)) h4

theorem cellsG : Tryz.prog.cellsOf 25 = 4 := by kernel_rfl
theorem cellsF : Tryz.prog.cellsOf 31 = 1 := by kernel_rfl
theorem bytesG : Tryz.prog.bytesOf 25 = 64 := by kernel_rfl
theorem bytesF : Tryz.prog.bytesOf 31 = 8 := by kernel_rfl
theorem trod_floatG {H : Type} {enc : TypeId × Value → H} {W : World} {base fuel : Nat} {spare : Nat → Bool} {held : Bool} {cs : List Value} {y : DataW H × List MemPlace}
    (h : DataW.trod enc Tryz.prog W base spare held fuel 31 cs = some y) : ∃ b, cs = [.float .f64 b] := by
  cases fuel with
  | zero => simp [DataW.trod] at h
  | succ n =>
    simp only [DataW.trod, Tryz.underlying31] at h
    match cs, h with
    | [], h => simp at h
    | [c], h =>
      cases c <;> simp at h
      obtain ⟨⟨rfl, _⟩, _⟩ := h
      exact ⟨_, rfl⟩
    | _ :: _ :: _, h => simp at h
theorem fl_flat (l : List Nat) : l.flatMap (fun b => [Value.float .f64 b]) = FL l := by
  induction l with
  | nil => rfl
  | cons b l ih => rw [List.flatMap_cons, ih]; rfl

set_option maxRecDepth 100000 in
theorem open_geom {H : Type} {enc : TypeId × Value → H} {W : World} : ∀ (fuel : Nat) (cs : List Value) (x : DataW H × List MemPlace), (∀ n ∈ x.1.weights Tryz.prog 25, n ≤ reachBytes) →
    DataW.trod enc Tryz.prog W 0 (fun _ => true) true fuel 25 cs = some x → ∃ g : IG, cs = g.enc ∧ g.In (fun _ => True) W := by
  intro fuel
  induction fuel using Nat.strongRecOn with
  | ind fuel ih =>
    intro cs x hw h
    obtain ⟨xs, n, hfu, hx, hlen, hxl, hf⟩ := DataW.trod_struct Tryz.underlying25 h
    subst hx
    have h0 := hf 0 _ rfl
    have h1 := hf 1 _ rfl
    have h2 := hf 2 _ rfl
    have h3 := hf 3 _ rfl
    have hc4 : cs.length = 4 := hlen.trans cellsG
    match cs, hc4 with
    | [c0, c1, c2, c3], _ =>
      match xs, hxl with
      | [y0, y1, y2, y3], _ =>
        have e0 : DataW.trod enc Tryz.prog W 0 (fun _ => true) true n 3 [c0] = some y0 := h0
        have e1 : DataW.trod enc Tryz.prog W 0 (fun _ => true) true n 3 [c1] = some y1 := h1
        have e2 : DataW.trod enc Tryz.prog W 0 (fun _ => true) true n 22 [c2] = some y2 := h2
        have e3 : DataW.trod enc Tryz.prog W 0 (fun _ => true) true n 23 [c3] = some y3 := h3
        have hwe : ∀ k ∈ DataW.weightsEach Tryz.prog [3, 3, 22, 23] [y0.1, y1.1, y2.1, y3.1], k ≤ reachBytes := by
          intro k hk
          apply hw
          simp only [DataW.weights, Tryz.underlying25]
          exact hk
        have hw2 : ∀ k ∈ y2.1.weights Tryz.prog 22, k ≤ reachBytes := fun k hk => hwe k (DataW.weights_mem_each (j := 2) rfl rfl k hk)
        have hw3 : ∀ k ∈ y3.1.weights Tryz.prog 23, k ≤ reachBytes := fun k hk => hwe k (DataW.weights_mem_each (j := 3) rfl rfl k hk)
        obtain ⟨z0, hz0, _, wf0⟩ := DataW.trod_int Tryz.underlying3 e0
        obtain ⟨z1, hz1, _, wf1⟩ := DataW.trod_int Tryz.underlying3 e1
        obtain ⟨A, n2, k2, ns, hcs2, hl2, hk2, hb2, hs2, -⟩ := slice_open (α := Nat) (fun b => [Value.float .f64 b]) (fun _ => True) Tryz.underlying22 cellsF bytesF (by omega) (fun _ => rfl) hw2 (fun m cs' y _ _ hy => by
          obtain ⟨b, hb⟩ := trod_floatG hy
          exact ⟨b, hb, trivial⟩) e2
        obtain ⟨B, n3, k3, kids, hcs3, hl3, hk3, hb3, hs3, hq3⟩ := slice_open (α := IG) IG.enc (fun g => g.In (fun _ => True) W) Tryz.underlying23 cellsG bytesG (by omega) IG.enc_len hw3 (fun m cs' y hm hwy hy => ih m (by omega) cs' y hwy hy) e3
        simp at hz0 hz1 hcs2 hcs3
        subst hz0 hz1 hcs2 hcs3 hl2 hl3
        refine ⟨.mk z0 z1 A k2 ns B k3 kids, rfl, ?_⟩
        rw [IG.In]
        rw [fl_flat] at hs2
        unfold reachBytes at hb2 hb3
        exact ⟨⟨wf0, wf1⟩, ⟨by unfold big; omega, by unfold big; omega⟩, ⟨hk2, hk3⟩, ⟨hs2, fun _ _ _ => trivial⟩, ⟨hs3, fun _ _ _ => trivial⟩, IG.inL_iff.2 hq3⟩
end Go.Proofs.YtbacakdpfiiblaaGreat.geo
