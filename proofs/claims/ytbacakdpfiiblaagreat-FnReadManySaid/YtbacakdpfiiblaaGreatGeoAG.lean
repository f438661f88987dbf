/-
  Contracts: a polygon's rings, copied; a polygon, told as plain data.
-/
import Derived.Test.YtbacakdpfiiblaaGreatGeoAF
import Derived.Laws.CopyRow
namespace Go.Proofs.YtbacakdpfiiblaaGreat.geo
open Go.ChangeShapes Go.WideShapes Go.ChangeAt Go.RowKit
open Go.Proofs.YtbacakdpfiiblaaGreat.mem
set_option linter.unusedVariables false
set_option linter.unusedSimpArgs false

/-- A whole row is copied into a row that was made, whatever an element's size. -/
theorem run_copy_all {P : Program} (w : World) (dT sT ty elem : TypeId) (g n c dCap : Nat) (sp : Option Addr) (sCap : Nat) (cur : Array Value) (t : TypeId) (cs : List Value)
    (hu : P.underlying dT = some (.slice elem)) (hs : (P.info? elem).map (·.size) = some c) (hg : w.heap[g]? = some (.cells cur t (0, 0))) (hcl : cs.length = n * c) (hcur : cur.size = n * c)
    (hsrc : 0 < n → ∃ a, sp = some a ∧ ∀ j v, cs[j]? = some v → w.cell? (a.add j) = some v) (h1 : ∀ v ∈ cs, v.oneCell' = true) :
    (Builtin.copy_ #[dT, sT] ty #[.slice (some ⟨g, 0, none⟩) n dCap, .slice sp n sCap]).run P w = .ok (goInt n) (w.setRow g cs.toArray) := by
  have hst := run_storeCells_at P g 0 t cs 0 cur w hg (by omega) h1
  have e1 : cs.length = cur.toList.length := by simp; omega
  rw [Nat.zero_add, Nat.zero_add, List.take_zero, List.nil_append, e1, List.drop_length, List.append_nil] at hst
  cases hq : P.info? elem with
  | none => simp [hq] at hs
  | some i =>
    have hi : i.size = c := by simpa [hq] using hs
    by_cases h0 : 0 < n
    · obtain ⟨a, rfl, hc⟩ := hsrc h0
      have hl := run_loadCells_list (P := P) w a cs hc
      rw [hcl] at hl
      simp [Builtin.copy_, run_underlying hu, Builtin.lenOf, Builtin.firstCells, sizeOf, typeInfo, hq, hi, hl, hst]
    · obtain rfl : n = 0 := by omega
      rw [Nat.zero_mul] at hcl
      obtain rfl : cs = [] := List.eq_nil_of_length_eq_zero hcl
      cases sp with
      | none => simp [Builtin.copy_, run_underlying hu, Builtin.lenOf, Builtin.firstCells, sizeOf, typeInfo, hq, hi]; rw [show (storeCells ⟨g, 0, none⟩ []).run P w = .ok () (w.setRow g #[]) by simpa using hst]; rfl
      | some a =>
        have hl := run_loadCells_list (P := P) w a [] (by simp)
        simp at hl
        simp [Builtin.copy_, run_underlying hu, Builtin.lenOf, Builtin.firstCells, sizeOf, typeInfo, hq, hi, hl]
        rw [show (storeCells ⟨g, 0, none⟩ []).run P w = .ok () (w.setRow g #[]) by simpa using hst]; rfl
theorem wpList_copy_all {P : Program} {w : World} {ops : Array Oper} {rest : List Oper} {o : Oper} {a : Act} {Q : Exit → Act → World → Prop} (hgd : o.guard = none) (d s : Operand) (dT sT : TypeId)
    (ho : o.op = .call { callee := .builtin .copy, args := #[d, s], argTypes := #[dT, sT] }) (elem : TypeId) (hu : P.underlying dT = some (.slice elem)) (c : Nat) (hsz : (P.info? elem).map (·.size) = some c)
    (g n dCap : Nat) (sp : Option Addr) (sCap : Nat) (hd : a.eval d = .slice (some ⟨g, 0, none⟩) n dCap) (hs : a.eval s = .slice sp n sCap)
    (cur : Array Value) (t : TypeId) (hg : w.heap[g]? = some (.cells cur t (0, 0))) (cs : List Value) (hcl : cs.length = n * c) (hcur : cur.size = n * c)
    (hsrc : 0 < n → ∃ ad, sp = some ad ∧ ∀ j v, cs[j]? = some v → w.cell? (ad.add j) = some v) (h1 : ∀ v ∈ cs, v.oneCell' = true)
    (h : ∀ w', Hid (w'.heap[g]? = some (.cells cs.toArray t (0, 0))) → Below g w w' → wpList P ops Q rest (a.put o.dst (goInt n)) w') :
    wpList P ops Q (o :: rest) a w := by
  refine wpList_plain hgd fun K hK => ?_
  have hrun := run_copy_all (P := P) w dT sT o.type elem g n c dCap sp sCap cur t cs hu hsz hg hcl hcur hsrc h1
  unfold Oper.wp
  simp [execOp, ho, resolve, invoke, builtin, hd, hs, hrun, Result.andThen]
  exact hK _ _ (h _ (show _ = _ by simpa using setRow_heap w g cur cs.toArray t _ hg) (below_setRow (.refl _ _) (Nat.le_refl _) _))

theorem enc_ones (kids : List MG) : ∀ v ∈ kids.flatMap MG.enc, v.oneCell' = true := by
  intro v hv
  obtain ⟨g, _, h⟩ := List.mem_flatMap.1 hv
  exact MG.enc_one g v h
theorem infoL2 : (Tryz.prog.info? 83).map (·.size) = some 2 := by kernel_rfl
/-- A row of rings comes back, new. -/
def RingsPost (w : World) (kids : List MG) (e : Ending) (w' : World) : Prop :=
  ∃ A, e = .returned (.slice A kids.length kids.length) ∧ SlS (fun a => w.heap.size ≤ a) w' A kids.length 2 (kids.flatMap MG.enc) ∧ Below w.heap.size w w'

theorem own_made {w : World} {base n c : Nat} {e : TypeId} {b : Nat} {xs : List Value} (h : w.ownsRow base e c (.slice (some ⟨b, 0, none⟩) n n) n xs) : ∃ cur : Array Value, w.heap[b]? = some (.cells cur e (0, 0)) ∧ cur.size = n * c := by
  rcases h.2 with ⟨hbad, _⟩ | ⟨g, cap, cur, hv, _, hg, h1, h2, h3, h4⟩
  · cases hbad
  · simp only [Value.slice.injEq, Option.some.injEq, Addr.mk.injEq, and_true, true_and] at hv
    obtain ⟨rfl, rfl⟩ := hv
    exact ⟨cur, hg, h3⟩
theorem copy_src {w : World} {A : Option Addr} {n c : Nat} {xs : List Value} (h : Sl w w.heap.size A n c xs) : 0 < n → ∃ ad, A = some ad ∧ ∀ j v, xs[j]? = some v → w.cell? (ad.add j) = some v := fun h0 => by
  obtain ⟨b, off, rfl, hb, hc⟩ := h.2.2 h0
  refine ⟨_, rfl, fun j v hj => ?_⟩
  rw [mem.add_plain]
  exact hc j v hj

set_option maxHeartbeats 8000000 in
set_option maxRecDepth 100000 in
theorem dumpRings_calls {kids : List MG} {A : Option Addr} {c : Nat} {d : Value} {w : World} (hA : Sl w w.heap.size A kids.length 2 (kids.flatMap MG.enc)) (hkb : kids.length ≤ kbig) :
    Calls Tryz.prog 139 #[.agg #[.slice A kids.length c, d]] w (RingsPost w kids) := by
  obtain ⟨i0, hi, hz0, hz1, hz2⟩ := info_parts infoG3
  obtain ⟨wA, hwA⟩ : ∃ wA, wA = w.alloc (.cells #[.slice A kids.length c, d] 87) := ⟨_, rfl⟩
  have hbl : Below w.heap.size w wA := by rw [hwA]; exact (Below.refl _ _).alloc (Nat.le_refl _) _
  have hB : Blk wA w.heap.size 87 #[.slice A kids.length c, d] := by rw [hwA]; exact Blk.new _ _ _
  have hAA := hA.up hbl
  obtain ⟨n, hn⟩ : ∃ n, n = kids.length := ⟨_, rfl⟩
  unfold RingsPost
  rw [← hn] at hwA hB hkb hAA ⊢
  have hn2 : n ≤ 1099511627776 := hkb
  have hb48 : i0.bytes * n ≤ 281474976710656 := by rw [hz2]; omega
  have HAA := Lib.hid hAA
  have HCL := Lib.hid hAA.1
  have HBL := Lib.hid hbl
  have HWA := Lib.hid hwA
  have HB := Lib.hid hB
  have HN := Lib.hid hn
  have b0 := hB.cell 0
  simp only [List.getElem?_toArray, List.getElem?_cons_zero] at b0
  have bl := hB.lt
  clear hA hwA hbl hAA hn hkb hB
  go_enter Tryz.func139, Tryz.ntmps139
  go_wp2_with (first
    | (at_make; rw [← HWA.out]; refine wpList_make_full _ rfl (.tmp 6) (.tmp 6) 85 rfl wA.heap.size 83 i0 _ 2 Tryz.underlying85 hi hz0 hz1 .i64 .i64 _ _ n rfl rfl rfl rfl hb48 (by unfold maxLen; omega) (Nat.le_refl _) ?_; intro w1 hown hgrow
       obtain ⟨cur, hcur, hcs⟩ := own_made hown
       have HC := Lib.hid hcur
       have HS := Lib.hid hcs
       have HB1 := Lib.hid ((Below.refl wA.heap.size wA).grown hgrow (Nat.le_refl _) (fun q hq => by cases hq))
       obtain ⟨b1, -, -, -, bl1⟩ := cells2 (HB.out.below HB1.out HB.out.lt)
       clear hown hgrow hcur hcs b0 bl)
    | (with_reducible refine wpList_copy_all (o := ⟨some 11, _, _, _, _, _⟩) rfl (.tmp 8) (.tmp 10) 85 85 rfl 83 Tryz.underlying85 2 infoL2 wA.heap.size n n A c rfl rfl cur 83 HC.out (kids.flatMap MG.enc) HCL.out HS.out (copy_src (HAA.out.up HB1.out)) (enc_ones _) ?_; intro w2 HG2 hB2))
  have hg2 := HG2.out
  have hb2 := HB1.out.trans hB2
  refine bodyPost_ret (v := .slice (some ⟨wA.heap.size, 0, none⟩) n n) (by simp [results, go_sem]) rfl ⟨some ⟨wA.heap.size, 0, none⟩, rfl, ⟨⟨HAA.out.1, by unfold maxLen; omega, fun _ => ⟨_, _, rfl, (Array.getElem?_eq_some_iff.1 hg2).1, fun j v hj => ?_⟩⟩, fun _ a ha => ?_⟩, HBL.out.trans (hb2.mono HBL.out.size)⟩
  · rw [Nat.zero_add, cell_of_row w2 _ j _ _ (0, 0) hg2]
    simpa using hj
  · have := Option.some.inj ha
    subst this
    exact HBL.out.size
end Go.Proofs.YtbacakdpfiiblaaGreat.geo
