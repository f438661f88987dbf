/-
  Contracts: the reference's part of a geometry.
-/
import Derived.Test.YtplphaaeibeheaaGreatGeoAL
import Derived.Test.YtplphaaeibeheaaGreatGeoT
import Derived.BigRegion
namespace Go.Proofs.YtplphaaeibeheaaGreat.geo
open Go.ChangeShapes Go.WideShapes Go.ChangeAt Go.RowKit
open Go.Proofs.YtplphaaeibeheaaGreat.mem
set_option linter.unusedVariables false
set_option linter.unusedSimpArgs false
set_option maxRecDepth 100000

/-- A part of plain data. -/
def PG.part (g : PG) (n : Int) : Option PG :=
  if g.k = 2 then (if 0 ≤ n ∧ n < ((g.ns.length / wd (dm g.d) : Nat) : Int) then some (.mk 1 g.d (emit (dm g.d) (plAt (dm g.d) g.ns n.toNat)) []) else none)
  else if g.k = 3 ∧ g.kids = [] ∧ n = 0 then some (.mk 2 g.d [] [])
  else if 0 ≤ n then g.kids[n.toNat]? else none
/-- Whether there is a part is told, and if so it comes back. -/
def PartPost (S : Nat → Prop) (w : World) (o : Option PG) (e : Ending) (w' : World) : Prop :=
  ∃ i : IG, e = .returned (.tuple #[.agg i.enc.toArray, .bool o.isSome]) ∧ i.In (Fresh S w) w' ∧ (∀ q, o = some q → i.plain = q) ∧ Below w.heap.size w w'
/-- The same of the inner function, that tells besides whether anything is said. -/
def Part3Post (S : Nat → Prop) (w : World) (o : Option PG) (e : Ending) (w' : World) : Prop :=
  ∃ i : IG, e = .returned (.tuple #[.agg i.enc.toArray, .bool o.isSome, .bool true]) ∧ i.In (Fresh S w) w' ∧ (∀ q, o = some q → i.plain = q) ∧ Below w.heap.size w w'
theorem Part3Post.store {S : Nat → Prop} {w w' : World} {o : Option PG} {i : IG} {R : Nat} (hin : i.In (Old S w) w') (hp : ∀ q, o = some q → i.plain = q) (hbw : Below w.heap.size w w') (hR : w.heap.size ≤ R) (u0 u1 u2 u3 : Value) :
    Part3Post S w o (.returned (.tuple #[.agg i.enc.toArray, .bool o.isSome, .bool true])) ((((w'.setCell ⟨R, 0, none⟩ u0).setCell ⟨R, 1, none⟩ u1).setCell ⟨R, 2, none⟩ u2).setCell ⟨R, 3, none⟩ u3) := by
  have hno : ¬ (Old S w) R := fun h => absurd h.2 (by omega)
  exact ⟨i, rfl, IG.less (fun b h => .inl h.1) (IG.keep ((((Keeps.set (p := ⟨R, 0, none⟩) hno _).trans (.set (p := ⟨R, 1, none⟩) hno _)).trans (.set (p := ⟨R, 2, none⟩) hno _)).trans (.set (p := ⟨R, 3, none⟩) hno _)) hin), hp, (((hbw.setCell hR _).setCell hR _).setCell hR _).setCell hR _⟩
theorem Part3Post.drew {S : Nat → Prop} {w : World} {o : Option PG} {e : Ending} {w' : World} (h : Part3Post S w o e w') : Part3Post S w o e w'.drew := by
  obtain ⟨i, e1, e2, e3, e4⟩ := h
  exact ⟨i, e1, IG.up (Below.refl _ _).drew e2, e3, e4.drew⟩

theorem Part3Post.made {S : Nat → Prop} {w : World} {o : Option PG} {i : IG} (hin : i.In S w) (hp : ∀ q, o = some q → i.plain = q) (o1 o2 : Obj) :
    Part3Post S w o (.returned (.tuple #[.agg i.enc.toArray, .bool o.isSome, .bool true])) ((w.alloc o1).alloc o2) := by
  have hb : Below w.heap.size w ((w.alloc o1).alloc o2) := ((Below.refl _ _).alloc (Nat.le_refl _) _).alloc (by simp) _
  exact ⟨i, rfl, IG.less (fun b h => .inl h) (IG.up hb hin), hp, hb⟩

theorem run_cutF {P : Program} {t e : TypeId} {i : TypeInfo} {size : Nat} (ht : P.underlying t = some (.slice e)) (hi : P.info? e = some i) (hs : i.size = size) (A : Option Addr) (n c l m : Nat) (h0 : l ≤ m) (h1 : m ≤ c) (hl : l < c) (w : World) :
    (Instr.slice t (.slice A n c) (some (.int .i64 (l : Int))) (some (.int .i64 (m : Int))) none).run P w = .ok (.slice (A.map (·.add (l * size))) (m - l) (c - l)) w := by
  have h2 : (m : Int) ≤ (c : Int) := by omega
  have h3 : (0 : Int) ≤ (m : Int) := by omega
  have h4 : (l : Int) ≤ (m : Int) := by omega
  have h5 : (0 : Int) ≤ (l : Int) := by omega
  have h6 : ¬ l = c := by omega
  simp [Instr.slice, run_underlying ht, Instr.sliceBounds, Instr.sliceBound, asIntOf, go_sem, sizeOf, typeInfo, hi, hs, h1, h2, h3, h4, h5, h0, h6]
  exact fun e => absurd e.symm h6
theorem plAt_cut {d : Nat} (hd : d < 4) {ns : List Nat} {i : Nat} (h : (i + 1) * wd d ≤ ns.length) : (ns.drop (i * wd d)).take (wd d) = emit d (plAt d ns i) := by
  have h1 := take_emit hd h
  have h2 : (ns.take ((i + 1) * wd d)).drop (i * wd d) = emit d (plAt d ns i) := by
    have hlt : (ns.take (i * wd d)).length = i * wd d := by rw [List.length_take, Nat.min_eq_left]; rw [Nat.succ_mul] at h; omega
    rw [h1, List.drop_append_of_le_length (by rw [hlt]; exact Nat.le_refl _), List.drop_of_length_le (by rw [hlt]; exact Nat.le_refl _), List.nil_append]
  rw [← h2, List.drop_take, Nat.succ_mul, Nat.add_sub_cancel_left]
theorem sl_cut {S : Nat → Prop} {w : World} {A : Option Addr} {n : Nat} {ns : List Nat} (h : SlS S w A n 1 (FL ns)) (hl : ns.length = n) {l m : Nat} (hm : l + m ≤ n) (h0 : 0 < m) : SlS S w (A.map (·.add l)) m 1 (FL ((ns.drop l).take m)) := by
  obtain ⟨b, off, rfl, hb, hc⟩ := h.1.2.2 (by omega)
  have ha : (⟨b, off, none⟩ : Addr).add l = ⟨b, off + l, none⟩ := mem.add_plain _ _ _
  refine ⟨⟨by rw [FL_len, List.length_take, List.length_drop]; omega, by have := h.1.2.1; omega, fun _ => ⟨b, off + l, by rw [Option.map_some, ha], hb, fun j v hj => ?_⟩⟩, fun _ a e => ?_⟩
  · rw [Nat.add_assoc]
    refine hc (l + j) v ?_
    have hlt := (List.getElem?_eq_some_iff.1 hj).1
    rw [FL_len, List.length_take, List.length_drop] at hlt
    unfold FL at hj ⊢
    rw [List.getElem?_map, List.getElem?_take, if_pos (by omega), List.getElem?_drop] at hj
    rw [List.getElem?_map]
    exact hj
  · rw [Option.map_some, ha] at e
    have := Option.some.inj e
    subst this
    exact h.2 (by omega) ⟨b, off, none⟩ rfl

theorem cut_arith {i W m l q : Nat} (h2 : 2 ≤ W ∧ W ≤ 4) (hl : l = i * W) (h3 : (i + 1) * W ≤ m) (hns : m ≤ 4194308) (hi : i < q) :
    wrap64 ((i : Int) * (W : Int)) = (l : Int) ∧ wrap64 (((i : Int) + 1) * (W : Int)) = ((l + W : Nat) : Int) ∧ i ≤ 2097154 ∧ (i : Int) < (q : Int) ∧ (W : Int) ≠ 0 ∧ l + W ≤ m ∧ l < m := by
  rw [Nat.succ_mul, ← hl] at h3
  have h5 : i * 2 ≤ l := by rw [hl]; exact Nat.mul_le_mul_left _ h2.1
  have h6 : ((i : Int) + 1) * (W : Int) = ((l + W : Nat) : Int) := by rw [hl, Int.natCast_add, Int.natCast_mul, Int.add_mul, Int.one_mul]
  refine ⟨?_, ?_, by omega, by omega, by omega, h3, by omega⟩
  · rw [← wrapEq2, ← Int.natCast_mul, ← hl]
    exact IntWalk.i64_in _ (by omega)
  · rw [← wrapEq2, h6]
    exact IntWalk.i64_in _ (by omega)
section
variable {k : Int} {d : Nat} {A : Option Addr} {ca : Nat} {ns : List Nat} {B : Option Addr} {cb : Nat} {kids : List IG} {n : Int} {S : Nat → Prop} {w : World}
set_option maxHeartbeats 8000000 in
theorem spart_line_in (hd : d < 4) (hfit : ns.length / wd d ≤ 1048576) {i : Nat} (hi : i < ns.length / wd d) (h : (IG.mk 2 d A ca ns B cb kids).In S w) :
    Calls Tryz.prog 26 #[.agg #[.int .i64 2, .int .i64 d, .slice A ns.length ca, .slice B kids.length cb], .int .i64 i] w (Part3Post S w (some (.mk 1 d (emit d (plAt d ns i)) []))) := by
  rw [IG.In] at h
  obtain ⟨hwf, -, hcap, hA, -, -⟩ := h
  obtain ⟨i1, hi1, hz01, hz11, hz21⟩ := info_parts infoF
  have hns : ns.length ≤ 4194308 := len_fit (wd_two d) hfit
  obtain ⟨hr, hr2⟩ := len_quo ns.length (wd d) hns
  have hWD := Lib.hid (@width_calls d hd)
  have h2 := wd_two d
  have h3 : (i + 1) * wd d ≤ ns.length := Nat.le_trans (Nat.mul_le_mul_right _ hi) (Nat.div_mul_le_self _ _)
  have hcut := plAt_cut hd h3
  have h4 := sl_cut (l := i * wd d) (m := wd d) hA.old rfl (by rw [Nat.succ_mul] at h3; exact h3) (by omega)
  rw [hcut] at h4
  have hel : (emit d (plAt d ns i)).length = wd d := emit_len hd _
  obtain ⟨E, hE⟩ : ∃ E, E = emit d (plAt d ns i) := ⟨_, rfl⟩
  rw [← hE] at hel h4 ⊢
  obtain ⟨W, hWe⟩ : ∃ W, W = wd d := ⟨_, rfl⟩
  rw [← hWe] at hr hr2 h2 hWD hi h3 h4 hel
  obtain ⟨m, hm⟩ : ∃ m, m = ns.length := ⟨_, rfl⟩
  rw [← hm] at hns hr hr2 h3 hcap hi hA ⊢
  obtain ⟨q, hq⟩ : ∃ q, q = m / W := ⟨_, rfl⟩
  rw [← hq] at hr hr2 hi
  obtain ⟨l, hl⟩ : ∃ l, l = i * W := ⟨_, rfl⟩
  have HR := Lib.hid hr
  have HR2 := Lib.hid hr2
  clear hr hr2
  obtain ⟨hm1, hm2, hib, hi2, hW0, h3', hlm⟩ := cut_arith h2 hl h3 hns hi
  rw [← hl] at h4
  have hsl := fun w => run_cutF (P := Tryz.prog) Tryz.underlying22 hi1 hz11 A m ca l (l + W) (Nat.le_add_right _ _) (Nat.le_trans h3' hcap.1) (Nat.lt_of_lt_of_le hlm hcap.1) w
  rw [Nat.mul_one, Nat.add_sub_cancel_left] at hsl
  obtain ⟨A2, hA2⟩ : ∃ A2, A2 = A.map (·.add l) := ⟨_, rfl⟩
  rw [← hA2] at hsl h4
  obtain ⟨hi', hhi⟩ : ∃ hi', hi' = ((l + W : Nat) : Int) := ⟨_, rfl⟩
  rw [← hhi] at hm2 hsl
  obtain ⟨wA, hwA⟩ : ∃ wA, wA = (w.alloc (.cells #[.int .i64 2, .int .i64 d, .slice A m ca, .slice B kids.length cb] 25)).alloc (.cells #[.int .i64 0, .int .i64 0, .slice none 0 0, .slice none 0 0] 25) := ⟨_, rfl⟩
  have hbl : Below w.heap.size w wA := by rw [hwA]; exact ((Below.refl _ _).alloc (Nat.le_refl _) _).alloc (by simp) _
  have hX : Blk wA w.heap.size 25 #[.int .i64 2, .int .i64 d, .slice A m ca, .slice B kids.length cb] := by rw [hwA]; exact (Blk.new _ _ _).alloc _
  have hR : Blk wA (w.heap.size + 1) 25 #[.int .i64 0, .int .i64 0, .slice none 0 0, .slice none 0 0] := by
    rw [hwA]
    have := Blk.new (w.alloc (.cells #[.int .i64 2, .int .i64 d, .slice A m ca, .slice B kids.length cb] 25)) 25 #[.int .i64 0, .int .i64 0, .slice none 0 0, .slice none 0 0]
    simpa using this
  have HIN := Lib.hid (show (IG.mk 1 d A2 (ca - l) E none 0 []).In (Old S w) wA from by
    rw [IG.In]
    exact ⟨⟨by decide, hwf.2⟩, ⟨by rw [hel]; exact le_big (Nat.le_trans h2.2 (by decide)), by simp⟩, ⟨by rw [hel]; exact Nat.le_sub_of_add_le (by rw [Nat.add_comm]; exact Nat.le_trans h3' hcap.1), by simp⟩, by rw [hel]; exact h4.keep (.of_below hbl), ⟨by simp [Sl], fun h => absurd h (by simp)⟩, trivial⟩)
  have HEL := Lib.hid hel
  obtain ⟨x0, x1, x2, x3, -, -, -, -, xl⟩ := cells4 hX
  obtain ⟨z0, z1, z2, z3, y0, y1, y2, y3, zl⟩ := cells4 hR
  have HBL := Lib.hid hbl
  have HWA := Lib.hid hwA
  have hr := HR.out
  have hr2 := HR2.out
  clear HR HR2 hlm hwf hcap hA hi1 hz01 hz11 hz21 hns h3 hcut h4 hel hE hWe hm hq hl h3' hA2 hhi hwA hbl hX hR hfit hd hi h2
  go_enter Tryz.func26, Tryz.ntmps26
  go_wp2_with fail
  rw [← HWA.out]
  refine (hWD.out _).mono ?_
  rintro e w9 ⟨rfl, hw9⟩
  replace hw9 := hw9.symm
  subst hw9
  go_wp2_with fail
  go_region
  all_goals
    go_wp2_with fail
    refine bodyPost_ret (v := .tuple #[.agg #[.int .i64 1, .int .i64 d, .slice A2 W (ca - l), .slice none 0 0], .bool true, .bool true]) (by simp [results, Tryz.results26, go_sem, z0, z1, z2, z3, zl]) rfl ?_
    have hfin := Part3Post.store (o := some (.mk 1 d E [])) HIN.out (fun q hq => Option.some.inj hq) HBL.out (Nat.le_add_right _ 1) (.int .i64 1) (.int .i64 d) (.slice A2 W (ca - l)) (.slice none 0 0)
    rw [IG.enc, HEL.out] at hfin
    exact hfin.drew

set_option maxHeartbeats 8000000 in
theorem spart_line_out (hd : d < 4) (hfit : ns.length / wd d ≤ 1048576) (hb : -2147483648 ≤ n ∧ n ≤ 2147483648) (ho : n < 0 ∨ ((ns.length / wd d : Nat) : Int) ≤ n) (h : (IG.mk 2 d A ca ns B cb kids).In S w) :
    Calls Tryz.prog 26 #[.agg #[.int .i64 2, .int .i64 d, .slice A ns.length ca, .slice B kids.length cb], .int .i64 n] w (Part3Post S w none) := by
  have hns : ns.length ≤ 4194308 := len_fit (wd_two d) hfit
  obtain ⟨hr, hr2⟩ := len_quo ns.length (wd d) hns
  have hWD := Lib.hid (@width_calls d hd)
  have h2 := wd_two d
  have HIN := Lib.hid (fun w' (hb : Below w.heap.size w w') => IG.up hb (IG.old h))
  obtain ⟨m, hm⟩ : ∃ m, m = ns.length := ⟨_, rfl⟩
  obtain ⟨wA, hwA⟩ : ∃ wA, wA = (w.alloc (.cells #[.int .i64 2, .int .i64 d, .slice A ns.length ca, .slice B kids.length cb] 25)).alloc (.cells #[.int .i64 0, .int .i64 0, .slice none 0 0, .slice none 0 0] 25) := ⟨_, rfl⟩
  have hbl : Below w.heap.size w wA := by rw [hwA]; exact ((Below.refl _ _).alloc (Nat.le_refl _) _).alloc (by simp) _
  have hX : Blk wA w.heap.size 25 #[.int .i64 2, .int .i64 d, .slice A ns.length ca, .slice B kids.length cb] := by rw [hwA]; exact (Blk.new _ _ _).alloc _
  have hR : Blk wA (w.heap.size + 1) 25 #[.int .i64 0, .int .i64 0, .slice none 0 0, .slice none 0 0] := by
    rw [hwA]
    have := Blk.new (w.alloc (.cells #[.int .i64 2, .int .i64 d, .slice A ns.length ca, .slice B kids.length cb] 25)) 25 #[.int .i64 0, .int .i64 0, .slice none 0 0, .slice none 0 0]
    simpa using this
  obtain ⟨x0, x1, x2, x3, -, -, -, -, xl⟩ := cells4 hX
  obtain ⟨z0, z1, z2, z3, y0, y1, y2, y3, zl⟩ := cells4 hR
  have HBL := Lib.hid hbl
  have HWA := Lib.hid hwA
  obtain ⟨W, hWe⟩ : ∃ W, W = wd d := ⟨_, rfl⟩
  rw [← hWe] at hr hr2 h2 hWD ho
  rw [← hm] at hr hr2 ho hwA x2 ⊢
  rw [← hm] at HWA
  obtain ⟨q, hq⟩ : ∃ q, q = m / W := ⟨_, rfl⟩
  rw [← hq] at hr hr2 ho
  have hW0 : (W : Int) ≠ 0 := ne_zero_of_two h2.1
  have HR := Lib.hid hr
  have HR2 := Lib.hid hr2
  have hlo : ¬ n < -2147483648 := by clear hr hr2; omega
  have hhi : ¬ 2147483648 < n := by clear hr hr2; omega
  have HM := Lib.hid hm
  clear h hfit hns hwA hbl hX hR hm hWe hq hb hd h2
  by_cases hn : n < 0
  all_goals
    have hn2 : n < 0 ∨ (q : Int) ≤ n := ho
    have hq2 : n < 0 ∨ (q : Int) ≤ n := ho
    first
      | (have hq3 : (q : Int) ≤ n := ho.resolve_left hn
         clear ho hn2 hq2)
      | clear ho hn2 hq2
    go_enter Tryz.func26, Tryz.ntmps26
    go_wp2_with fail
    rw [← HWA.out]
    refine (hWD.out _).mono ?_
    rintro e w9 ⟨rfl, hw9⟩
    replace hw9 := hw9.symm
    subst hw9
    go_wp2_with fail
    refine bodyPost_ret (v := .tuple #[.agg #[.int .i64 2, .int .i64 d, .slice A m ca, .slice B kids.length cb], .bool false, .bool true]) (by simp [results, Tryz.results26, go_sem, z0, z1, z2, z3, zl]) rfl ?_
    have hfin := Part3Post.store (o := none) (HIN.out wA HBL.out) (fun q hq => by cases hq) HBL.out (Nat.le_add_right _ 1) (.int .i64 2) (.int .i64 d) (.slice A ns.length ca) (.slice B kids.length cb)
    rw [IG.enc] at hfin
    rw [HM.out]
    exact hfin

set_option maxHeartbeats 8000000 in
theorem spart_none (hd : d < 4) (h : (IG.mk 3 d A ca ns B cb []).In S w) :
    Calls Tryz.prog 26 #[.agg #[.int .i64 3, .int .i64 d, .slice A ns.length ca, .slice B 0 cb], .int .i64 0] w (Part3Post S w (some (.mk 2 d [] []))) := by
  have hwf := four_wf hd
  obtain ⟨kids, hkids⟩ : ∃ kids : List IG, kids = [] := ⟨_, rfl⟩
  obtain ⟨m, hm⟩ : ∃ m, m = ns.length := ⟨_, rfl⟩
  obtain ⟨wA, hwA⟩ : ∃ wA, wA = (w.alloc (.cells #[.int .i64 3, .int .i64 d, .slice A ns.length ca, .slice B 0 cb] 25)).alloc (.cells #[.int .i64 0, .int .i64 0, .slice none 0 0, .slice none 0 0] 25) := ⟨_, rfl⟩
  have hbl : Below w.heap.size w wA := by rw [hwA]; exact ((Below.refl _ _).alloc (Nat.le_refl _) _).alloc (by simp) _
  have hX : Blk wA w.heap.size 25 #[.int .i64 3, .int .i64 d, .slice A ns.length ca, .slice B 0 cb] := by rw [hwA]; exact (Blk.new _ _ _).alloc _
  have hR : Blk wA (w.heap.size + 1) 25 #[.int .i64 0, .int .i64 0, .slice none 0 0, .slice none 0 0] := by
    rw [hwA]
    have := Blk.new (w.alloc (.cells #[.int .i64 3, .int .i64 d, .slice A ns.length ca, .slice B 0 cb] 25)) 25 #[.int .i64 0, .int .i64 0, .slice none 0 0, .slice none 0 0]
    simpa using this
  obtain ⟨x0, x1, x2, x3, -, -, -, -, xl⟩ := cells4 hX
  obtain ⟨z0, z1, z2, z3, y0, y1, y2, y3, zl⟩ := cells4 hR
  have HBL := Lib.hid hbl
  have HWA := Lib.hid hwA
  have HIN := Lib.hid (show (IG.mk 2 d none 0 [] none 0 []).In S w from by
    rw [IG.In]
    exact ⟨⟨by decide, hwf⟩, ⟨by simp, by simp⟩, ⟨by simp, by simp⟩, ⟨by simp [Sl, FL], fun h => absurd h (by simp)⟩, ⟨by simp [Sl], fun h => absurd h (by simp)⟩, trivial⟩)
  clear h hwA hbl hX hR hm hd hwf hkids
  go_enter Tryz.func26, Tryz.ntmps26
  go_wp2_with fail
  refine bodyPost_ret (v := .tuple #[.agg #[.int .i64 2, .int .i64 d, .slice none 0 0, .slice none 0 0], .bool true, .bool true]) (by simp [results, Tryz.results26, go_sem, z0, z1, z2, z3, zl]) rfl ?_
  exact Part3Post.made (i := .mk 2 d none 0 [] none 0 []) (o := some (.mk 2 d [] [])) HIN.out (fun q hq => Option.some.inj hq) _ _

set_option maxHeartbeats 8000000 in
theorem spart_out (h1 : k ≠ 1) (h2 : k ≠ 2) (h3 : ¬ (k = 3 ∧ kids = [] ∧ n = 0)) (hb : -2147483648 ≤ n ∧ n ≤ 2147483648) (ho : n < 0 ∨ (kids.length : Int) ≤ n) (h : (IG.mk k d A ca ns B cb kids).In S w) :
    Calls Tryz.prog 26 #[.agg #[.int .i64 k, .int .i64 d, .slice A ns.length ca, .slice B kids.length cb], .int .i64 n] w (Part3Post S w none) := by
  have e1 : (k == 1) = false := beq_eq_false_iff_ne.2 h1
  have e2 : (k == 2) = false := beq_eq_false_iff_ne.2 h2
  have HIN := Lib.hid h
  have h3' : ¬ (k = 3 ∧ kids.length = 0 ∧ n = 0) := fun h => h3 ⟨h.1, List.eq_nil_of_length_eq_zero h.2.1, h.2.2⟩
  obtain ⟨m, hm⟩ : ∃ m, m = ns.length := ⟨_, rfl⟩
  obtain ⟨wA, hwA⟩ : ∃ wA, wA = (w.alloc (.cells #[.int .i64 k, .int .i64 d, .slice A ns.length ca, .slice B kids.length cb] 25)).alloc (.cells #[.int .i64 0, .int .i64 0, .slice none 0 0, .slice none 0 0] 25) := ⟨_, rfl⟩
  have hbl : Below w.heap.size w wA := by rw [hwA]; exact ((Below.refl _ _).alloc (Nat.le_refl _) _).alloc (by simp) _
  have hX : Blk wA w.heap.size 25 #[.int .i64 k, .int .i64 d, .slice A ns.length ca, .slice B kids.length cb] := by rw [hwA]; exact (Blk.new _ _ _).alloc _
  have hR : Blk wA (w.heap.size + 1) 25 #[.int .i64 0, .int .i64 0, .slice none 0 0, .slice none 0 0] := by
    rw [hwA]
    have := Blk.new (w.alloc (.cells #[.int .i64 k, .int .i64 d, .slice A ns.length ca, .slice B kids.length cb] 25)) 25 #[.int .i64 0, .int .i64 0, .slice none 0 0, .slice none 0 0]
    simpa using this
  obtain ⟨x0, x1, x2, x3, -, -, -, -, xl⟩ := cells4 hX
  obtain ⟨z0, z1, z2, z3, y0, y1, y2, y3, zl⟩ := cells4 hR
  have HBL := Lib.hid hbl
  have HWA := Lib.hid hwA
  obtain ⟨l, hl⟩ : ∃ l, l = kids.length := ⟨_, rfl⟩
  rw [← hl] at x3 ho h3' ⊢
  rw [← hl] at HWA
  have HL := Lib.hid hl
  have hlo : ¬ n < -2147483648 := by omega
  have hhi : ¬ 2147483648 < n := by omega
  clear h hwA hbl hX hR hm h1 h2 h3 hb hl
  by_cases h4 : k = 3
  all_goals by_cases h5 : l = 0
  all_goals by_cases h6 : n = 0
  all_goals by_cases h7 : n < 0
  all_goals first
    | (exfalso; omega)
    | (have e4 : (k == 3) = decide (k = 3) := by rw [Bool.eq_iff_iff]; simp
       have e5 : ((l : Int) == 0) = decide (l = 0) := by rw [Bool.eq_iff_iff]; simp
       have e6 : (n == 0) = decide (n = 0) := by rw [Bool.eq_iff_iff]; simp
       simp only [h4, h5, h6, decide_true, decide_false] at e4 e5 e6
       have h8 : ¬ n < 0 → (l : Int) ≤ n := fun h => ho.resolve_left h
       first
         | (have h9 := h8 h7; clear ho h8 h3')
         | clear ho h8 h3'
       go_enter Tryz.func26, Tryz.ntmps26
       go_wp2_with fail
       refine bodyPost_ret (v := .tuple #[.agg #[.int .i64 k, .int .i64 d, .slice A ns.length ca, .slice B l cb], .bool false, .bool true]) (by simp [results, Tryz.results26, go_sem, h4, h5, h6]) rfl ?_
       rw [HL.out]
       exact Part3Post.made (i := .mk k d A ca ns B cb kids) (o := none) HIN.out (fun q hq => by cases hq) _ _)

set_option maxHeartbeats 8000000 in
theorem spart_in (h1 : k ≠ 1) (h2 : k ≠ 2) {i : Nat} {g : IG} (hi : kids[i]? = some g) (hb : (i : Int) ≤ 2147483648) (h : (IG.mk k d A ca ns B cb kids).In S w) :
    Calls Tryz.prog 26 #[.agg #[.int .i64 k, .int .i64 d, .slice A ns.length ca, .slice B kids.length cb], .int .i64 i] w (Part3Post S w (some g.plain)) := by
  have e1 : (k == 1) = false := beq_eq_false_iff_ne.2 h1
  have e2 : (k == 2) = false := beq_eq_false_iff_ne.2 h2
  have hil := (List.getElem?_eq_some_iff.1 hi).1
  rw [IG.In] at h
  obtain ⟨-, -, -, -, hB, hk0⟩ := h
  have HIN := Lib.hid (IG.inL_iff.1 hk0 g (List.mem_of_getElem? hi))
  obtain ⟨b, off, rfl, hbb, hc⟩ := sl_part hB.1 (fun g _ => g.enc_len) (by omega)
  obtain ⟨m, hm⟩ : ∃ m, m = ns.length := ⟨_, rfl⟩
  obtain ⟨wA, hwA⟩ : ∃ wA, wA = (w.alloc (.cells #[.int .i64 k, .int .i64 d, .slice A ns.length ca, .slice (some ⟨b, off, none⟩) kids.length cb] 25)).alloc (.cells #[.int .i64 0, .int .i64 0, .slice none 0 0, .slice none 0 0] 25) := ⟨_, rfl⟩
  have hbl : Below w.heap.size w wA := by rw [hwA]; exact ((Below.refl _ _).alloc (Nat.le_refl _) _).alloc (by simp) _
  have hX : Blk wA w.heap.size 25 #[.int .i64 k, .int .i64 d, .slice A ns.length ca, .slice (some ⟨b, off, none⟩) kids.length cb] := by rw [hwA]; exact (Blk.new _ _ _).alloc _
  have hR : Blk wA (w.heap.size + 1) 25 #[.int .i64 0, .int .i64 0, .slice none 0 0, .slice none 0 0] := by
    rw [hwA]
    have := Blk.new (w.alloc (.cells #[.int .i64 k, .int .i64 d, .slice A ns.length ca, .slice (some ⟨b, off, none⟩) kids.length cb] 25)) 25 #[.int .i64 0, .int .i64 0, .slice none 0 0, .slice none 0 0]
    simpa using this
  obtain ⟨x0, x1, x2, x3, -, -, -, -, xl⟩ := cells4 hX
  obtain ⟨z0, z1, z2, z3, y0, y1, y2, y3, zl⟩ := cells4 hR
  have HBL := Lib.hid hbl
  have HWA := Lib.hid hwA
  obtain ⟨gk, gd, gA, gca, gns, gB, gcb, gks⟩ := g
  have d0 := (hc i _ hi 0 _ rfl)
  have d1 := (hc i _ hi 1 _ rfl)
  have d2 := (hc i _ hi 2 _ rfl)
  have d3 := (hc i _ hi 3 _ rfl)
  rw [Nat.add_zero] at d0
  rw [← Nat.add_assoc] at d1 d2 d3
  obtain ⟨l, hl⟩ : ∃ l, l = kids.length := ⟨_, rfl⟩
  rw [← hl] at x3 hil ⊢
  rw [← hl] at HWA
  have hltI : (i : Int) < (l : Int) := by omega
  have e5 : ((l : Int) == 0) = false := beq_eq_false_iff_ne.2 (by omega)
  have hhi : ¬ 2147483648 < (i : Int) := by omega
  clear hB hk0 hc hi hwA hbl hX hR hm h1 h2 hb hl
  by_cases h4 : k = 3
  all_goals
    have e4 : (k == 3) = decide (k = 3) := by rw [Bool.eq_iff_iff]; simp
    simp only [h4, decide_true, decide_false] at e4
    go_enter Tryz.func26, Tryz.ntmps26
    go_wp2_with fail
    refine bodyPost_ret (v := .tuple #[.agg #[.int .i64 gk, .int .i64 gd, .slice gA gns.length gca, .slice gB gks.length gcb], .bool true, .bool true]) (by simp [results, Tryz.results26, go_sem, z0, z1, z2, z3, zl]) rfl ?_
    exact Part3Post.made (i := .mk gk gd gA gca gns gB gcb gks) (o := some _) HIN.out (fun q hq => Option.some.inj hq) _ _
end
end Go.Proofs.YtplphaaeibeheaaGreat.geo
