/-
  Plain data of geometries, plainly: places, what forcing a type of coordinates does to numbers, what is made of any plain data, how many places shape it, how heavy it is.
-/
import Derived.Test.YtpfgdfgifdbijaaDoorMem
namespace Go.Proofs.YtpfgdfgifdbijaaDoor.geo
set_option linter.unusedVariables false
set_option linter.unusedSimpArgs false

/-- How many numbers a place has. -/
def wd : Nat → Nat
  | 0 => 2
  | 1 => 3
  | 2 => 3
  | _ => 4
theorem wd_two (d : Nat) : 2 ≤ wd d ∧ wd d ≤ 4 := by
  match d with
  | 0 => decide
  | 1 => decide
  | 2 => decide
  | n + 3 => simp [wd]
/-- Whether there is a Z, an M. -/
def hz (d : Nat) : Bool := d % 2 == 1
def hm (d : Nat) : Bool := d / 2 % 2 == 1
theorem four {d : Nat} (h : d < 4) : d = 0 ∨ d = 1 ∨ d = 2 ∨ d = 3 := by omega
theorem hz_odd {d : Nat} : hz d = decide (d % 2 = 1) := by unfold hz; rw [Bool.eq_iff_iff]; simp

/-- A place, its doubles' bits. -/
structure Pl where
  (x y z m : Nat)
@[simp] theorem Pl.eta (p : Pl) : (⟨p.x, p.y, p.z, p.m⟩ : Pl) = p := rfl
/-- The i-th place of numbers. -/
def plAt (d : Nat) (ns : List Nat) (i : Nat) : Pl :=
  ⟨ns.getD (i * wd d) 0, ns.getD (i * wd d + 1) 0, if hz d then ns.getD (i * wd d + 2) 0 else 0, if hm d then ns.getD (i * wd d + wd d - 1) 0 else 0⟩
def plc (d : Nat) (ns : List Nat) : List Pl := (List.range (ns.length / wd d)).map (plAt d ns)
/-- A place's numbers. -/
def emit (d : Nat) (p : Pl) : List Nat := p.x :: p.y :: ((if hz d then [p.z] else []) ++ (if hm d then [p.m] else []))
def frcN (d d' : Nat) (ns : List Nat) : List Nat := (plc d ns).flatMap (emit d')
/-- A place as its type has it. -/
def clip (d : Nat) (p : Pl) : Pl := ⟨p.x, p.y, if hz d then p.z else 0, if hm d then p.m else 0⟩

theorem emit_len {d : Nat} (hd : d < 4) (p : Pl) : (emit d p).length = wd d := by
  obtain rfl | rfl | rfl | rfl := four hd <;> rfl
theorem plc_len (d : Nat) (ns : List Nat) : (plc d ns).length = ns.length / wd d := by simp [plc]
theorem plc_nil (d : Nat) : plc d [] = [] := by simp [plc]
theorem frcN_nil (d d' : Nat) : frcN d d' [] = [] := by simp [frcN, plc_nil]
theorem flat_len {d : Nat} (hd : d < 4) (l : List Pl) : (l.flatMap (emit d)).length = l.length * wd d := by
  induction l with
  | nil => simp
  | cons p l ih => rw [List.flatMap_cons, List.length_append, ih, emit_len hd, List.length_cons, Nat.succ_mul]; omega
theorem frcN_len {d d' : Nat} (hd : d' < 4) (ns : List Nat) : (frcN d d' ns).length = ns.length / wd d * wd d' := by
  unfold frcN
  rw [flat_len hd, plc_len]
theorem emit_clip {d : Nat} (hd : d < 4) (p : Pl) : emit d (clip d p) = emit d p := by
  obtain rfl | rfl | rfl | rfl := four hd <;> rfl
theorem plAt_head {d : Nat} (hd : d < 4) (p : Pl) (ns : List Nat) : plAt d (emit d p ++ ns) 0 = clip d p := by
  obtain rfl | rfl | rfl | rfl := four hd <;> rfl
theorem plAt_tail {d : Nat} (hd : d < 4) (p : Pl) (ns : List Nat) (i : Nat) : plAt d (emit d p ++ ns) (i + 1) = plAt d ns i := by
  have g : ∀ k, (emit d p ++ ns).getD (wd d + k) 0 = ns.getD k 0 := fun k => by
    rw [List.getD_eq_getElem?_getD, List.getD_eq_getElem?_getD, List.getElem?_append_right (by rw [emit_len hd]; omega), emit_len hd, Nat.add_sub_cancel_left]
  have h2 := wd_two d
  unfold plAt
  rw [Nat.succ_mul]
  rw [show i * wd d + wd d = wd d + i * wd d by omega, show wd d + i * wd d + 1 = wd d + (i * wd d + 1) by omega, show wd d + i * wd d + 2 = wd d + (i * wd d + 2) by omega,
    show wd d + i * wd d + wd d - 1 = wd d + (i * wd d + wd d - 1) by omega, g, g, g, g, show wd d + i * wd d - 1 = i * wd d + wd d - 1 by omega]
theorem plc_flat {d : Nat} (hd : d < 4) : ∀ l : List Pl, plc d (l.flatMap (emit d)) = l.map (clip d)
  | [] => by simp [plc]
  | p :: l => by
    have ih := plc_flat hd l
    have h2 := wd_two d
    unfold plc at ih ⊢
    rw [flat_len hd, Nat.mul_div_cancel _ (by omega)] at ih ⊢
    rw [List.length_cons, List.range_succ_eq_map, List.map_cons, List.map_map, List.flatMap_cons, plAt_head hd, List.map_cons]
    congr 1
    rw [← ih]
    apply List.map_congr_left
    intro i _
    exact plAt_tail hd p _ i
theorem whole_flat {d : Nat} (hd : d < 4) : ∀ (n : Nat) (ns : List Nat), ns.length = n * wd d → ∃ l : List Pl, l.length = n ∧ ns = l.flatMap (emit d)
  | 0, ns, h => ⟨[], rfl, by simpa using h⟩
  | n + 1, ns, h => by
    rw [Nat.succ_mul] at h
    obtain ⟨l, hl, e⟩ := whole_flat hd n (ns.drop (wd d)) (by rw [List.length_drop]; omega)
    have h4 : ∃ p, ns.take (wd d) = emit d p := by
      have hl4 : (ns.take (wd d)).length = wd d := by rw [List.length_take]; omega
      generalize ns.take (wd d) = t at hl4
      obtain rfl | rfl | rfl | rfl := four hd
      · match t, hl4 with
        | [a, b], _ => exact ⟨⟨a, b, 0, 0⟩, rfl⟩
      · match t, hl4 with
        | [a, b, c], _ => exact ⟨⟨a, b, c, 0⟩, rfl⟩
      · match t, hl4 with
        | [a, b, c], _ => exact ⟨⟨a, b, 0, c⟩, rfl⟩
      · match t, hl4 with
        | [a, b, c, e], _ => exact ⟨⟨a, b, c, e⟩, rfl⟩
    obtain ⟨p, hp⟩ := h4
    refine ⟨p :: l, by simp [hl], ?_⟩
    rw [List.flatMap_cons, ← hp, ← e, List.take_append_drop]
theorem whole {d : Nat} {ns : List Nat} (h : ns.length % wd d = 0) : ns.length = ns.length / wd d * wd d := by
  have := Nat.div_add_mod ns.length (wd d)
  rw [h, Nat.mul_comm] at this
  omega
theorem frcN_same {d : Nat} (hd : d < 4) {ns : List Nat} (h : ns.length % wd d = 0) : frcN d d ns = ns := by
  obtain ⟨l, hl, e⟩ := whole_flat hd _ ns (whole h)
  rw [e]
  unfold frcN
  rw [plc_flat hd, List.flatMap_map]
  congr 1
  funext p
  exact emit_clip hd p
theorem frcN_one {d d' : Nat} (hd : d < 4) (hd' : d' < 4) (p : Pl) : frcN d d' (emit d p) = emit d' (clip d p) := by
  have := plc_flat hd [p]
  simp at this
  unfold frcN
  rw [this]; simp
theorem mul_mod_wd (n d : Nat) : n * wd d % wd d = 0 := Nat.mul_mod_left _ _

/-! ### plain data -/
inductive PG
  | mk (k d : Int) (ns : List Nat) (kids : List PG)
def PG.k : PG → Int | .mk k _ _ _ => k
def PG.d : PG → Int | .mk _ d _ _ => d
def PG.ns : PG → List Nat | .mk _ _ ns _ => ns
def PG.kids : PG → List PG | .mk _ _ _ kids => kids
/-- The last two bits of a type. -/
def dm (z : Int) : Nat := (z % 4).toNat
theorem dm_lt (z : Int) : dm z < 4 := by unfold dm; omega
theorem dm_nat {d : Nat} (h : d < 4) : dm (d : Int) = d := by unfold dm; omega
/-- A kind, a collection's if it is none. -/
def kd (k : Int) : Int := if k < 0 ∨ 6 < k then 0 else k
theorem kd_bounds (k : Int) : 0 ≤ kd k ∧ kd k ≤ 6 := by unfold kd; split <;> omega
/-- The kind of a kind's parts. -/
def kidK (k : Int) : Int := if k = 4 then 1 else if k = 3 ∨ k = 5 then 2 else if k = 6 then 3 else -1
def fitsK (k : Int) (g : PG) : Bool := decide (kidK k < 0 ∨ kidK k = g.k)
/-- The type that all have in common. -/
def cd (a : Nat) (l : List PG) : Nat := l.foldl (fun a g => a &&& dm g.d) a
theorem cd_lt : ∀ (l : List PG) (a : Nat), a < 4 → cd a l < 4
  | [], a, h => h
  | g :: l, a, h => cd_lt l _ (Nat.lt_of_le_of_lt Nat.and_le_left h)
theorem cd_cons (a : Nat) (g : PG) (l : List PG) : cd a (g :: l) = cd (a &&& dm g.d) l := rfl
theorem cd_snoc (a : Nat) (l : List PG) (g : PG) : cd a (l ++ [g]) = cd a l &&& dm g.d := by simp [cd]
mutual
def PG.frc (d : Nat) : PG → PG
  | .mk k d0 ns kids => .mk k d (frcN (dm d0) d ns) (PG.frcL d kids)
def PG.frcL (d : Nat) : List PG → List PG
  | [] => []
  | g :: l => g.frc d :: PG.frcL d l
end
theorem frcL_map (d : Nat) : ∀ l : List PG, PG.frcL d l = l.map (PG.frc d)
  | [] => rfl
  | g :: l => by rw [PG.frcL, frcL_map d l, List.map_cons]
theorem frc_eq (d : Nat) (k d0 : Int) (ns : List Nat) (kids : List PG) : (PG.mk k d0 ns kids).frc d = .mk k d (frcN (dm d0) d ns) (kids.map (PG.frc d)) := by rw [PG.frc, frcL_map]
/-- A multi's data out of its parts that are there. -/
def joinG (k : Int) (d0 : Nat) (ks : List PG) : PG := if ks = [] then .mk k d0 [] [] else .mk k (cd 3 ks) [] (ks.map (PG.frc (cd 3 ks)))
mutual
def PG.new : PG → PG
  | .mk k d ns kids =>
    if kd k = 1 then .mk 1 (dm d) (ns.take (min (ns.length / wd (dm d)) 1 * wd (dm d))) []
    else if kd k = 2 then .mk 2 (dm d) (ns.take (ns.length / wd (dm d) * wd (dm d))) []
    else joinG (kd k) (dm d) ((PG.newL kids).filter (fitsK (kd k)))
def PG.newL : List PG → List PG
  | [] => []
  | g :: l => g.new :: PG.newL l
end
theorem newL_map : ∀ l : List PG, PG.newL l = l.map PG.new
  | [] => rfl
  | g :: l => by rw [PG.newL, newL_map l, List.map_cons]
theorem new_eq (k d : Int) (ns : List Nat) (kids : List PG) : (PG.mk k d ns kids).new =
    if kd k = 1 then .mk 1 (dm d) (ns.take (min (ns.length / wd (dm d)) 1 * wd (dm d))) []
    else if kd k = 2 then .mk 2 (dm d) (ns.take (ns.length / wd (dm d) * wd (dm d))) []
    else joinG (kd k) (dm d) ((kids.map PG.new).filter (fitsK (kd k))) := by rw [PG.new, newL_map]
/-- How many places shape it, as the machine adds. -/
def addW (a b : Int) : Int := IntKind.i64.wrap (a + b)
mutual
def PG.ctl : PG → Int
  | .mk k d ns kids => if k = 1 then 1 else PG.ctlL (((ns.length / wd (dm d) : Nat) : Int)) kids
def PG.ctlL (a : Int) : List PG → Int
  | [] => a
  | g :: l => PG.ctlL (addW a g.ctl) l
end
theorem ctlL_fold : ∀ (l : List PG) (a : Int), PG.ctlL a l = l.foldl (fun a g => addW a g.ctl) a
  | [], a => rfl
  | g :: l, a => by rw [PG.ctlL, ctlL_fold l, List.foldl_cons]
theorem ctl_eq (k d : Int) (ns : List Nat) (kids : List PG) : (PG.mk k d ns kids).ctl = if k = 1 then 1 else kids.foldl (fun a g => addW a g.ctl) (((ns.length / wd (dm d) : Nat) : Int)) := by rw [PG.ctl, ctlL_fold]
/-- By parts. -/
theorem PG.ind {P : PG → Prop} (h : ∀ k d ns kids, (∀ g ∈ kids, P g) → P (.mk k d ns kids)) : ∀ g, P g
  | .mk k d ns kids => h k d ns kids fun g hg => PG.ind h g
termination_by g => SizeOf.sizeOf g
decreasing_by
  have := List.sizeOf_lt_of_mem hg
  simp
  omega
end Go.Proofs.YtpfgdfgifdbijaaDoor.geo
