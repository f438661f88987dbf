/-
  Bulk loading: the walk of bulkNode, which makes a node out of parts.
-/
import Derived.Test.YtflaklceejokhaaDoorTreeL
import Derived.Deep.RegionHeld3
namespace Go.Proofs.YtflaklceejokhaaDoor.tree
open Go.ChangeShapes Go.WideShapes Go.ChangeAt Go.RowKit
open Go.Proofs.YtflaklceejokhaaDoor.mem Go.Proofs.YtflaklceejokhaaDoor.flt Ieee
set_option linter.unusedVariables false
set_option linter.unusedSimpArgs false

theorem Row.same {w w' : World} {g off n : Nat} {f : Nat → It} (h : Row w g off n f) (hs : w.heap.size ≤ w'.heap.size) (hc : ∀ o, off ≤ o → o < off + n * 5 → w'.cell? ⟨g, o, none⟩ = w.cell? ⟨g, o, none⟩ ∧ w'.frozen? ⟨g, o, none⟩ = w.frozen? ⟨g, o, none⟩) : Row w' g off n f :=
  ⟨Nat.lt_of_lt_of_le h.1 hs, fun i hi c hcc => by
    have e := hc (off + i * 5 + c) (by omega) (by omega)
    exact ⟨e.1.trans (h.2 i hi c hcc).1, e.2.trans (h.2 i hi c hcc).2⟩⟩
/-- A row beside the cells that have turned. -/
theorem Row.chg {w w' : World} {g off n off' n' : Nat} {f : Nat → It} (h : Row w g off n f) (k : Chg g off' n' w w') (hd : off + n * 5 ≤ off' ∨ off' + n' * 5 ≤ off) : Row w' g off n f :=
  h.same k.1.size fun o h1 h2 => k.2 o (by omega)
theorem Row.part {w : World} {g off n : Nat} {f : Nat → It} (h : Row w g off n f) (a k : Nat) (hk : a + k ≤ n) : Row w g (off + a * 5) k (fun j => f (a + j)) :=
  ⟨h.1, fun i hi c hc => by have := h.2 (a + i) (by omega) c hc; rw [show off + (a + i) * 5 + c = off + a * 5 + i * 5 + c by omega] at this; exact this⟩
theorem Row.of_block {w w' : World} {g off n : Nat} {f : Nat → It} (h : Row w g off n f) (hs : w.heap.size ≤ w'.heap.size) (e : w'.heap[g]? = w.heap[g]?) : Row w' g off n f :=
  h.same hs fun o _ _ => ⟨by unfold World.cell?; simp only [e], by unfold World.frozen?; simp only [e]⟩

theorem Chg.setAt {g off n b : Nat} {w wr : World} (h : Chg g off n w wr) (hg : g < w.heap.size) (hb : w.heap.size ≤ b) (o : Nat) (v : Value) : Chg g off n w (wr.setCell ⟨b, o, none⟩ v) := by
  have hne : g ≠ b := by omega
  refine ⟨⟨h.1.os, h.1.tape, h.1.output, by simpa using h.1.size, fun i hi hr => (Below.heap_setCell wr ⟨b, o, none⟩ v i (fun e => by have : i = b := e; omega)).trans (h.1.block i hi hr)⟩, fun o' ho => ?_⟩
  have h1 : (wr.setCell ⟨b, o, none⟩ v).cell? ⟨g, o', none⟩ = wr.cell? ⟨g, o', none⟩ := World.cell?_setCell_other wr _ _ _ (fun e => hne (congrArg Addr.block e).symm)
  exact ⟨h1.trans (h.2 o' ho).1, (by simp : (wr.setCell ⟨b, o, none⟩ v).frozen? ⟨g, o', none⟩ = wr.frozen? ⟨g, o', none⟩).trans (h.2 o' ho).2⟩

theorem Keep.set {L b : Nat} (w : World) (hb : b < L) (o : Nat) (v : Value) : Keep L w (w.setCell ⟨b, o, none⟩ v) :=
  ⟨by simp, fun c h1 h2 => Below.heap_setCell w ⟨b, o, none⟩ v c (fun e => by have : c = b := e; omega)⟩

/-- The slices of the parts lie in block p. -/
def Pts (w : World) (p m g off : Nat) (os ns cs : Nat → Nat) : Prop := ∀ i, i < m → w.cell? ⟨p, i, none⟩ = some (.slice (some ⟨g, off + os i * 5, none⟩) (ns i) (cs i))

/-- Where bulkNode stands: i entries are made, the parts from k on are as they were. -/
structure NW (w wr : World) (g off N m r p : Nat) (G : Nat → It) (os ns cs : Nat → Nat) (K : Nat → Nat × (Nat → Q)) (i k : Nat) : Prop where
  cel : ∃ gg, Cel wr r 25 gg ∧ gg 24 = .int .i64 m ∧ ∀ j, j < 4 → gg (j * 6 + 5) = .int .i64 0
  done : ∀ j, j < i → (Q.sub (K j).1 (K j).2).At wr (r + 1) r (j * 6)
  rows : ∀ j, k ≤ j → j < m → Row wr g (off + os j * 5) (ns j) (fun x => G (os j + x))
  chg : Chg g off N w wr
  new : w.heap.size = r
  glt : g < r
  plt : p < r
  png : p ≠ g
  pts : Pts wr p m g off os ns cs

section
variable {w wr w' : World} {g off N m r p : Nat} {G : Nat → It} {os ns cs : Nat → Nat} {K : Nat → Nat × (Nat → Q)} {i k : Nat}
theorem NW.lt (q : NW w wr g off N m r p G os ns cs K i k) : r < wr.heap.size := by obtain ⟨gg, h, -⟩ := q.cel; exact h.1
theorem NW.below (q : NW w wr g off N m r p G os ns cs K i k) (hb : Below wr.heap.size wr w') : NW w w' g off N m r p G os ns cs K i k := by
  have hr := q.lt
  have hgr := q.glt
  have hp := q.plt
  obtain ⟨gg, hc, h1, h2⟩ := q.cel
  refine ⟨⟨gg, hc.below hb hr, h1, h2⟩, fun j hj => (q.done j hj).same (Keep.of_below hb) fun c _ => hb.cell (p := ⟨r, j * 6 + c, none⟩) hr, fun j h1 h2 => (q.rows j h1 h2).below hb, q.chg.trans (Chg.of_below (by omega) hb), q.new, q.glt, q.plt, q.png, fun j hj => (hb.cell (p := ⟨p, j, none⟩) (by show p < _; omega)).trans (q.pts j hj)⟩
theorem NW.drew (q : NW w wr g off N m r p G os ns cs K i k) : NW w wr.drew g off N m r p G os ns cs K i k := q.below (Below.refl _ _).drew
/-- A part has been made a node. -/
theorem NW.call (q : NW w wr g off N m r p G os ns cs K i i) (hi : i < m) (hfit : ∀ j, j < m → os j + ns j ≤ N) (hord : ∀ a b, a < b → b < m → os a + ns a ≤ os b)
    (hc : Chg g (off + os i * 5) (ns i) wr w') : NW w w' g off N m r p G os ns cs K i (i + 1) := by
  have hr := q.lt
  have hgr := q.glt
  have hp := q.plt
  have hpg := q.png
  have hwr := q.new
  obtain ⟨gg, hcel, h1, h2⟩ := q.cel
  have blk : ∀ b, b < wr.heap.size → b ≠ g → w'.heap[b]? = wr.heap[b]? := fun b hb hbg => hc.1.block b hb (fun e => hbg (Option.some.inj e))
  have cel : ∀ b o, b < wr.heap.size → b ≠ g → w'.cell? ⟨b, o, none⟩ = wr.cell? ⟨b, o, none⟩ := fun b o hb hbg => by unfold World.cell?; simp only [blk b hb hbg]
  have frz : ∀ b o, b < wr.heap.size → b ≠ g → w'.frozen? ⟨b, o, none⟩ = wr.frozen? ⟨b, o, none⟩ := fun b o hb hbg => by unfold World.frozen?; simp only [blk b hb hbg]
  refine ⟨⟨gg, ⟨Nat.lt_of_lt_of_le hr hc.1.size, fun o ho => ⟨(cel r o hr (by omega)).trans (hcel.2 o ho).1, (frz r o hr (by omega)).trans (hcel.2 o ho).2⟩⟩, h1, h2⟩,
    fun j hj => (q.done j hj).same (Keep.of_grown hc.1 (by omega)) fun c _ => cel r _ hr (by omega), fun j h1 h2 => (q.rows j (by omega) h2).chg hc (.inr ?_), q.chg.trans (hc.wide (by omega) ?_), q.new, q.glt, q.plt, q.png, fun j hj => (cel p j (by omega) hpg).trans (q.pts j hj)⟩
  · have := hord i j (by omega) h2; omega
  · have := hfit i hi; omega
/-- A cell of the new node is set: of an entry that is under way, not its number. -/
theorem NW.set (q : NW w wr g off N m r p G os ns cs K i k) {a : Nat} (h1 : i * 6 ≤ a) (h2 : a < 24) (h3 : ∀ j, j < 4 → a ≠ j * 6 + 5) (v : Value) : NW w (wr.setCell ⟨r, a, none⟩ v) g off N m r p G os ns cs K i k := by
  have hr := q.lt
  have hgr := q.glt
  have hp := q.plt
  have hwr := q.new
  obtain ⟨gg, hcel, e1, e2⟩ := q.cel
  refine ⟨⟨_, hcel.set (by omega) v, by rw [if_neg (by omega)]; exact e1, fun j hj => by rw [if_neg (fun e => h3 j hj e.symm)]; exact e2 j hj⟩, fun j hj => (q.done j hj).same (Keep.set wr (by omega) a v) fun c hc => ?_,
    fun j a b => (q.rows j a b).of_block (by simp) (Below.heap_setCell wr _ v g (fun e => by have : g = r := e; omega)), q.chg.setAt (by omega) (by omega) _ _, q.new, q.glt, q.plt, q.png, fun j hj => (World.cell?_setCell_other wr _ _ _ (fun e => by have : r = p := congrArg Addr.block e; omega)).trans (q.pts j hj)⟩
  exact World.cell?_setCell_other wr _ _ _ (fun e => by have : a = j * 6 + c := congrArg Addr.off e; omega)
/-- One entry more is made. -/
theorem NW.put (q : NW w wr g off N m r p G os ns cs K i k) (hi : i < 4) {c : Nat} (hp : wr.cell? ⟨r, i * 6 + 4, none⟩ = some (.pointer (some ⟨c, 0, none⟩))) (hn : NodeAt wr (r + 1) c (K i).1 (K i).2) (hb : B4 wr r (i * 6) (Q.sub (K i).1 (K i).2).bx) :
    NW w wr g off N m r p G os ns cs K (i + 1) k := by
  refine ⟨q.cel, fun j hj => ?_, q.rows, q.chg, q.new, q.glt, q.plt, q.png, q.pts⟩
  by_cases e : j = i
  · subst e
    obtain ⟨gg, hcel, e1, e2⟩ := q.cel
    obtain ⟨n1, n2, n3, n4, n5, n6⟩ := hn
    exact ⟨by rw [← Q.bx_sub]; exact hb, c, n1, n2, hp, by rw [hcel.get (by omega), e2 j hi], n3, n4, n5, n6⟩
  · exact q.done j (by omega)
/-- The box is set, and so the entry is made. -/
theorem NW.box (q : NW w wr g off N m r p G os ns cs K i k) (hi : i < 4) {c : Nat} (hp : wr.cell? ⟨r, i * 6 + 4, none⟩ = some (.pointer (some ⟨c, 0, none⟩))) (hn : NodeAt wr (r + 1) c (K i).1 (K i).2) {b : Bx} (hb : b = (Q.sub (K i).1 (K i).2).bx) :
    NW w ((((wr.setCell ⟨r, i * 6, none⟩ (.float .f64 b.x0)).setCell ⟨r, i * 6 + 1, none⟩ (.float .f64 b.y0)).setCell ⟨r, i * 6 + 2, none⟩ (.float .f64 b.x1)).setCell ⟨r, i * 6 + 3, none⟩ (.float .f64 b.y1)) g off N m r p G os ns cs K (i + 1) k := by
  have q1 := q.set (a := i * 6) (by omega) (by omega) (by omega) (.float .f64 b.x0)
  have q2 := q1.set (a := i * 6 + 1) (by omega) (by omega) (by omega) (.float .f64 b.y0)
  have q3 := q2.set (a := i * 6 + 2) (by omega) (by omega) (by omega) (.float .f64 b.x1)
  have q4 := q3.set (a := i * 6 + 3) (by omega) (by omega) (by omega) (.float .f64 b.y1)
  obtain ⟨gg, hcel, -, -⟩ := q.cel
  have c0 := hcel
  have c1 := c0.set (a := i * 6) (by omega) (.float .f64 b.x0)
  have c2 := c1.set (a := i * 6 + 1) (by omega) (.float .f64 b.y0)
  have c3 := c2.set (a := i * 6 + 2) (by omega) (.float .f64 b.x1)
  have c4 := c3.set (a := i * 6 + 3) (by omega) (.float .f64 b.y1)
  have hr : r < r + 1 := by omega
  refine q4.put hi (c := c) ?_ ((((hn.keep (Keep.set _ hr _ _)).keep (Keep.set _ hr _ _)).keep (Keep.set _ hr _ _)).keep (Keep.set _ hr _ _)) ?_
  · rw [set_get (c3.get (o := i * 6 + 3) (by omega)), if_neg (by omega), set_get (c2.get (o := i * 6 + 2) (by omega)), if_neg (by omega), set_get (c1.get (o := i * 6 + 1) (by omega)), if_neg (by omega), set_get (c0.get (o := i * 6) (by omega)), if_neg (by omega)]
    exact hp
  · rw [← hb]
    refine ⟨?_, ?_, ?_, ?_⟩
    · rw [c4.get (by omega), if_neg (by omega), if_neg (by omega), if_neg (by omega), if_pos (by omega)]
    · rw [c4.get (by omega), if_neg (by omega), if_neg (by omega), if_pos (by omega)]
    · rw [c4.get (by omega), if_neg (by omega), if_pos (by omega)]
    · rw [c4.get (by omega), if_pos (by omega)]
theorem NW.node (q : NW w wr g off N m r p G os ns cs K m k) (h1 : 1 ≤ m) (h4 : m ≤ 4) : NodeAt wr w.heap.size r m (fun j => .sub (K j).1 (K j).2) := by
  obtain ⟨gg, hcel, e1, e2⟩ := q.cel
  exact ⟨Nat.le_of_eq q.new, hcel.1, by rw [hcel.get (by omega), e1], h1, h4, fun j hj => (q.done j hj).more (by have := q.new; omega)⟩
theorem NW.start (hp : p < w.heap.size) (hg : g < w.heap.size) (hpg : p ≠ g) (t : TypeId) (hpt : Pts w p m g off os ns cs) (hr : ∀ j, j < m → Row w g (off + os j * 5) (ns j) (fun x => G (os j + x))) :
    NW w (w.alloc (.cells (nodeA m) t)) g off N m w.heap.size p G os ns cs K 0 0 := by
  have hb : Below w.heap.size w (w.alloc (.cells (nodeA m) t)) := (Below.refl _ _).alloc (Nat.le_refl _) _
  refine ⟨⟨_, Cel.of_blk (cs := nodeA m) (Blk.new w t (nodeA m)) (.int .i64 0), rfl, fun j hj => ?_⟩, fun j hj => absurd hj (by omega), fun j _ hj => (hr j hj).below hb, Chg.of_below hg hb, rfl, hg, hp, hpg, fun j hj => (hb.cell (p := ⟨p, j, none⟩) hp).trans (hpt j hj)⟩
  obtain rfl | rfl | rfl | rfl : j = 0 ∨ j = 1 ∨ j = 2 ∨ j = 3 := by omega
  all_goals rfl
end

set_option maxRecDepth 100000 in
set_option maxHeartbeats 8000000 in
theorem bnode_calls (g off N m p cap : Nat) (G : Nat → It) (os ns cs : Nat → Nat) (K : Nat → Nat × (Nat → Q)) (hm : 1 ≤ m) (hm4 : m ≤ 4)
    (hfit : ∀ j, j < m → os j + ns j ≤ N) (hord : ∀ a b, a < b → b < m → os a + ns a ≤ os b)
    (IH : ∀ i, i < m → ∀ w, Row w g (off + os i * 5) (ns i) (fun x => G (os i + x)) → Calls Tryd.prog 24 #[.slice (some ⟨g, off + os i * 5, none⟩) (ns i) (cs i)] w (IPost w g (off + os i * 5) (ns i) (K i)))
    (w : World) (hp : p < w.heap.size) (hg : g < w.heap.size) (hpg : p ≠ g) (hpt : Pts w p m g off os ns cs) (hr : ∀ j, j < m → Row w g (off + os j * 5) (ns j) (fun x => G (os j + x))) :
    Calls Tryd.prog 34 #[.slice (some ⟨p, 0, none⟩) m cap] w (IPost w g off N (m, fun j => .sub (K j).1 (K j).2)) := by
  have hA0 : NW w (w.alloc (.cells (nodeA m) 81)) g off N m w.heap.size p G os ns cs K 0 0 := NW.start hp hg hpg _ hpt hr
  obtain ⟨wA, hwA⟩ : ∃ wA, wA = w.alloc (.cells (nodeA m) 81) := ⟨_, rfl⟩
  rw [← hwA] at hA0
  have HWA : Hid (wA = w.alloc (.cells (nodeA m) 81)) := Lib.hid hwA
  have HA0 := Lib.hid hA0
  have HIH := Lib.hid IH
  have HF := Lib.hid hfit
  have HO := Lib.hid hord
  clear hA0 hwA hpt hr IH hfit hord
  go_enter Tryd.func34, Tryd.ntmps34
  go_wp2_with fail
  change Code.wp _ _ _ _ (w.alloc (.cells (nodeA m) 81))
  rw [← HWA.out]
  go_loopg [13] m (fun q ci wr => ∃ i, i + q = m ∧ ci = .int .i64 (i : Nat) ∧ NW w wr g off N m w.heap.size p G os ns cs K i i)
  case atStart => exact ⟨0, by omega, by go_num, HA0.out⟩
  case round =>
    obtain ⟨i, hi', rfl, hq⟩ := hrel
    have HI := Lib.hid hi'
    have HQ := Lib.hid hq
    have hin : i ≤ m := by omega
    have hin4 : i ≤ 4 := by omega
    have hrr := hq.lt
    clear hi' hq
    by_cases hlt : i < m
    · have hj4 : i < 4 := by omega
      have hj5 : (i : Int) < 4 := by omega
      have hltI : (i : Int) < (m : Int) := by omega
      have p0 := HQ.out.pts i hlt
      go_wp2_with fail
      refine (HIH.out i hlt wr (HQ.out.rows i (Nat.le_refl _) hlt)).mono ?_
      rintro e w2 ⟨c, rfl, hn2, hc2⟩
      have HN2 := Lib.hid hn2
      have HQ2 := Lib.hid (HQ.out.call hlt HF.out HO.out hc2)
      have HK := Lib.hid (hn2.more (M := w.heap.size + 1) hrr)
      clear hn2 hc2 p0
      have hr2 := HQ2.out.lt
      obtain ⟨gg, hcel, -, -⟩ := HQ2.out.cel
      have e4 := hcel.get (o := i * 6 + 4) (by omega)
      have k4 := hcel.fr (o := i * 6 + 4) (by omega)
      clear hcel
      go_wp2_with fail
      have hq3 : NW w (w2.setCell ⟨w.heap.size, i * 6 + 4, none⟩ (.pointer (some ⟨c, 0, none⟩))) g off N m w.heap.size p G os ns cs K i (i + 1) := HQ2.out.set (by omega) (by omega) (by omega) _
      have hn3 : NodeAt (w2.setCell ⟨w.heap.size, i * 6 + 4, none⟩ (.pointer (some ⟨c, 0, none⟩))) (w.heap.size + 1) c (K i).1 (K i).2 := HK.out.keep (Keep.set w2 (by omega) _ _)
      have h34 : (w2.setCell ⟨w.heap.size, i * 6 + 4, none⟩ (.pointer (some ⟨c, 0, none⟩))).cell? ⟨w.heap.size, i * 6 + 4, none⟩ = some (.pointer (some ⟨c, 0, none⟩)) := World.cell?_setCell_same w2 _ _ e4
      obtain ⟨w3, hw3⟩ : ∃ w3, w3 = w2.setCell ⟨w.heap.size, i * 6 + 4, none⟩ (.pointer (some ⟨c, 0, none⟩)) := ⟨_, rfl⟩
      rw [← hw3] at hq3 hn3 h34 ⊢
      have HQ3 := Lib.hid hq3
      have HN3 := Lib.hid hn3
      have H34 := Lib.hid h34
      have hr3 := hq3.lt
      obtain ⟨g3, hcel, -, -⟩ := hq3.cel
      have e0 := hcel.get (o := i * 6) (by omega)
      have e1 := hcel.get (o := i * 6 + 1) (by omega)
      have e2 := hcel.get (o := i * 6 + 2) (by omega)
      have e3 := hcel.get (o := i * 6 + 3) (by omega)
      have f0 := hcel.fr (o := i * 6) (by omega)
      have f1 := hcel.fr (o := i * 6 + 1) (by omega)
      have f2 := hcel.fr (o := i * 6 + 2) (by omega)
      have f3 := hcel.fr (o := i * 6 + 3) (by omega)
      obtain ⟨b, hbe⟩ : ∃ b, b = (Q.sub (K i).1 (K i).2).bx := ⟨_, rfl⟩
      have HBE := Lib.hid hbe
      have hbc := bound_calls (w.heap.size + 1) c (K i).1 (K i).2
      rw [← hbe] at hbc
      unfold bxA at hbc
      have HBC := Lib.hid hbc
      have NF : ∀ w', Below w3.heap.size w3 w' → Below w3.heap.size w3 w' ∧ w'.cell? ⟨w.heap.size, i * 6, none⟩ = some (g3 (i * 6)) ∧ w'.cell? ⟨w.heap.size, i * 6 + 1, none⟩ = some (g3 (i * 6 + 1)) ∧ w'.cell? ⟨w.heap.size, i * 6 + 2, none⟩ = some (g3 (i * 6 + 2)) ∧ w'.cell? ⟨w.heap.size, i * 6 + 3, none⟩ = some (g3 (i * 6 + 3)) ∧
          w'.frozen? ⟨w.heap.size, i * 6, none⟩ = false ∧ w'.frozen? ⟨w.heap.size, i * 6 + 1, none⟩ = false ∧ w'.frozen? ⟨w.heap.size, i * 6 + 2, none⟩ = false ∧ w'.frozen? ⟨w.heap.size, i * 6 + 3, none⟩ = false := fun w' h =>
        ⟨h, (h.cell (p := ⟨w.heap.size, i * 6, none⟩) hr3).trans e0, (h.cell (p := ⟨w.heap.size, i * 6 + 1, none⟩) hr3).trans e1, (h.cell (p := ⟨w.heap.size, i * 6 + 2, none⟩) hr3).trans e2, (h.cell (p := ⟨w.heap.size, i * 6 + 3, none⟩) hr3).trans e3,
          (h.frozen (p := ⟨w.heap.size, i * 6, none⟩) hr3).trans f0, (h.frozen (p := ⟨w.heap.size, i * 6 + 1, none⟩) hr3).trans f1, (h.frozen (p := ⟨w.heap.size, i * 6 + 2, none⟩) hr3).trans f2, (h.frozen (p := ⟨w.heap.size, i * 6 + 3, none⟩) hr3).trans f3⟩
      have NFH := Lib.hid NF
      clear hcel hq3 hn3 h34 hw3 hbe hbc NF e4 k4
      go_region_held3 (fun w' => w3.heap.size ≤ w'.heap.size)
        (first
          | (exact hb4.size)
          | (exact Nat.le_refl _)
          | (simp; done)
          | (have := hb4.size; simp; omega))
        (first
          | (go_at_call 32; refine (HBC.out _ (HN3.out.keep (Keep.of_below (Below.refl _ _).drew))).mono ?_; rintro e w4 ⟨rfl, hb4'⟩; have hb4 := (Below.refl w3.heap.size w3).drew.trans hb4'; have h4 := NFH.out _ hb4; obtain ⟨-, x0, x1, x2, x3, y0, y1, y2, y3⟩ := h4; clear e0 e1 e2 e3 f0 f1 f2 f3))
      have HB4 := Lib.hid hb4
      go_wp2_with fail
      go_roundg (m - (i + 1))
      case measure => have := HI.out; omega
      case rel =>
        have q4 := HQ3.out.below HB4.out
        exact ⟨i + 1, by omega, by go_num, q4.box hj4 ((HB4.out.cell (p := ⟨w.heap.size, i * 6 + 4, none⟩) hr3).trans H34.out) (HN3.out.keep (Keep.of_below HB4.out)) HBE.out⟩
    · have hin2 : i = m := by omega
      have HIN := Lib.hid hin2
      have hltI : (m : Int) ≤ (i : Int) := by omega
      clear hin2
      go_wp2_with fail
      refine bodyPost_ret (v := .pointer (some ⟨w.heap.size, 0, none⟩)) (by simp [results, Tryd.results34, go_sem]) rfl ⟨w.heap.size, rfl, ?_, HQ.out.chg⟩
      have := HQ.out
      rw [HIN.out] at this
      exact this.node hm hm4
end Go.Proofs.YtflaklceejokhaaDoor.tree
