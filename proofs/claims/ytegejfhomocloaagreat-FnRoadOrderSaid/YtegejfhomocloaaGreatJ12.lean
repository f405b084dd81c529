/- A part of the proof of FnRoadOrder: the tree of intervals: small calls. No conditions but those of the theorems. -/
import Derived.Test.YtegejfhomocloaaGreatJ1
import Derived.Test.YtegejfhomocloaaGreatJ11
import Derived.Deep.RegionHeld3
set_option linter.all false
namespace Go.Proofs.YtegejfhomocloaaGreat
open Go.RowKit

set_option maxRecDepth 100000 in
set_option maxHeartbeats 400000 in
theorem red144 (B : Nat) (S : Nat → Option Sh) (p : Option Nat) (w : World) (h : HeapOK B w S) (hp : There S p) : Calls Tryz.prog 144 #[ptrO p] w fun e w' => e = .returned (.bool (redAt S p)) ∧ w' = w := by
  cases p with
  | none =>
    show Calls Tryz.prog 144 #[.pointer none] w _
    clear h hp
    go_enter Tryz.func144, Tryz.ntmps144
    go_wp2
    go_ret
    exact ⟨rfl, rfl⟩
  | some b =>
    show Calls Tryz.prog 144 #[.pointer (some ⟨b, 0, none⟩)] w _
    obtain ⟨s, hs⟩ := hp b rfl
    obtain ⟨⟨mx, mn, h1, h2, h3⟩, -, -⟩ := h b s hs
    have c5 : w.cell? ⟨b, 5, none⟩ = some (.bool s.red) := cell_at h1 5
    have hq : redAt S (some b) = s.red := by rw [redAt, hs]; rfl
    rw [hq]
    clear h hp hs hq h1 h2 h3
    go_enter Tryz.func144, Tryz.ntmps144
    go_wp2
    go_ret
    exact ⟨rfl, rfl⟩

def bInt (b : Bool) : Int := bif b then 1 else 0
set_option maxRecDepth 100000 in
theorem opp148 (d : Bool) (w : World) : Calls Tryz.prog 148 #[.int .i64 (bInt d)] w fun e w' => e = .returned (.int .i64 (bInt (!d))) ∧ w' = w := by
  cases d
  · show Calls Tryz.prog 148 #[.int .i64 0] w fun e w' => e = .returned (.int .i64 1) ∧ w' = w
    go_enter Tryz.func148, Tryz.ntmps148
    go_wp2
    go_ret
    exact ⟨rfl, rfl⟩
  · show Calls Tryz.prog 148 #[.int .i64 1] w fun e w' => e = .returned (.int .i64 0) ∧ w' = w
    go_enter Tryz.func148, Tryz.ntmps148
    go_wp2
    go_ret
    exact ⟨rfl, rfl⟩

set_option maxRecDepth 100000 in
theorem int145 (b : Bool) (w : World) : Calls Tryz.prog 145 #[.bool b] w fun e w' => e = .returned (.int .i64 (bInt b)) ∧ w' = w := by
  cases b <;>
  · go_enter Tryz.func145, Tryz.ntmps145
    go_wp2
    go_ret
    exact ⟨rfl, rfl⟩

set_option maxRecDepth 100000 in
theorem cmp149 (a b i j : Int) (w : World) (h : a ≠ b) : Calls Tryz.prog 149 #[.int .i64 a, .int .i64 b, .int .u64 i, .int .u64 j] w fun e w' => e = .returned (.int .i64 (bInt (decide (a < b)))) ∧ w' = w := by
  by_cases hab : a < b
  · rw [decide_eq_true hab]
    go_enter Tryz.func149, Tryz.ntmps149
    go_wp2
    go_ret
    exact ⟨rfl, rfl⟩
  · rw [decide_eq_false hab]
    have hba : b < a := by omega
    go_enter Tryz.func149, Tryz.ntmps149
    go_wp2
    go_ret
    exact ⟨rfl, rfl⟩

set_option maxRecDepth 100000 in
theorem place159 (b : Nat) (k : Int) (w : World) (h : w.cell? ⟨b, 0, none⟩ = some (.int .i64 k)) : Calls Tryz.prog 159 #[.slice (some ⟨b, 0, none⟩) 1 1, .int .u64 1] w fun e w' => e = .returned (.int .i64 k) ∧ w' = w := by
  go_enter Tryz.func159, Tryz.ntmps159
  go_wp2
  go_ret
  exact ⟨rfl, rfl⟩

def spanV (i : Iv) : Value := .agg #[.slice (some ⟨i.la, 0, none⟩) 1 1, .slice (some ⟨i.ha, 0, none⟩) 1 1, .int .u64 (i.id : Int)]
def Gives (v : Value) (w : World) (e : Ending) (w' : World) : Prop := e = .returned v ∧ Keeps (fun _ => False) w w'

set_option maxRecDepth 100000 in
theorem low157 (B : Nat) (i : Iv) (w : World) (h : IvOK B w i) : Calls Tryz.prog 157 #[spanV i, .int .u64 1] w (Gives (.int .i64 i.k) w) := by
  have h1 := h.1.1
  have HK := Lib.hid (((Keeps.refl (fun _ => False) w).alloc (.cells #[.slice (some ⟨i.la, 0, none⟩) 1 1, .slice (some ⟨i.ha, 0, none⟩) 1 1, .int .u64 (i.id : Int)] 132)))
  have HP := Lib.hid (place159 i.la i.k (w.alloc (.cells #[.slice (some ⟨i.la, 0, none⟩) 1 1, .slice (some ⟨i.ha, 0, none⟩) 1 1, .int .u64 (i.id : Int)] 132)) (HK.out.cell h1 (fun f => f)))
  clear h h1
  unfold spanV
  go_enter Tryz.func157, Tryz.ntmps157
  go_wp2_with fail
  refine HP.out.mono ?_
  rintro e w' ⟨rfl, rfl⟩
  go_wp2_with fail
  go_ret
  exact ⟨rfl, HK.out⟩
set_option maxRecDepth 100000 in
theorem high155 (B : Nat) (i : Iv) (w : World) (h : IvOK B w i) : Calls Tryz.prog 155 #[spanV i, .int .u64 1] w (Gives (.int .i64 i.k) w) := by
  have h1 := h.1.2
  have HK := Lib.hid (((Keeps.refl (fun _ => False) w).alloc (.cells #[.slice (some ⟨i.la, 0, none⟩) 1 1, .slice (some ⟨i.ha, 0, none⟩) 1 1, .int .u64 (i.id : Int)] 132)))
  have HP := Lib.hid (place159 i.ha i.k (w.alloc (.cells #[.slice (some ⟨i.la, 0, none⟩) 1 1, .slice (some ⟨i.ha, 0, none⟩) 1 1, .int .u64 (i.id : Int)] 132)) (HK.out.cell h1 (fun f => f)))
  clear h h1
  unfold spanV
  go_enter Tryz.func155, Tryz.ntmps155
  go_wp2_with fail
  refine HP.out.mono ?_
  rintro e w' ⟨rfl, rfl⟩
  go_wp2_with fail
  go_ret
  exact ⟨rfl, HK.out⟩
set_option maxRecDepth 100000 in
theorem id156 (i : Iv) (w : World) : Calls Tryz.prog 156 #[spanV i] w (Gives (.int .u64 (i.id : Int)) w) := by
  have HK := Lib.hid (((Keeps.refl (fun _ => False) w).alloc (.cells #[.slice (some ⟨i.la, 0, none⟩) 1 1, .slice (some ⟨i.ha, 0, none⟩) 1 1, .int .u64 (i.id : Int)] 132)))
  unfold spanV
  go_enter Tryz.func156, Tryz.ntmps156
  go_wp2_with fail
  go_ret
  exact ⟨rfl, HK.out⟩

/-- A new node. -/
def NewNode (i : Iv) (w : World) (e : Ending) (w' : World) : Prop :=
  ∃ b : Nat, e = .returned (.pointer (some ⟨b, 0, none⟩)) ∧ w.heap.size ≤ b ∧ w'.heap[b]? = some (.cells ((Sh.mk (some i) none none true).cells i.k i.k) 166 (0, 0)) ∧ Keeps (fun _ => False) w w'
set_option maxRecDepth 100000 in
set_option maxHeartbeats 400000 in
theorem new143 (i : Iv) (w : World) : Calls Tryz.prog 143 #[ivV i, .int .i64 i.k, .int .i64 i.k, .int .u64 1] w (NewNode i w) := by
  unfold ivV
  go_enter Tryz.func143, Tryz.ntmps143
  go_wp2_with fail
  have HA := Lib.hid (heap_alloc_new w (.cells #[.iface 132 (.agg #[.slice (some ⟨i.la, 0, none⟩) 1 1, .slice (some ⟨i.ha, 0, none⟩) 1 1, .int .u64 (i.id : Int)]), .int .i64 i.k, .int .i64 i.k, .pointer none, .pointer none, .bool true, .int .u64 0] 166))
  have HK := Lib.hid ((Keeps.refl (fun _ => False) w).alloc (.cells #[.iface 132 (.agg #[.slice (some ⟨i.la, 0, none⟩) 1 1, .slice (some ⟨i.ha, 0, none⟩) 1 1, .int .u64 (i.id : Int)]), .int .i64 i.k, .int .i64 i.k, .pointer none, .pointer none, .bool true, .int .u64 0] 166))
  generalize w.alloc (.cells #[.iface 132 (.agg #[.slice (some ⟨i.la, 0, none⟩) 1 1, .slice (some ⟨i.ha, 0, none⟩) 1 1, .int .u64 (i.id : Int)]), .int .i64 i.k, .int .i64 i.k, .pointer none, .pointer none, .bool true, .int .u64 0] 166) = w1 at HA HK ⊢
  refine (id156 i w1).mono ?_
  rintro e w2 ⟨rfl, hk⟩
  have HA2 := Lib.hid (hk.heap HA.out (fun f => f))
  have HK2 := Lib.hid (HK.out.trans hk (fun _ _ f => f)); clear hk
  have c6 : w2.cell? ⟨w.heap.size, 6, none⟩ = some (.int .u64 0) := cell_at HA2.out 6
  have f6 : w2.frozen? ⟨w.heap.size, 6, none⟩ = false := free_at HA2.out 6
  go_wp2_with fail
  go_ret
  exact ⟨w.heap.size, rfl, Nat.le_refl _, heap_setCell_same w2 _ 6 _ _ _ HA2.out, HK2.out.setNew _ 6 _ (Nat.le_refl _)⟩
end Go.Proofs.YtegejfhomocloaaGreat

namespace Go.Proofs.YtegejfhomocloaaGreat
open Go.RowKit

/-- A call that turned at most a node's ranges. -/
def Ranged (B : Nat) (S : Nat → Option Sh) (b : Nat) (w : World) (e : Ending) (w' : World) : Prop := e = .returned (.tuple #[]) ∧ HeapOK B w' S ∧ Keeps (fun x => x = b) w w'

/-- A world in which a node has some ranges. -/
def MidR (b : Nat) (i : Iv) (c0 c1 : Option Nat) (red : Bool) (w wx : World) : Prop :=
  ∃ mx mn, wx.heap[b]? = some (.cells ((Sh.mk (some i) c0 c1 red).cells mx mn) 166 (0, 0)) ∧ InR mx ∧ InR mn ∧ Keeps (fun x => x = b) w wx
/-- What a child's block tells. -/
theorem kid_range {B : Nat} {S : Nat → Option Sh} {w : World} (h : HeapOK B w S) {x : Nat} (hx : There S (some x)) : ∃ mx mn cs, w.heap[x]? = some (.cells cs 166 (0, 0)) ∧ cs[1]? = some (.int .i64 mx) ∧ cs[2]? = some (.int .i64 mn) ∧ InR mx ∧ InR mn := by
  obtain ⟨s, hs⟩ := hx x rfl
  obtain ⟨⟨mx, mn, h1, h2, h3⟩, -, -⟩ := h x s hs
  exact ⟨mx, mn, _, h1, rfl, rfl, h2, h3⟩
theorem MidR.done {B : Nat} {S : Nat → Option Sh} {b : Nat} {i : Iv} {c0 c1 : Option Nat} {red : Bool} {w wx : World} (h : MidR b i c0 c1 red w wx) (hw : HeapOK B w S) (hb : S b = some ⟨some i, c0, c1, red⟩) : HeapOK B wx S ∧ Keeps (fun x => x = b) w wx := by
  obtain ⟨mx, mn, h1, h2, h3, h4⟩ := h
  exact ⟨hw.range h4 hb h2 h3 h1, h4⟩
theorem MidR.drewN {b : Nat} {i : Iv} {c0 c1 : Option Nat} {red : Bool} {w wx : World} (h : MidR b i c0 c1 red w wx) (n : Nat) : MidR b i c0 c1 red w (wx.drewN n) := by
  obtain ⟨mx, mn, h1, h2, h3, h4⟩ := h
  exact ⟨mx, mn, h1, h2, h3, h4.drewN n⟩
theorem MidR.max {b : Nat} {i : Iv} {c0 c1 : Option Nat} {red : Bool} {w wx : World} (h : MidR b i c0 c1 red w wx) {m : Int} (hm : InR m) : MidR b i c0 c1 red w (wx.setCell ⟨b, 1, none⟩ (.int .i64 m)) := by
  obtain ⟨mx, mn, h1, h2, h3, h4⟩ := h
  exact ⟨m, mn, heap_setCell_same wx b 1 _ _ _ h1, hm, h3, h4.setIn b 1 _ rfl⟩
theorem MidR.min {b : Nat} {i : Iv} {c0 c1 : Option Nat} {red : Bool} {w wx : World} (h : MidR b i c0 c1 red w wx) {m : Int} (hm : InR m) : MidR b i c0 c1 red w (wx.setCell ⟨b, 2, none⟩ (.int .i64 m)) := by
  obtain ⟨mx, mn, h1, h2, h3, h4⟩ := h
  exact ⟨mx, m, heap_setCell_same wx b 2 _ _ _ h1, h2, hm, h4.setIn b 2 _ rfl⟩
theorem MidR.new {b : Nat} {i : Iv} {c0 c1 : Option Nat} {red : Bool} {w wx wy : World} (h : MidR b i c0 c1 red w wx) (k : Keeps (fun _ => False) wx wy) : MidR b i c0 c1 red w wy := by
  obtain ⟨mx, mn, h1, h2, h3, h4⟩ := h
  exact ⟨mx, mn, k.heap h1 (fun f => f), h2, h3, h4.trans k (fun _ _ f => f.elim)⟩
/-- The same, and the least is no greater than the node's own. -/
def MidN (b : Nat) (i : Iv) (c0 c1 : Option Nat) (red : Bool) (w wx : World) : Prop :=
  ∃ mx mn, wx.heap[b]? = some (.cells ((Sh.mk (some i) c0 c1 red).cells mx mn) 166 (0, 0)) ∧ InR mx ∧ InR mn ∧ Keeps (fun x => x = b) w wx ∧ mn ≤ i.k
theorem MidN.drewN {b : Nat} {i : Iv} {c0 c1 : Option Nat} {red : Bool} {w wx : World} (h : MidN b i c0 c1 red w wx) (n : Nat) : MidN b i c0 c1 red w (wx.drewN n) := by
  obtain ⟨mx, mn, h1, h2, h3, h4, h5⟩ := h
  exact ⟨mx, mn, h1, h2, h3, h4.drewN n, h5⟩
theorem MidN.min {b : Nat} {i : Iv} {c0 c1 : Option Nat} {red : Bool} {w wx : World} (h : MidN b i c0 c1 red w wx) {m : Int} (hm : InR m) (hle : m ≤ i.k) : MidN b i c0 c1 red w (wx.setCell ⟨b, 2, none⟩ (.int .i64 m)) := by
  obtain ⟨mx, mn, h1, h2, h3, h4, h5⟩ := h
  exact ⟨mx, m, heap_setCell_same wx b 2 _ _ _ h1, h2, hm, h4.setIn b 2 _ rfl, hle⟩
theorem MidN.mid {b : Nat} {i : Iv} {c0 c1 : Option Nat} {red : Bool} {w wx : World} (h : MidN b i c0 c1 red w wx) : MidR b i c0 c1 red w wx := by
  obtain ⟨mx, mn, h1, h2, h3, h4, h5⟩ := h
  exact ⟨mx, mn, h1, h2, h3, h4⟩
theorem MidR.toN {b : Nat} {i : Iv} {c0 c1 : Option Nat} {red : Bool} {w wx : World} (h : MidR b i c0 c1 red w wx) (hm : InR i.k) : MidN b i c0 c1 red w (wx.setCell ⟨b, 2, none⟩ (.int .i64 i.k)) := by
  obtain ⟨mx, mn, h1, h2, h3, h4⟩ := h
  exact ⟨mx, i.k, heap_setCell_same wx b 2 _ _ _ h1, h2, hm, h4.setIn b 2 _ rfl, Int.le_refl _⟩

set_option maxRecDepth 100000 in
set_option maxHeartbeats 1600000 in
theorem max153 (B : Nat) (S : Nat → Option Sh) (b : Nat) (i : Iv) (c0 c1 : Option Nat) (red : Bool) (w : World) (h : HeapOK B w S) (hb : S b = some ⟨some i, c0, c1, red⟩) (h0 : There S c0) (h1 : There S c1) (n0 : c0 ≠ some b) (n1 : c1 ≠ some b) :
    Calls Tryz.prog 153 #[.pointer (some ⟨b, 0, none⟩)] w (Ranged B S b w) := by
  obtain ⟨⟨mx, mn, hb0, hmx, hmn⟩, hI, hBb⟩ := h b _ hb
  have hI : IvOK B w i := hI
  have HI := Lib.hid (high155 B i w hI)
  have HIV := Lib.hid hI
  have hbB : ∀ x, x < B → ¬ x = b := fun x hx e => by omega
  have HBB := Lib.hid hbB; clear hbB
  have HKK := Lib.hid hI.2.1
  have HW := Lib.hid h; clear h
  have HS := Lib.hid hb; clear hb
  have HB0 := Lib.hid hb0
  have a0 : w.cell? ⟨b, 0, none⟩ = some (.iface 132 (spanV i)) := cell_at hb0 0
  clear hb0 hI
  go_enter Tryz.func153, Tryz.ntmps153
  go_wp2_with fail
  refine HI.out.mono ?_
  rintro e w1 ⟨rfl, hK⟩
  have HK := Lib.hid hK; clear hK a0
  have B1 := Lib.hid (HK.out.heap HB0.out (fun f => f))
  have b1 : w1.cell? ⟨b, 1, none⟩ = some (.int .i64 mx) := cell_at B1.out 1
  have f1 : w1.frozen? ⟨b, 1, none⟩ = false := free_at B1.out 1
  go_wp2_with fail
  have M1 : MidR b i c0 c1 red w w1 := ⟨mx, mn, B1.out, hmx, hmn, HK.out.mono (fun _ _ f => f.elim)⟩
  have M2 := Lib.hid (M1.max HKK.out); clear M1
  generalize w1.setCell ⟨b, 1, none⟩ (.int .i64 i.k) = w2 at M2 ⊢
  clear b1 f1 B1 HK hmx hmn hI
  obtain ⟨m1, m2, q1, q2, q3, q4⟩ := M2.out
  cases c0 with
  | none =>
    have b1 : w2.cell? ⟨b, 1, none⟩ = some (.int .i64 m1) := cell_at q1 1
    have b3 : w2.cell? ⟨b, 3, none⟩ = some (.pointer none) := cell_at q1 3
    clear q1 q2 q3 q4
    go_quiet (fail)
    go_wp2_with fail
    have M3 := Lib.hid (M2.out.drewN nq)
    generalize w2.drewN nq = w3 at M3 ⊢
    clear b1 b3 M2
    obtain ⟨m1, m2, q1, q2, q3, q4⟩ := M3.out
    cases c1 with
    | none =>
      have b1 : w3.cell? ⟨b, 1, none⟩ = some (.int .i64 m1) := cell_at q1 1
      have b3 : w3.cell? ⟨b, 4, none⟩ = some (.pointer none) := cell_at q1 4
      clear q1 q2 q3 q4
      go_quiet (fail)
      go_wp2_with fail
      have M4 := Lib.hid (M3.out.drewN nq)
      generalize w3.drewN nq = w4 at M4 ⊢
      clear b1 b3 M3
      go_end0
      exact ⟨rfl, M4.out.done HW.out HS.out⟩
    | some x1 =>
      obtain ⟨y1, y2, cs, g1, g2, g3, g4, g5⟩ := kid_range HW.out h1
      have hx : x1 ≠ b := fun e => n1 (by rw [e])
      have hx' : b ≠ x1 := fun e => n1 (by rw [e])
      have b1 : w3.cell? ⟨b, 1, none⟩ = some (.int .i64 m1) := cell_at q1 1
      have b3 : w3.cell? ⟨b, 4, none⟩ = some (.pointer (some ⟨x1, 0, none⟩)) := cell_at q1 4
      have f1 : w3.frozen? ⟨b, 1, none⟩ = false := free_at q1 1
      have d1 : w3.cell? ⟨x1, 1, none⟩ = some (.int .i64 y1) := by rw [cell_at (q4.heap g1 hx) 1]; exact g2
      clear q1 q2 q3 q4 g1 g2 g3
      by_cases hlt : m1 < y1
      · go_quiet (fail)
        go_wp2_with fail
        have M4 := Lib.hid ((M3.out.drewN nq).max g4)
        clear g4 g5 hx hx' d1 f1
        generalize (w3.drewN nq).setCell ⟨b, 1, none⟩ (.int .i64 y1) = w4 at M4 ⊢
        clear b1 b3 M3 hlt
        go_end0
        exact ⟨rfl, M4.out.done HW.out HS.out⟩
      · go_quiet (fail)
        go_wp2_with fail
        have M4 := Lib.hid (M3.out.drewN nq)
        generalize w3.drewN nq = w4 at M4 ⊢
        clear b1 b3 M3 hlt g4 g5 hx hx' d1 f1
        go_end0
        exact ⟨rfl, M4.out.done HW.out HS.out⟩
  | some x0 =>
    obtain ⟨y1, y2, cs, g1, g2, g3, g4, g5⟩ := kid_range HW.out h0
    have hx : x0 ≠ b := fun e => n0 (by rw [e])
    have hx' : b ≠ x0 := fun e => n0 (by rw [e])
    have b1 : w2.cell? ⟨b, 1, none⟩ = some (.int .i64 m1) := cell_at q1 1
    have b3 : w2.cell? ⟨b, 3, none⟩ = some (.pointer (some ⟨x0, 0, none⟩)) := cell_at q1 3
    have f1 : w2.frozen? ⟨b, 1, none⟩ = false := free_at q1 1
    have d1 : w2.cell? ⟨x0, 1, none⟩ = some (.int .i64 y1) := by rw [cell_at (q4.heap g1 hx) 1]; exact g2
    clear q1 q2 q3 q4 g1 g2 g3
    by_cases hlt : m1 < y1
    · go_quiet (fail)
      go_wp2_with fail
      have M3 := Lib.hid ((M2.out.drewN nq).max g4)
      clear g4 g5 hx hx' d1 f1
      generalize (w2.drewN nq).setCell ⟨b, 1, none⟩ (.int .i64 y1) = w3 at M3 ⊢
      clear b1 b3 M2 hlt
      obtain ⟨m1, m2, q1, q2, q3, q4⟩ := M3.out
      cases c1 with
      | none =>
        have b1 : w3.cell? ⟨b, 1, none⟩ = some (.int .i64 m1) := cell_at q1 1
        have b3 : w3.cell? ⟨b, 4, none⟩ = some (.pointer none) := cell_at q1 4
        clear q1 q2 q3 q4
        go_quiet (fail)
        go_wp2_with fail
        have M4 := Lib.hid (M3.out.drewN nq)
        generalize w3.drewN nq = w4 at M4 ⊢
        clear b1 b3 M3
        go_end0
        exact ⟨rfl, M4.out.done HW.out HS.out⟩
      | some x1 =>
        obtain ⟨y1, y2, cs, g1, g2, g3, g4, g5⟩ := kid_range HW.out h1
        have hx : x1 ≠ b := fun e => n1 (by rw [e])
        have hx' : b ≠ x1 := fun e => n1 (by rw [e])
        have b1 : w3.cell? ⟨b, 1, none⟩ = some (.int .i64 m1) := cell_at q1 1
        have b3 : w3.cell? ⟨b, 4, none⟩ = some (.pointer (some ⟨x1, 0, none⟩)) := cell_at q1 4
        have f1 : w3.frozen? ⟨b, 1, none⟩ = false := free_at q1 1
        have d1 : w3.cell? ⟨x1, 1, none⟩ = some (.int .i64 y1) := by rw [cell_at (q4.heap g1 hx) 1]; exact g2
        clear q1 q2 q3 q4 g1 g2 g3
        by_cases hlt : m1 < y1
        · go_quiet (fail)
          go_wp2_with fail
          have M4 := Lib.hid ((M3.out.drewN nq).max g4)
          clear g4 g5 hx hx' d1 f1
          generalize (w3.drewN nq).setCell ⟨b, 1, none⟩ (.int .i64 y1) = w4 at M4 ⊢
          clear b1 b3 M3 hlt
          go_end0
          exact ⟨rfl, M4.out.done HW.out HS.out⟩
        · go_quiet (fail)
          go_wp2_with fail
          have M4 := Lib.hid (M3.out.drewN nq)
          generalize w3.drewN nq = w4 at M4 ⊢
          clear b1 b3 M3 hlt g4 g5 hx hx' d1 f1
          go_end0
          exact ⟨rfl, M4.out.done HW.out HS.out⟩
    · go_quiet (fail)
      go_wp2_with fail
      have M3 := Lib.hid (M2.out.drewN nq)
      generalize w2.drewN nq = w3 at M3 ⊢
      clear b1 b3 M2 hlt g4 g5 hx hx' d1 f1
      obtain ⟨m1, m2, q1, q2, q3, q4⟩ := M3.out
      cases c1 with
      | none =>
        have b1 : w3.cell? ⟨b, 1, none⟩ = some (.int .i64 m1) := cell_at q1 1
        have b3 : w3.cell? ⟨b, 4, none⟩ = some (.pointer none) := cell_at q1 4
        clear q1 q2 q3 q4
        go_quiet (fail)
        go_wp2_with fail
        have M4 := Lib.hid (M3.out.drewN nq)
        generalize w3.drewN nq = w4 at M4 ⊢
        clear b1 b3 M3
        go_end0
        exact ⟨rfl, M4.out.done HW.out HS.out⟩
      | some x1 =>
        obtain ⟨y1, y2, cs, g1, g2, g3, g4, g5⟩ := kid_range HW.out h1
        have hx : x1 ≠ b := fun e => n1 (by rw [e])
        have hx' : b ≠ x1 := fun e => n1 (by rw [e])
        have b1 : w3.cell? ⟨b, 1, none⟩ = some (.int .i64 m1) := cell_at q1 1
        have b3 : w3.cell? ⟨b, 4, none⟩ = some (.pointer (some ⟨x1, 0, none⟩)) := cell_at q1 4
        have f1 : w3.frozen? ⟨b, 1, none⟩ = false := free_at q1 1
        have d1 : w3.cell? ⟨x1, 1, none⟩ = some (.int .i64 y1) := by rw [cell_at (q4.heap g1 hx) 1]; exact g2
        clear q1 q2 q3 q4 g1 g2 g3
        by_cases hlt : m1 < y1
        · go_quiet (fail)
          go_wp2_with fail
          have M4 := Lib.hid ((M3.out.drewN nq).max g4)
          clear g4 g5 hx hx' d1 f1
          generalize (w3.drewN nq).setCell ⟨b, 1, none⟩ (.int .i64 y1) = w4 at M4 ⊢
          clear b1 b3 M3 hlt
          go_end0
          exact ⟨rfl, M4.out.done HW.out HS.out⟩
        · go_quiet (fail)
          go_wp2_with fail
          have M4 := Lib.hid (M3.out.drewN nq)
          generalize w3.drewN nq = w4 at M4 ⊢
          clear b1 b3 M3 hlt g4 g5 hx hx' d1 f1
          go_end0
          exact ⟨rfl, M4.out.done HW.out HS.out⟩

set_option maxRecDepth 100000 in
set_option maxHeartbeats 1600000 in
theorem min154 (B : Nat) (S : Nat → Option Sh) (b : Nat) (i : Iv) (c0 c1 : Option Nat) (red : Bool) (w : World) (h : HeapOK B w S) (hb : S b = some ⟨some i, c0, c1, red⟩) (h0 : There S c0) (h1 : There S c1) (n0 : c0 ≠ some b) (n1 : c1 ≠ some b) :
    Calls Tryz.prog 154 #[.pointer (some ⟨b, 0, none⟩)] w (Ranged B S b w) := by
  obtain ⟨⟨mx, mn, hb0, hmx, hmn⟩, hI, hBb⟩ := h b _ hb
  have hI : IvOK B w i := hI
  have HI := Lib.hid (low157 B i w hI)
  have HIV := Lib.hid hI
  have hbB : ∀ x, x < B → ¬ x = b := fun x hx e => by omega
  have HBB := Lib.hid hbB; clear hbB
  have HKK := Lib.hid hI.2.1
  have HW := Lib.hid h; clear h
  have HS := Lib.hid hb; clear hb
  have HB0 := Lib.hid hb0
  have a0 : w.cell? ⟨b, 0, none⟩ = some (.iface 132 (spanV i)) := cell_at hb0 0
  clear hb0 hI
  go_enter Tryz.func154, Tryz.ntmps154
  go_wp2_with fail
  refine HI.out.mono ?_
  rintro e w1 ⟨rfl, hK⟩
  have HK := Lib.hid hK; clear hK a0
  have B1 := Lib.hid (HK.out.heap HB0.out (fun f => f))
  have b1 : w1.cell? ⟨b, 2, none⟩ = some (.int .i64 mn) := cell_at B1.out 2
  have f1 : w1.frozen? ⟨b, 2, none⟩ = false := free_at B1.out 2
  go_wp2_with fail
  have M1 : MidR b i c0 c1 red w w1 := ⟨mx, mn, B1.out, hmx, hmn, HK.out.mono (fun _ _ f => f.elim)⟩
  have M2 := Lib.hid (M1.toN HKK.out); clear M1
  generalize w1.setCell ⟨b, 2, none⟩ (.int .i64 i.k) = w2 at M2 ⊢
  clear b1 f1 B1 HK hmx hmn hI
  obtain ⟨m1, m2, q1, q2, q3, q4, q5⟩ := M2.out
  cases c0 with
  | none =>
    have b1 : w2.cell? ⟨b, 2, none⟩ = some (.int .i64 m2) := cell_at q1 2
    have b3 : w2.cell? ⟨b, 3, none⟩ = some (.pointer none) := cell_at q1 3
    clear q1 q2 q3 q4
    go_quiet (fail)
    go_wp2_with fail
    have M3 := Lib.hid (M2.out.drewN nq)
    generalize w2.drewN nq = w3 at M3 ⊢
    clear b1 b3 M2
    obtain ⟨m1, m2, q1, q2, q3, q4, q5⟩ := M3.out
    cases c1 with
    | none =>
      have b1 : w3.cell? ⟨b, 2, none⟩ = some (.int .i64 m2) := cell_at q1 2
      have b3 : w3.cell? ⟨b, 4, none⟩ = some (.pointer none) := cell_at q1 4
      clear q1 q2 q3 q4
      go_quiet (fail)
      go_wp2_with fail
      have M4 := Lib.hid (M3.out.drewN nq)
      generalize w3.drewN nq = w4 at M4 ⊢
      clear b1 b3 M3
      obtain ⟨m1, m2, q1, q2, q3, q4, q5⟩ := M4.out
      have IV4 := Lib.hid (HIV.out.keeps q4 HBB.out)
      have a0 : w4.cell? ⟨b, 0, none⟩ = some (.iface 132 (spanV i)) := cell_at q1 0
      have a2 : w4.cell? ⟨b, 2, none⟩ = some (.int .i64 m2) := cell_at q1 2
      clear q1 q2 q3 q4
      go_region_held3 (fun w' => w'.cell? ⟨b, 0, none⟩ = some (.iface 132 (spanV i)) ∧ w'.cell? ⟨b, 2, none⟩ = some (.int .i64 m2)) (first | go_keep | exact ⟨hk5.out.cell a0 (fun f => f), hk5.out.cell a2 (fun f => f)⟩)
        (first | (go_at_call 157; refine (low157 B i _ ?_).mono ?_; (exact IV4.out.keeps (Keeps.drew (Keeps.refl (fun _ => False) _)) (fun _ _ f => f)); rintro e w5 ⟨rfl, hk⟩; have hk5 : Hid (Keeps (fun _ => False) w4 w5) := Keeps.ofDrew hk; clear hk))
      go_wp2_with fail
      go_end0
      exact ⟨rfl, (M4.out.mid.new hk5.out).done HW.out HS.out⟩
    | some x1 =>
      obtain ⟨y1, y2, cs, g1, g2, g3, g4, g5⟩ := kid_range HW.out h1
      have hx : x1 ≠ b := fun e => n1 (by rw [e])
      have hx' : b ≠ x1 := fun e => n1 (by rw [e])
      have b1 : w3.cell? ⟨b, 2, none⟩ = some (.int .i64 m2) := cell_at q1 2
      have b3 : w3.cell? ⟨b, 4, none⟩ = some (.pointer (some ⟨x1, 0, none⟩)) := cell_at q1 4
      have f1 : w3.frozen? ⟨b, 2, none⟩ = false := free_at q1 2
      have d1 : w3.cell? ⟨x1, 2, none⟩ = some (.int .i64 y2) := by rw [cell_at (q4.heap g1 hx) 2]; exact g3
      clear q1 q2 q3 q4 g1 g2 g3
      by_cases hlt : y2 < m2
      · go_quiet (fail)
        go_wp2_with fail
        have M4 := Lib.hid ((M3.out.drewN nq).min g5 (by omega))
        clear g4 g5 hx hx' d1 f1
        generalize (w3.drewN nq).setCell ⟨b, 2, none⟩ (.int .i64 y2) = w4 at M4 ⊢
        clear b1 b3 M3 hlt
        obtain ⟨m1, m2, q1, q2, q3, q4, q5⟩ := M4.out
        have IV4 := Lib.hid (HIV.out.keeps q4 HBB.out)
        have a0 : w4.cell? ⟨b, 0, none⟩ = some (.iface 132 (spanV i)) := cell_at q1 0
        have a2 : w4.cell? ⟨b, 2, none⟩ = some (.int .i64 m2) := cell_at q1 2
        clear q1 q2 q3 q4
        go_region_held3 (fun w' => w'.cell? ⟨b, 0, none⟩ = some (.iface 132 (spanV i)) ∧ w'.cell? ⟨b, 2, none⟩ = some (.int .i64 m2)) (first | go_keep | exact ⟨hk5.out.cell a0 (fun f => f), hk5.out.cell a2 (fun f => f)⟩)
          (first | (go_at_call 157; refine (low157 B i _ ?_).mono ?_; (exact IV4.out.keeps (Keeps.drew (Keeps.refl (fun _ => False) _)) (fun _ _ f => f)); rintro e w5 ⟨rfl, hk⟩; have hk5 : Hid (Keeps (fun _ => False) w4 w5) := Keeps.ofDrew hk; clear hk))
        go_wp2_with fail
        go_end0
        exact ⟨rfl, (M4.out.mid.new hk5.out).done HW.out HS.out⟩
      · go_quiet (fail)
        go_wp2_with fail
        have M4 := Lib.hid (M3.out.drewN nq)
        generalize w3.drewN nq = w4 at M4 ⊢
        clear b1 b3 M3 hlt g4 g5 hx hx' d1 f1
        obtain ⟨m1, m2, q1, q2, q3, q4, q5⟩ := M4.out
        have IV4 := Lib.hid (HIV.out.keeps q4 HBB.out)
        have a0 : w4.cell? ⟨b, 0, none⟩ = some (.iface 132 (spanV i)) := cell_at q1 0
        have a2 : w4.cell? ⟨b, 2, none⟩ = some (.int .i64 m2) := cell_at q1 2
        clear q1 q2 q3 q4
        go_region_held3 (fun w' => w'.cell? ⟨b, 0, none⟩ = some (.iface 132 (spanV i)) ∧ w'.cell? ⟨b, 2, none⟩ = some (.int .i64 m2)) (first | go_keep | exact ⟨hk5.out.cell a0 (fun f => f), hk5.out.cell a2 (fun f => f)⟩)
          (first | (go_at_call 157; refine (low157 B i _ ?_).mono ?_; (exact IV4.out.keeps (Keeps.drew (Keeps.refl (fun _ => False) _)) (fun _ _ f => f)); rintro e w5 ⟨rfl, hk⟩; have hk5 : Hid (Keeps (fun _ => False) w4 w5) := Keeps.ofDrew hk; clear hk))
        go_wp2_with fail
        go_end0
        exact ⟨rfl, (M4.out.mid.new hk5.out).done HW.out HS.out⟩
  | some x0 =>
    obtain ⟨y1, y2, cs, g1, g2, g3, g4, g5⟩ := kid_range HW.out h0
    have hx : x0 ≠ b := fun e => n0 (by rw [e])
    have hx' : b ≠ x0 := fun e => n0 (by rw [e])
    have b1 : w2.cell? ⟨b, 2, none⟩ = some (.int .i64 m2) := cell_at q1 2
    have b3 : w2.cell? ⟨b, 3, none⟩ = some (.pointer (some ⟨x0, 0, none⟩)) := cell_at q1 3
    have f1 : w2.frozen? ⟨b, 2, none⟩ = false := free_at q1 2
    have d1 : w2.cell? ⟨x0, 2, none⟩ = some (.int .i64 y2) := by rw [cell_at (q4.heap g1 hx) 2]; exact g3
    clear q1 q2 q3 q4 g1 g2 g3
    by_cases hlt : y2 < m2
    · go_quiet (fail)
      go_wp2_with fail
      have M3 := Lib.hid ((M2.out.drewN nq).min g5 (by omega))
      clear g4 g5 hx hx' d1 f1
      generalize (w2.drewN nq).setCell ⟨b, 2, none⟩ (.int .i64 y2) = w3 at M3 ⊢
      clear b1 b3 M2 hlt
      obtain ⟨m1, m2, q1, q2, q3, q4, q5⟩ := M3.out
      cases c1 with
      | none =>
        have b1 : w3.cell? ⟨b, 2, none⟩ = some (.int .i64 m2) := cell_at q1 2
        have b3 : w3.cell? ⟨b, 4, none⟩ = some (.pointer none) := cell_at q1 4
        clear q1 q2 q3 q4
        go_quiet (fail)
        go_wp2_with fail
        have M4 := Lib.hid (M3.out.drewN nq)
        generalize w3.drewN nq = w4 at M4 ⊢
        clear b1 b3 M3
        obtain ⟨m1, m2, q1, q2, q3, q4, q5⟩ := M4.out
        have IV4 := Lib.hid (HIV.out.keeps q4 HBB.out)
        have a0 : w4.cell? ⟨b, 0, none⟩ = some (.iface 132 (spanV i)) := cell_at q1 0
        have a2 : w4.cell? ⟨b, 2, none⟩ = some (.int .i64 m2) := cell_at q1 2
        clear q1 q2 q3 q4
        go_region_held3 (fun w' => w'.cell? ⟨b, 0, none⟩ = some (.iface 132 (spanV i)) ∧ w'.cell? ⟨b, 2, none⟩ = some (.int .i64 m2)) (first | go_keep | exact ⟨hk5.out.cell a0 (fun f => f), hk5.out.cell a2 (fun f => f)⟩)
          (first | (go_at_call 157; refine (low157 B i _ ?_).mono ?_; (exact IV4.out.keeps (Keeps.drew (Keeps.refl (fun _ => False) _)) (fun _ _ f => f)); rintro e w5 ⟨rfl, hk⟩; have hk5 : Hid (Keeps (fun _ => False) w4 w5) := Keeps.ofDrew hk; clear hk))
        go_wp2_with fail
        go_end0
        exact ⟨rfl, (M4.out.mid.new hk5.out).done HW.out HS.out⟩
      | some x1 =>
        obtain ⟨y1, y2, cs, g1, g2, g3, g4, g5⟩ := kid_range HW.out h1
        have hx : x1 ≠ b := fun e => n1 (by rw [e])
        have hx' : b ≠ x1 := fun e => n1 (by rw [e])
        have b1 : w3.cell? ⟨b, 2, none⟩ = some (.int .i64 m2) := cell_at q1 2
        have b3 : w3.cell? ⟨b, 4, none⟩ = some (.pointer (some ⟨x1, 0, none⟩)) := cell_at q1 4
        have f1 : w3.frozen? ⟨b, 2, none⟩ = false := free_at q1 2
        have d1 : w3.cell? ⟨x1, 2, none⟩ = some (.int .i64 y2) := by rw [cell_at (q4.heap g1 hx) 2]; exact g3
        clear q1 q2 q3 q4 g1 g2 g3
        by_cases hlt : y2 < m2
        · go_quiet (fail)
          go_wp2_with fail
          have M4 := Lib.hid ((M3.out.drewN nq).min g5 (by omega))
          clear g4 g5 hx hx' d1 f1
          generalize (w3.drewN nq).setCell ⟨b, 2, none⟩ (.int .i64 y2) = w4 at M4 ⊢
          clear b1 b3 M3 hlt
          obtain ⟨m1, m2, q1, q2, q3, q4, q5⟩ := M4.out
          have IV4 := Lib.hid (HIV.out.keeps q4 HBB.out)
          have a0 : w4.cell? ⟨b, 0, none⟩ = some (.iface 132 (spanV i)) := cell_at q1 0
          have a2 : w4.cell? ⟨b, 2, none⟩ = some (.int .i64 m2) := cell_at q1 2
          clear q1 q2 q3 q4
          go_region_held3 (fun w' => w'.cell? ⟨b, 0, none⟩ = some (.iface 132 (spanV i)) ∧ w'.cell? ⟨b, 2, none⟩ = some (.int .i64 m2)) (first | go_keep | exact ⟨hk5.out.cell a0 (fun f => f), hk5.out.cell a2 (fun f => f)⟩)
            (first | (go_at_call 157; refine (low157 B i _ ?_).mono ?_; (exact IV4.out.keeps (Keeps.drew (Keeps.refl (fun _ => False) _)) (fun _ _ f => f)); rintro e w5 ⟨rfl, hk⟩; have hk5 : Hid (Keeps (fun _ => False) w4 w5) := Keeps.ofDrew hk; clear hk))
          go_wp2_with fail
          go_end0
          exact ⟨rfl, (M4.out.mid.new hk5.out).done HW.out HS.out⟩
        · go_quiet (fail)
          go_wp2_with fail
          have M4 := Lib.hid (M3.out.drewN nq)
          generalize w3.drewN nq = w4 at M4 ⊢
          clear b1 b3 M3 hlt g4 g5 hx hx' d1 f1
          obtain ⟨m1, m2, q1, q2, q3, q4, q5⟩ := M4.out
          have IV4 := Lib.hid (HIV.out.keeps q4 HBB.out)
          have a0 : w4.cell? ⟨b, 0, none⟩ = some (.iface 132 (spanV i)) := cell_at q1 0
          have a2 : w4.cell? ⟨b, 2, none⟩ = some (.int .i64 m2) := cell_at q1 2
          clear q1 q2 q3 q4
          go_region_held3 (fun w' => w'.cell? ⟨b, 0, none⟩ = some (.iface 132 (spanV i)) ∧ w'.cell? ⟨b, 2, none⟩ = some (.int .i64 m2)) (first | go_keep | exact ⟨hk5.out.cell a0 (fun f => f), hk5.out.cell a2 (fun f => f)⟩)
            (first | (go_at_call 157; refine (low157 B i _ ?_).mono ?_; (exact IV4.out.keeps (Keeps.drew (Keeps.refl (fun _ => False) _)) (fun _ _ f => f)); rintro e w5 ⟨rfl, hk⟩; have hk5 : Hid (Keeps (fun _ => False) w4 w5) := Keeps.ofDrew hk; clear hk))
          go_wp2_with fail
          go_end0
          exact ⟨rfl, (M4.out.mid.new hk5.out).done HW.out HS.out⟩
    · go_quiet (fail)
      go_wp2_with fail
      have M3 := Lib.hid (M2.out.drewN nq)
      generalize w2.drewN nq = w3 at M3 ⊢
      clear b1 b3 M2 hlt g4 g5 hx hx' d1 f1
      obtain ⟨m1, m2, q1, q2, q3, q4, q5⟩ := M3.out
      cases c1 with
      | none =>
        have b1 : w3.cell? ⟨b, 2, none⟩ = some (.int .i64 m2) := cell_at q1 2
        have b3 : w3.cell? ⟨b, 4, none⟩ = some (.pointer none) := cell_at q1 4
        clear q1 q2 q3 q4
        go_quiet (fail)
        go_wp2_with fail
        have M4 := Lib.hid (M3.out.drewN nq)
        generalize w3.drewN nq = w4 at M4 ⊢
        clear b1 b3 M3
        obtain ⟨m1, m2, q1, q2, q3, q4, q5⟩ := M4.out
        have IV4 := Lib.hid (HIV.out.keeps q4 HBB.out)
        have a0 : w4.cell? ⟨b, 0, none⟩ = some (.iface 132 (spanV i)) := cell_at q1 0
        have a2 : w4.cell? ⟨b, 2, none⟩ = some (.int .i64 m2) := cell_at q1 2
        clear q1 q2 q3 q4
        go_region_held3 (fun w' => w'.cell? ⟨b, 0, none⟩ = some (.iface 132 (spanV i)) ∧ w'.cell? ⟨b, 2, none⟩ = some (.int .i64 m2)) (first | go_keep | exact ⟨hk5.out.cell a0 (fun f => f), hk5.out.cell a2 (fun f => f)⟩)
          (first | (go_at_call 157; refine (low157 B i _ ?_).mono ?_; (exact IV4.out.keeps (Keeps.drew (Keeps.refl (fun _ => False) _)) (fun _ _ f => f)); rintro e w5 ⟨rfl, hk⟩; have hk5 : Hid (Keeps (fun _ => False) w4 w5) := Keeps.ofDrew hk; clear hk))
        go_wp2_with fail
        go_end0
        exact ⟨rfl, (M4.out.mid.new hk5.out).done HW.out HS.out⟩
      | some x1 =>
        obtain ⟨y1, y2, cs, g1, g2, g3, g4, g5⟩ := kid_range HW.out h1
        have hx : x1 ≠ b := fun e => n1 (by rw [e])
        have hx' : b ≠ x1 := fun e => n1 (by rw [e])
        have b1 : w3.cell? ⟨b, 2, none⟩ = some (.int .i64 m2) := cell_at q1 2
        have b3 : w3.cell? ⟨b, 4, none⟩ = some (.pointer (some ⟨x1, 0, none⟩)) := cell_at q1 4
        have f1 : w3.frozen? ⟨b, 2, none⟩ = false := free_at q1 2
        have d1 : w3.cell? ⟨x1, 2, none⟩ = some (.int .i64 y2) := by rw [cell_at (q4.heap g1 hx) 2]; exact g3
        clear q1 q2 q3 q4 g1 g2 g3
        by_cases hlt : y2 < m2
        · go_quiet (fail)
          go_wp2_with fail
          have M4 := Lib.hid ((M3.out.drewN nq).min g5 (by omega))
          clear g4 g5 hx hx' d1 f1
          generalize (w3.drewN nq).setCell ⟨b, 2, none⟩ (.int .i64 y2) = w4 at M4 ⊢
          clear b1 b3 M3 hlt
          obtain ⟨m1, m2, q1, q2, q3, q4, q5⟩ := M4.out
          have IV4 := Lib.hid (HIV.out.keeps q4 HBB.out)
          have a0 : w4.cell? ⟨b, 0, none⟩ = some (.iface 132 (spanV i)) := cell_at q1 0
          have a2 : w4.cell? ⟨b, 2, none⟩ = some (.int .i64 m2) := cell_at q1 2
          clear q1 q2 q3 q4
          go_region_held3 (fun w' => w'.cell? ⟨b, 0, none⟩ = some (.iface 132 (spanV i)) ∧ w'.cell? ⟨b, 2, none⟩ = some (.int .i64 m2)) (first | go_keep | exact ⟨hk5.out.cell a0 (fun f => f), hk5.out.cell a2 (fun f => f)⟩)
            (first | (go_at_call 157; refine (low157 B i _ ?_).mono ?_; (exact IV4.out.keeps (Keeps.drew (Keeps.refl (fun _ => False) _)) (fun _ _ f => f)); rintro e w5 ⟨rfl, hk⟩; have hk5 : Hid (Keeps (fun _ => False) w4 w5) := Keeps.ofDrew hk; clear hk))
          go_wp2_with fail
          go_end0
          exact ⟨rfl, (M4.out.mid.new hk5.out).done HW.out HS.out⟩
        · go_quiet (fail)
          go_wp2_with fail
          have M4 := Lib.hid (M3.out.drewN nq)
          generalize w3.drewN nq = w4 at M4 ⊢
          clear b1 b3 M3 hlt g4 g5 hx hx' d1 f1
          obtain ⟨m1, m2, q1, q2, q3, q4, q5⟩ := M4.out
          have IV4 := Lib.hid (HIV.out.keeps q4 HBB.out)
          have a0 : w4.cell? ⟨b, 0, none⟩ = some (.iface 132 (spanV i)) := cell_at q1 0
          have a2 : w4.cell? ⟨b, 2, none⟩ = some (.int .i64 m2) := cell_at q1 2
          clear q1 q2 q3 q4
          go_region_held3 (fun w' => w'.cell? ⟨b, 0, none⟩ = some (.iface 132 (spanV i)) ∧ w'.cell? ⟨b, 2, none⟩ = some (.int .i64 m2)) (first | go_keep | exact ⟨hk5.out.cell a0 (fun f => f), hk5.out.cell a2 (fun f => f)⟩)
            (first | (go_at_call 157; refine (low157 B i _ ?_).mono ?_; (exact IV4.out.keeps (Keeps.drew (Keeps.refl (fun _ => False) _)) (fun _ _ f => f)); rintro e w5 ⟨rfl, hk⟩; have hk5 : Hid (Keeps (fun _ => False) w4 w5) := Keeps.ofDrew hk; clear hk))
          go_wp2_with fail
          go_end0
          exact ⟨rfl, (M4.out.mid.new hk5.out).done HW.out HS.out⟩
end Go.Proofs.YtegejfhomocloaaGreat
