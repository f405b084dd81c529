/- A part of the proof of FnRoadOrder: the plus tree: keys, frames, appends, leaves. No conditions but those of the theorems. -/
import Derived.Test.YtegejfhomocloaaGreatProg
import Derived.Handy
import Derived.WalkSpells
import Derived.WalkLawsBesides
import Derived.Deep.QuietTactic
import Derived.BigQuiet
import Derived.KernelRfl
import Derived.Deep.LoopGhost
import Derived.Lib.Hide
import Derived.WalkSmall
import Derived.Deep.AppendLies
import Derived.Laws.CopyOwn
import Derived.Deep.RegionHeld3
import Derived.StillTailTactics
set_option linter.all false
namespace Go.Proofs.YtegejfhomocloaaGreat
open Go.RowKit

@[go_sem] theorem ta_word (a : Array Value) (w : World) : (Instr.typeAssert (.iface 84 (.agg a)) 78 84 false).run Tryz.prog w = .ok (.agg a) w := by kernel_rfl

@[go_sem] theorem fld84 (a b : Value) (w : World) : (Instr.field 84 (.agg #[a, b]) 0).run Tryz.prog w = .ok (.agg #[a, b]) w := by kernel_rfl
@[go_sem] theorem fld34_0 (a b : Value) (w : World) : (Instr.field 34 (.agg #[a, b]) 0).run Tryz.prog w = .ok a w := by kernel_rfl
@[go_sem] theorem fld34_1 (a b : Value) (w : World) : (Instr.field 34 (.agg #[a, b]) 1).run Tryz.prog w = .ok b w := by kernel_rfl
@[go_sem] theorem fld132 (a b c : Value) (w : World) : (Instr.field 132 (.agg #[a, b, c]) 0).run Tryz.prog w = .ok (.agg #[a, b, c]) w := by kernel_rfl

/-- How one key stands to another. -/
def cmpK (k k' : Int) : Int := if k' < k then -1 else if k < k' then 1 else 0

theorem cmpK_lt {k k' : Int} (h : k' < k) : cmpK k k' = -1 := by unfold cmpK; rw [if_pos h]
theorem cmpK_gt {k k' : Int} (h : k < k') : cmpK k k' = 1 := by unfold cmpK; rw [if_neg (by omega), if_pos h]
theorem cmpK_eq (k : Int) : cmpK k k = 0 := by unfold cmpK; rw [if_neg (by omega), if_neg (by omega)]

set_option maxRecDepth 100000 in
set_option maxHeartbeats 400000 in
theorem compare_any (k v k' v' : Int) (w : World) :
    Calls Tryz.prog 98 #[.agg #[.int .i64 k, .int .i64 v], .iface 84 (.agg #[.int .i64 k', .int .i64 v'])] w fun e w' => e = .returned (.int .i64 (cmpK k k')) ∧ Below w.heap.size w w' := by
  go_enter Tryz.func98, Tryz.ntmps98
  go_wp2
  all_goals go_ret
  all_goals refine ⟨?_, by go_grown⟩
  · rw [cmpK_lt (by assumption)]; rfl
  · rw [cmpK_gt (by omega)]; rfl
  · have : k = k' := by omega
    subst this; rw [cmpK_eq]; rfl
end Go.Proofs.YtegejfhomocloaaGreat

namespace Go.Proofs.YtegejfhomocloaaGreat
open Go.RowKit

/-- What the search says: the first p keys are less, the others are not. -/
def FoundAt (n : Nat) (K : Nat → Int) (k : Int) (w : World) (e : Ending) (w' : World) : Prop :=
  ∃ p : Nat, p ≤ n ∧ (∀ i, i < p → K i < k) ∧ (∀ i, p ≤ i → i < n → k ≤ K i) ∧ e = .returned (.int .i64 p) ∧ Below w.heap.size w w'

def SearchInv (n : Nat) (K : Nat → Int) (k : Int) (lo hi : Int) : Prop :=
  0 ≤ lo ∧ lo ≤ hi + 1 ∧ hi < n ∧ (∀ i : Nat, (i : Int) < lo → K i < k) ∧ (∀ i : Nat, hi < (i : Int) → i < n → k < K i)

theorem SearchInv.right {n : Nat} {K : Nat → Int} {k lo hi : Int} {m : Nat} (HM : ∀ i j, i < j → j < n → K i < K j) (h : SearchInv n K k lo hi) (_h1 : lo ≤ (m : Int)) (h2 : (m : Int) ≤ hi) (hK : K m < k) : SearchInv n K k (m + 1) hi := by
  obtain ⟨a, b, c, d, e⟩ := h
  refine ⟨by omega, by omega, c, fun i hi' => ?_, e⟩
  by_cases him : i = m
  · subst him; exact hK
  · have := HM i m (by omega) (by omega); omega
theorem SearchInv.left {n : Nat} {K : Nat → Int} {k lo hi : Int} {m : Nat} (HM : ∀ i j, i < j → j < n → K i < K j) (h : SearchInv n K k lo hi) (h1 : lo ≤ (m : Int)) (h2 : (m : Int) ≤ hi) (hK : k < K m) : SearchInv n K k lo (m - 1) := by
  obtain ⟨a, b, c, d, e⟩ := h
  refine ⟨by omega, by omega, by omega, d, fun i hi' hin => ?_⟩
  by_cases him : i = m
  · subst him; exact hK
  · have := HM m i (by omega) hin; omega
theorem SearchInv.found {n : Nat} {K : Nat → Int} {lo hi : Int} {m : Nat} (HM : ∀ i j, i < j → j < n → K i < K j) (h : SearchInv n K (K m) lo hi) (_h1 : lo ≤ (m : Int)) (h2 : (m : Int) ≤ hi) : (∀ i, i < m → K i < K m) ∧ (∀ i, m ≤ i → i < n → K m ≤ K i) := by
  obtain ⟨a, b, c, d, e⟩ := h
  refine ⟨fun i hi' => HM i m hi' (by omega), fun i hi' hin => ?_⟩
  by_cases him : i = m
  · subst him; omega
  · have := HM m i (by omega) hin; omega
theorem SearchInv.done {n : Nat} {K : Nat → Int} {k hi : Int} {p : Nat} (h : SearchInv n K k p hi) (hp : hi < p) : (∀ i, i < p → K i < k) ∧ (∀ i, p ≤ i → i < n → k ≤ K i) := by
  obtain ⟨a, b, c, d, e⟩ := h
  refine ⟨fun i hi' => d i (by omega), fun i hi' hin => ?_⟩
  have := e i (by omega) hin; omega

set_option maxRecDepth 100000 in
set_option maxHeartbeats 400000 in
theorem keySearch_any (kb n cap : Nat) (K V : Nat → Int) (k v : Int) (w : World) (hn : n ≤ 12) (hkb : kb < w.heap.size)
    (hc : ∀ i, i < n → w.cell? ⟨kb, i, none⟩ = some (.iface 84 (.agg #[.int .i64 (K i), .int .i64 (V i)])))
    (hmono : ∀ i j, i < j → j < n → K i < K j) :
    Calls Tryz.prog 57 #[.slice (some ⟨kb, 0, none⟩) n cap, .iface 84 (.agg #[.int .i64 k, .int .i64 v])] w (FoundAt n K k w) := by
  have HC := Lib.hid hc; clear hc
  have HM := Lib.hid hmono; clear hmono
  go_enter Tryz.func57, Tryz.ntmps57
  go_wp2
  go_loopg [5, 6] (n + 1) (fun kx s5 s6 wr => ∃ lo hi : Int, s5 = .int .i64 lo ∧ s6 = .int .i64 hi ∧ 0 ≤ lo ∧ hi < n ∧ lo ≤ hi + 1 ∧ (hi + 1 - lo).toNat ≤ kx ∧ Hid (SearchInv n K k lo hi) ∧ Below w.heap.size w wr)
  case atStart =>
    refine ⟨0, n - 1, rfl, rfl, by omega, by omega, by omega, by omega, ?_, Below.refl _ _⟩
    exact ⟨by omega, by omega, by omega, fun i hi => by omega, fun i hi hin => by omega⟩
  case round =>
    obtain ⟨lo, hi, rfl, rfl, hlo, hhi, hle, hg, I, hB⟩ := hrel
    by_cases hlt : lo ≤ hi
    · obtain ⟨m, hm⟩ : ∃ m : Nat, (hi + lo) / 2 = (m : Int) := ⟨((hi + lo) / 2).toNat, by omega⟩
      have hm1 : lo ≤ (m : Int) := by omega
      have hm2 : (m : Int) ≤ hi := by omega
      have hmn : m < n := by omega
      have hcm : wr.cell? ⟨kb, m, none⟩ = some (.iface 84 (.agg #[.int .i64 (K m), .int .i64 (V m)])) := by rw [hB.cell (p := ⟨kb, m, none⟩) hkb]; exact HC.out m hmn
      have hcall := compare_any (K m) (V m) k v wr
      rcases Int.lt_trichotomy (K m) k with hK | hK | hK
      · rw [cmpK_gt hK] at hcall
        have I2 : Hid (SearchInv n K k (m + 1) hi) := SearchInv.right HM.out I.out hm1 hm2 hK
        go_wp2_with (go_at_call 98; refine hcall.mono ?_; rintro e w' ⟨rfl, hB2⟩)
        go_roundg (hi + 1 - (m + 1)).toNat
        case measure => omega
        case rel => exact ⟨m + 1, hi, rfl, rfl, by omega, by omega, by omega, by omega, I2, hB.trans (hB2.mono hB.size)⟩
      · subst hK
        rw [cmpK_eq] at hcall
        have I2 := SearchInv.found HM.out I.out hm1 hm2
        have HF := Lib.hid I2; clear I2
        go_wp2_with (go_at_call 98; refine hcall.mono ?_; rintro e w' ⟨rfl, hB2⟩)
        go_ret
        exact ⟨m, by omega, HF.out.1, HF.out.2, rfl, hB.trans (hB2.mono hB.size)⟩
      · rw [cmpK_lt hK] at hcall
        have I2 : Hid (SearchInv n K k lo (m - 1)) := SearchInv.left HM.out I.out hm1 hm2 hK
        go_wp2_with (go_at_call 98; refine hcall.mono ?_; rintro e w' ⟨rfl, hB2⟩)
        go_roundg (m - 1 + 1 - lo : Int).toNat
        case measure => omega
        case rel => exact ⟨lo, m - 1, rfl, rfl, by omega, by omega, by omega, by omega, I2, hB.trans (hB2.mono hB.size)⟩
    · obtain ⟨p, hp⟩ : ∃ p : Nat, lo = (p : Int) := ⟨lo.toNat, by omega⟩
      subst hp
      have HF := Lib.hid (SearchInv.done I.out (by omega))
      go_wp2
      go_ret
      exact ⟨p, by omega, HF.out.1, HF.out.2, rfl, hB⟩
end Go.Proofs.YtegejfhomocloaaGreat

/- Frames of calls over a footprint: what a call may turn, and what it leaves as it was. Plain lemmas on worlds; no program in sight. -/
namespace Go.Proofs.YtegejfhomocloaaGreat
open Go.RowKit

/-- w' is w, but for new blocks and the old blocks of which F speaks. -/
structure Keeps (F : Nat → Prop) (w w' : World) : Prop where
  os : w'.os = w.os
  tape : w'.tape = w.tape
  output : w'.output = w.output
  size : w.heap.size ≤ w'.heap.size
  block : ∀ k, k < w.heap.size → ¬ F k → w'.heap[k]? = w.heap[k]?

namespace Keeps
variable {F G : Nat → Prop} {w w1 w2 : World}

theorem refl (F : Nat → Prop) (w : World) : Keeps F w w := ⟨rfl, rfl, rfl, Nat.le_refl _, fun _ _ _ => rfl⟩

/-- A further step, which may turn what F speaks of, and whatever is new. -/
theorem trans (h : Keeps F w w1) (k : Keeps G w1 w2) (hG : ∀ b, b < w.heap.size → G b → F b) : Keeps F w w2 :=
  ⟨k.os.trans h.os, k.tape.trans h.tape, k.output.trans h.output, Nat.le_trans h.size k.size,
   fun b hb hF => (k.block b (Nat.lt_of_lt_of_le hb h.size) (fun g => hF (hG b hb g))).trans (h.block b hb hF)⟩

theorem mono (h : Keeps F w w1) (hF : ∀ b, b < w.heap.size → F b → G b) : Keeps G w w1 :=
  ⟨h.os, h.tape, h.output, h.size, fun b hb hn => h.block b hb fun f => hn (hF b hb f)⟩

theorem of_below {B : Nat} (h : Below B w w1) (hB : ∀ b, b < w.heap.size → B ≤ b → F b) : Keeps F w w1 :=
  ⟨h.os, h.tape, h.output, h.size, fun b hb hn => h.block b (by
    rcases Nat.lt_or_ge b B with h | h
    · exact h
    · exact absurd (hB b hb h) hn)⟩

theorem of_new (h : Below w.heap.size w w1) : Keeps F w w1 := of_below h fun _ hb hle => by omega

theorem of_grown {row : Option Nat} (h : w.grownBy w1 row) (hr : ∀ k, row = some k → k < w.heap.size → F k) : Keeps F w w1 :=
  ⟨h.os, h.tape, h.output, h.size, fun b hb hn => h.block b hb fun e => hn (hr b e.symm hb)⟩

theorem alloc (h : Keeps F w w1) (o : Obj) : Keeps F w (w1.alloc o) :=
  ⟨h.os, h.tape, h.output, by simp; have := h.size; omega, fun b hb hn => by
    rw [Below.heap_alloc w1 o b (Nat.lt_of_lt_of_le hb h.size)]; exact h.block b hb hn⟩

theorem drew (h : Keeps F w w1) : Keeps F w w1.drew := ⟨h.os, h.tape, h.output, h.size, h.block⟩
theorem drewN (h : Keeps F w w1) (n : Nat) : Keeps F w (w1.drewN n) := ⟨h.os, h.tape, h.output, h.size, h.block⟩

theorem setCell (h : Keeps F w w1) (a : Addr) (v : Value) (ha : a.block < w.heap.size → F a.block) : Keeps F w (w1.setCell a v) :=
  ⟨h.os, h.tape, h.output, by simp [World.setCell]; exact h.size, fun b hb hn => by
    rw [heap_setCell_other w1 a b v (fun e => hn (by subst e; exact ha hb))]; exact h.block b hb hn⟩

theorem setRow (h : Keeps F w w1) (g : Nat) (cs : Array Value) (ha : g < w.heap.size → F g) : Keeps F w (w1.setRow g cs) :=
  ⟨h.os, h.tape, h.output, by simp; exact h.size, fun b hb hn => by
    rw [setRow_other w1 g b cs (fun e => hn (by subst e; exact ha hb))]; exact h.block b hb hn⟩

theorem grown (h : Keeps F w w1) {row : Option Nat} (k : w1.grownBy w2 row) (hr : ∀ b, row = some b → b < w.heap.size → F b) : Keeps F w w2 :=
  h.trans (of_grown (F := fun b => row = some b) k fun _ hb _ => hb) fun b hb hF => hr b hF hb

theorem grownNew (h : Keeps F w w1) {g : Nat} (k : w1.grownBy w2 (some g)) (hg : w.heap.size ≤ g) : Keeps F w w2 :=
  h.grown k fun b hb hlt => by have : g = b := Option.some.inj hb; omega
theorem grownIn (h : Keeps F w w1) {g : Nat} (k : w1.grownBy w2 (some g)) (hg : F g) : Keeps F w w2 :=
  h.grown k fun b hb _ => by have : g = b := Option.some.inj hb; rw [← this]; exact hg
theorem grownNone (h : Keeps F w w1) (k : w1.grownBy w2 none) : Keeps F w w2 :=
  h.grown k fun b hb _ => by cases hb
theorem setIn (h : Keeps F w w1) (b o : Nat) (v : Value) (hb : F b) : Keeps F w (w1.setCell ⟨b, o, none⟩ v) := h.setCell _ _ fun _ => hb
theorem setNew (h : Keeps F w w1) (b o : Nat) (v : Value) (hb : w.heap.size ≤ b) : Keeps F w (w1.setCell ⟨b, o, none⟩ v) := h.setCell _ _ fun hlt => absurd hlt (Nat.not_lt.2 hb)

theorem ofDrew (h : Keeps F w.drew w1) : Keeps F w w1 := ⟨h.os, h.tape, h.output, h.size, h.block⟩
theorem new (h : Keeps F w w1) (k : Below w1.heap.size w1 w2) : Keeps F w w2 := h.trans (of_new (F := F) k) fun _ _ f => f

/-- Nothing but new blocks: what lies below a number stays. -/
theorem below (h : Keeps F w w1) {B : Nat} (hB : B ≤ w.heap.size) (hF : ∀ b, b < B → ¬ F b) : Below B w w1 :=
  ⟨h.os, h.tape, h.output, h.size, fun b hb => h.block b (by omega) (hF b hb)⟩

theorem heap (h : Keeps F w w1) {b : Nat} {o : Obj} (hb : w.heap[b]? = some o) (hF : ¬ F b) : w1.heap[b]? = some o := by
  rw [h.block b (lt_of_block hb) hF]; exact hb

theorem cell (h : Keeps F w w1) {p : Addr} {v : Value} (hp : w.cell? p = some v) (hF : ¬ F p.block) : w1.cell? p = some v := by
  rw [World.cell?_of_block (h.block p.block (World.block_lt_of_cell? w p hp) hF)]; exact hp

theorem row (h : Keeps F w w1) {base : Nat} {e : TypeId} {size : Nat} {v : Value} {n : Nat} {xs : List Value} (ho : w.ownsRow base e size v n xs) (hF : ∀ b, v.ownBlock = some b → ¬ F b) : w1.ownsRow base e size v n xs := by
  refine ⟨ho.1, ?_⟩
  rcases ho.2 with h2 | ⟨g, cap, cur, hv, hb, hg, r⟩
  · exact .inl h2
  · exact .inr ⟨g, cap, cur, hv, hb, h.heap hg (hF g (by rw [hv]; rfl)), r⟩
end Keeps

/-- A block that is known whole. -/
theorem cell_at {w : World} {b : Nat} {cs : Array Value} {t : TypeId} {fr : Nat × Nat} (h : w.heap[b]? = some (.cells cs t fr)) (o : Nat) : w.cell? ⟨b, o, none⟩ = cs[o]? := cell_of_row w b o cs t fr h
theorem free_at {w : World} {b : Nat} {cs : Array Value} {t : TypeId} (h : w.heap[b]? = some (.cells cs t (0, 0))) (o : Nat) : w.frozen? ⟨b, o, none⟩ = false := frozen_of_row w b o cs t h

theorem grown_heap {w w1 : World} {row : Option Nat} (hg : w.grownBy w1 row) {b : Nat} {o : Obj} (h : w.heap[b]? = some o) (hne : some b ≠ row) : w1.heap[b]? = some o := by
  rw [hg.block b (lt_of_block h) hne]; exact h
theorem alloc_heap (w : World) (o' : Obj) {b : Nat} {o : Obj} (h : w.heap[b]? = some o) : (w.alloc o').heap[b]? = some o := by
  rw [Below.heap_alloc w o' b (lt_of_block h)]; exact h
theorem set_heap (w : World) (a : Addr) (v : Value) {b : Nat} {o : Obj} (h : w.heap[b]? = some o) (hne : b ≠ a.block) : (w.setCell a v).heap[b]? = some o := by
  rw [heap_setCell_other w a b v hne]; exact h

theorem alloc_at (w : World) (o : Obj) (n : Nat) (h : n = w.heap.size) : (w.alloc o).heap[n]? = some o := by
  subst h
  show (w.heap.push o)[w.heap.size]? = some o
  simp
/-- A place of an owned row holds something. -/
theorem row_some {w : World} {base : Nat} {e : TypeId} {size g n cap : Nat} {xs : List Value} (h : w.ownsRow base e size (.slice (some ⟨g, 0, none⟩) n cap) n xs) (j : Nat) (hj : j < n * size) : ∃ u, w.cell? ⟨g, j, none⟩ = some u := by
  refine ⟨xs[j]'(by rw [h.1]; exact hj), ?_⟩
  rw [h.cellAt j hj]; exact List.getElem?_eq_getElem _
theorem one_of {x : Value} (h : x.oneCell' = true) : ∀ u ∈ [x], u.oneCell' = true := fun u hu => by
  rw [List.mem_singleton] at hu; subst hu; exact h
theorem ne_row {a b : Nat} (h : a ≠ b) : some a ≠ some b := fun e => h (Option.some.inj e)

#print axioms Keeps.row
end Go.Proofs.YtegejfhomocloaaGreat

/- Laws for inserting into a slice that lies in one row: append of a zero, copy by one place, store. -/
namespace Go.Proofs.YtegejfhomocloaaGreat
open Go.RowKit

/-- A list with one element more at a place. -/
def ins {α : Type} (xs : List α) (i : Nat) (x : α) : List α := xs.take i ++ x :: xs.drop i

theorem ins_length {α : Type} (xs : List α) (i : Nat) (x : α) (h : i ≤ xs.length) : (ins xs i x).length = xs.length + 1 := by simp [ins]; omega

theorem ins_set {α : Type} (xs : List α) (i : Nat) (x : α) (h : i < xs.length) : (xs.take (i + 1) ++ xs.drop i).set i x = ins xs i x := by
  unfold ins
  rw [List.set_append_left _ _ (by rw [List.length_take]; omega)]
  have : (xs.take (i + 1)).set i x = xs.take i ++ [x] := by
    rw [List.take_succ_eq_append_getElem h, List.set_append_right _ _ (by rw [List.length_take]; omega)]
    simp [Nat.min_eq_left (Nat.le_of_lt h)]
  rw [this]
  simp

section
variable {P : Program}

theorem run_copy_ins (w : World) (dT sT ty elem : TypeId) (base : Nat) (e : TypeId) (g n cap i : Nat) (xs : List Value) (z : Value) (dLen dCap sLen sCap : Nat)
    (hu : P.underlying dT = some (.slice elem)) (hs : (P.info? elem).map (·.size) = some 1) (hx : xs.length = n) (hi : i < n)
    (hown : w.ownsRow base e 1 (.slice (some ⟨g, 0, none⟩) (n + 1) cap) (n + 1) (xs ++ [z])) (h1 : ∀ v ∈ xs, v.oneCell' = true) (hd : Nat.min sLen dLen = n - i) :
    ∃ w', (Builtin.copy_ #[dT, sT] ty #[.slice (some ⟨g, i + 1, none⟩) dLen dCap, .slice (some ⟨g, i, none⟩) sLen sCap]).run P w = .ok (goInt ((n - i : Nat) : Int)) w' ∧
      w'.ownsRow base e 1 (.slice (some ⟨g, 0, none⟩) (n + 1) cap) (n + 1) (xs.take (i + 1) ++ xs.drop i) ∧ w.grownBy w' (some g) := by
  rcases hown.2 with ⟨h', _⟩ | ⟨g', cap', cur, h', hb, hg, hnc, hcm, hcs, htake⟩
  · simp at h'
  · simp only [Value.slice.injEq, Option.some.injEq, Addr.mk.injEq, and_true, true_and] at h'
    obtain ⟨rfl, rfl⟩ := h'
    have hlen : (xs.drop i).length = n - i := by simp [hx]
    have hget : ∀ j, j < n → cur[j]? = xs[j]? := by
      intro j hj
      have : (cur.toList.take ((n + 1) * 1))[j]? = (xs ++ [z])[j]? := by rw [htake]
      rw [List.getElem?_take, if_pos (by omega), List.getElem?_append_left (by omega)] at this
      rw [← this]; simp
    have hrun := run_copy_row (P := P) w dT sT ty elem g (i + 1) dLen dCap ⟨g, i, none⟩ sLen sCap cur e (xs.drop i) hu hs hg (by rw [hlen, hd])
      (fun j v hv => by
        have hjl : j < (xs.drop i).length := (List.getElem?_eq_some_iff.1 hv).1
        rw [Addr.add_lit, cell_of_row w g _ cur e (0, 0) hg, hget _ (by omega)]
        rw [List.getElem?_drop] at hv
        exact hv)
      (by rw [hlen]; omega) (fun v hv => h1 v (List.mem_of_mem_drop hv))
    rw [hlen] at hrun
    refine ⟨_, hrun, ⟨by simp [hx]; omega, .inr ⟨g, cap, _, rfl, hb, setRow_heap w g cur _ e _ hg, hnc, hcm, ?_, ?_⟩⟩, ⟨rfl, rfl, rfl, by simp, fun k _ hk => setRow_other w g k _ (fun e => hk (by simp [e]))⟩⟩
    · simp [hx]; omega
    · have e1 : cur.toList.take (i + 1) = xs.take (i + 1) := by
        have : (cur.toList.take ((n + 1) * 1)).take (i + 1) = (xs ++ [z]).take (i + 1) := by rw [htake]
        rw [List.take_take, Nat.min_eq_left (by omega), List.take_append_of_le_length (by omega)] at this
        exact this
      rw [e1]
      show List.take ((n + 1) * 1) (xs.take (i + 1) ++ xs.drop i ++ _) = _
      have hl2 : (xs.take (i + 1) ++ xs.drop i).length = (n + 1) * 1 := by simp [hx]; omega
      rw [← hl2]; exact List.take_left

theorem step_copy_ins {ops : Array Oper} {o : Oper} {a : Act} {w : World} {K : Act → World → Prop} {Q : Exit → Act → World → Prop} {E : Prop} (hgd : o.guard = none) (d s : Operand) (dT sT : TypeId)
    (ho : o.op = .call { callee := .builtin .copy, args := #[d, s], argTypes := #[dT, sT] }) (elem : TypeId) (base : Nat) (e : TypeId) (g n cap i : Nat) (xs : List Value) (z : Value) (dLen dCap sLen sCap : Nat)
    (hu : P.underlying dT = some (.slice elem)) (hsz : (P.info? elem).map (·.size) = some 1) (hx : xs.length = n) (hi : i < n)
    (hd : a.eval d = .slice (some ⟨g, i + 1, none⟩) dLen dCap) (hs : a.eval s = .slice (some ⟨g, i, none⟩) sLen sCap)
    (hown : w.ownsRow base e 1 (.slice (some ⟨g, 0, none⟩) (n + 1) cap) (n + 1) (xs ++ [z])) (h1 : ∀ v ∈ xs, v.oneCell' = true) (hmin : Nat.min sLen dLen = n - i)
    (h : ∀ w', w'.ownsRow base e 1 (.slice (some ⟨g, 0, none⟩) (n + 1) cap) (n + 1) (xs.take (i + 1) ++ xs.drop i) → w.grownBy w' (some g) → K (a.put o.dst (goInt ((n - i : Nat) : Int))) w') :
    if Region.wanted o (yielded ops a.tmps) = true then Oper.wp P o a w K Q else E := by
  have hw : Region.wanted o (yielded ops a.tmps) = true := by simp [Region.wanted, hgd]
  rw [if_pos hw]
  obtain ⟨w', hrun, h2, h3⟩ := run_copy_ins (P := P) w dT sT o.type elem base e g n cap i xs z dLen dCap sLen sCap hu hsz hx hi hown h1 hmin
  unfold Oper.wp
  simp only [execOp, ho, resolve, invoke, builtin, Sem.run_bind, Sem.run_pure, Result.andThen_ok, List.map_toArray, List.map_cons, List.map_nil, hd, hs, hrun]
  exact h w' h2 h3
/-- A row that is known whole, its first n places. -/
theorem row_made {w : World} {g : Nat} {e : TypeId} {cs : Array Value} (hg : w.heap[g]? = some (.cells cs e (0, 0))) (n c : Nat) (hc : cs.size = c) (hn : n ≤ c) (hm : c ≤ maxLen) :
    w.ownsRow 0 e 1 (.slice (some ⟨g, 0, none⟩) n c) n (cs.toList.take n) :=
  ⟨by simp; omega, .inr ⟨g, c, cs, rfl, Nat.zero_le _, hg, hn, hm, by omega, by simp⟩⟩

theorem run_copy_into (w : World) (dT sT ty elem : TypeId) (base : Nat) (e : TypeId) (g n cap : Nat) (zs cs : List Value) (ad : Addr) (sLen sCap : Nat)
    (hu : P.underlying dT = some (.slice elem)) (hs : (P.info? elem).map (·.size) = some 1) (hown : w.ownsRow base e 1 (.slice (some ⟨g, 0, none⟩) n cap) n zs)
    (hn : cs.length = n) (hmin : Nat.min sLen n = n) (hsrc : ∀ j v, cs[j]? = some v → w.cell? (ad.add j) = some v) (h1 : ∀ v ∈ cs, v.oneCell' = true) :
    ∃ w', (Builtin.copy_ #[dT, sT] ty #[.slice (some ⟨g, 0, none⟩) n cap, .slice (some ad) sLen sCap]).run P w = .ok (goInt (n : Int)) w' ∧
      w'.ownsRow base e 1 (.slice (some ⟨g, 0, none⟩) n cap) n cs ∧ w.grownBy w' (some g) := by
  rcases hown.2 with ⟨h', _⟩ | ⟨g', cap', cur, h', hb, hg, hnc, hcm, hcs, htake⟩
  · simp at h'
  · simp only [Value.slice.injEq, Option.some.injEq, Addr.mk.injEq, and_true, true_and] at h'
    obtain ⟨rfl, rfl⟩ := h'
    have hrun := run_copy_row (P := P) w dT sT ty elem g 0 n cap ad sLen sCap cur e cs hu hs hg (by rw [hn, hmin]) hsrc (by omega) h1
    rw [hn] at hrun
    refine ⟨_, hrun, ⟨by omega, .inr ⟨g, cap, _, rfl, hb, setRow_heap w g cur _ e _ hg, hnc, hcm, ?_, ?_⟩⟩, ⟨rfl, rfl, rfl, by simp, fun k _ hk => setRow_other w g k _ (fun e => hk (by simp [e]))⟩⟩
    · simp; omega
    · simp only [List.take_zero, List.nil_append]
      rw [show n * 1 = cs.length by omega]; exact List.take_left

theorem wpList_copy_into {w : World} {ops : Array Oper} {rest : List Oper} {o : Oper} {a : Act} {Q : Exit → Act → World → Prop} (hgd : o.guard = none) (d s : Operand) (dT sT : TypeId)
    (ho : o.op = .call { callee := .builtin .copy, args := #[d, s], argTypes := #[dT, sT] }) (elem : TypeId) (base : Nat) (e : TypeId) (g n cap : Nat) (zs cs : List Value) (ad : Addr) (sLen sCap : Nat)
    (hu : P.underlying dT = some (.slice elem)) (hsz : (P.info? elem).map (·.size) = some 1)
    (hd : a.eval d = .slice (some ⟨g, 0, none⟩) n cap) (hs : a.eval s = .slice (some ad) sLen sCap)
    (hown : w.ownsRow base e 1 (.slice (some ⟨g, 0, none⟩) n cap) n zs) (hn : cs.length = n) (hmin : Nat.min sLen n = n)
    (hsrc : ∀ j v, cs[j]? = some v → w.cell? (ad.add j) = some v) (h1 : ∀ v ∈ cs, v.oneCell' = true)
    (h : ∀ w', w'.ownsRow base e 1 (.slice (some ⟨g, 0, none⟩) n cap) n cs → w.grownBy w' (some g) → wpList P ops Q rest (a.put o.dst (goInt (n : Int))) w') :
    wpList P ops Q (o :: rest) a w := by
  refine wpList_plain hgd fun K hK => ?_
  obtain ⟨w', hrun, h2, h3⟩ := run_copy_into (P := P) w dT sT o.type elem base e g n cap zs cs ad sLen sCap hu hsz hown hn hmin hsrc h1
  unfold Oper.wp
  simp only [execOp, ho, resolve, invoke, builtin, Sem.run_bind, Sem.run_pure, Result.andThen_ok, List.map_toArray, List.map_cons, List.map_nil, hd, hs, hrun]
  exact hK _ _ (h w' h2 h3)
end
/-- The cells of a part of a row. -/
theorem row_part {w : World} {base : Nat} {e : TypeId} {g n cap : Nat} {xs : List Value} (h : w.ownsRow base e 1 (.slice (some ⟨g, 0, none⟩) n cap) n xs) (i : Nat) (cs : List Value) (hc : ∀ j v, cs[j]? = some v → xs[i + j]? = some v) :
    ∀ j v, cs[j]? = some v → w.cell? ((⟨g, i, none⟩ : Addr).add j) = some v := by
  intro j v hj
  have hx := hc j v hj
  have hl : i + j < xs.length := (List.getElem?_eq_some_iff.1 hx).1
  rw [Addr.add_lit, h.cellAt (i + j) (by rw [← h.1]; exact hl)]
  exact hx
#print axioms wpList_copy_into
#print axioms step_copy_ins
end Go.Proofs.YtegejfhomocloaaGreat

/- Small laws beside the frames. -/
namespace Go.Proofs.YtegejfhomocloaaGreat
open Go.RowKit

theorem cell_new_at {w : World} {x : Value} {t : TypeId} {n : Nat} (h : n = w.heap.size) : ∀ j u, [x][j]? = some u → (w.alloc (.cells #[x] t)).cell? ((⟨n, 0, none⟩ : Addr).add j) = some u := by
  subst h; exact cell_one_new w x t
theorem size_set1 (w : World) (a : Addr) (v : Value) : w.heap.size = (w.setCell a v).heap.size := (World.size_setCell _ _ _).symm
theorem ownNot {F : Nat → Prop} {g n c : Nat} (h : ¬ F g) : ∀ b, (Value.slice (some ⟨g, 0, none⟩) n c).ownBlock = some b → ¬ F b := fun b hb f => h (by
  have h7 : g = b := Option.some.inj hb
  rw [h7]; exact f)
end Go.Proofs.YtegejfhomocloaaGreat

namespace Go.Proofs.YtegejfhomocloaaGreat
open Go.RowKit

theorem info78 : (Tryz.prog.info? 78).map (fun i => (i.zero, i.size, i.bytes)) = some (some .nilIface, 1, 16) := by kernel_rfl

/-- What an insertion through a pointer at a slice with room leaves. -/
def InsAt (E : TypeId) (pb po g n cap : Nat) (xs : List Value) (cs : Array Value) (t : TypeId) (i : Nat) (x : Value) (w : World) (e : Ending) (w' : World) : Prop :=
  e = .returned (.tuple #[]) ∧ w'.heap[pb]? = some (.cells (cs.setIfInBounds po (.slice (some ⟨g, 0, none⟩) (n + 1) cap)) t (0, 0)) ∧
    w'.ownsRow 0 E 1 (.slice (some ⟨g, 0, none⟩) (n + 1) cap) (n + 1) (ins xs i x) ∧ Keeps (fun b => b = pb ∨ b = g) w w'

set_option maxRecDepth 100000 in
set_option maxHeartbeats 400000 in
theorem insertAt58 (pb po g n cap : Nat) (xs : List Value) (cs : Array Value) (t : TypeId) (i : Nat) (k v : Int) (w : World)
    (hP : w.heap[pb]? = some (.cells cs t (0, 0))) (hpo : cs[po]? = some (.slice (some ⟨g, 0, none⟩) n cap))
    (hrow : w.ownsRow 0 78 1 (.slice (some ⟨g, 0, none⟩) n cap) n xs) (hne : pb ≠ g) (hi : i < n) (hn : n < cap) (hcap : cap ≤ 1000) (hone : ∀ u ∈ xs, u.oneCell' = true) :
    Calls Tryz.prog 58 #[.pointer (some ⟨pb, po, none⟩), .int .i64 i, .iface 84 (.agg #[.int .i64 k, .int .i64 v])] w
      (InsAt 78 pb po g n cap xs cs t i (.iface 84 (.agg #[.int .i64 k, .int .i64 v])) w) := by
  obtain ⟨i0, hi0, hz0, hz1, hz2⟩ := info_parts info78
  have c0 : w.cell? ⟨pb, po, none⟩ = some (.slice (some ⟨g, 0, none⟩) n cap) := by rw [cell_at hP]; exact hpo
  have f0 : w.frozen? ⟨pb, po, none⟩ = false := free_at hP po
  have hgl := (hrow.lt g rfl).2
  have hin : ((i : Int) == (n : Int)) = false := by simp; omega
  have HP := Lib.hid hP; clear hP
  have HPO := Lib.hid hpo; clear hpo
  have HR := Lib.hid hrow; clear hrow
  have HO := Lib.hid hone; clear hone
  go_enter Tryz.func58, Tryz.ntmps58
  go_wp2_with (at_builtin; (refine wpList_append_fits _ rfl _ _ _ rfl 0 78 i0 1 Tryz.underlying197 hi0 hz1 g n cap xs rfl (HR.out.alloc _) ⟨w.heap.size, 0, none⟩ 1 1 [.nilIface] rfl (by rfl) (cell_one_new _ _ _) (one_of rfl) (by omega) ?_; intro w1 hown1 hgrow1; have hP1 := grown_heap hgrow1 (alloc_heap _ _ HP.out) (ne_row hne); have c1 : w1.cell? ⟨pb, po, none⟩ = some (.slice (some ⟨g, 0, none⟩) n cap) := (cell_at hP1 po).trans HPO.out; have f1 : w1.frozen? ⟨pb, po, none⟩ = false := free_at hP1 po; have HP1 := Lib.hid hP1; clear hP1; have HO1 := Lib.hid hown1; clear hown1))
  have k2 : Keeps (fun b => b = pb ∨ b = g) w (w1.setCell ⟨pb, po, none⟩ (.slice (some ⟨g, 0, none⟩) (n + 1) cap)) := Keeps.setCell (Keeps.grown ((Keeps.refl _ _).alloc _) hgrow1 (by intro b hb _; right; exact (Option.some.inj hb).symm)) _ _ (fun _ => Or.inl rfl)
  have hP2 := heap_setCell_same w1 pb po cs t (.slice (some ⟨g, 0, none⟩) (n + 1) cap) HP1.out
  have hO2 := ownsRow_setCell_other HO1.out (a := ⟨pb, po, none⟩) (by simp [Value.ownBlock]; omega) (.slice (some ⟨g, 0, none⟩) (n + 1) cap)
  generalize w1.setCell ⟨pb, po, none⟩ (.slice (some ⟨g, 0, none⟩) (n + 1) cap) = W2 at k2 hP2 hO2 ⊢
  have hpo2 : (cs.setIfInBounds po (.slice (some ⟨g, 0, none⟩) (n + 1) cap))[po]? = some (.slice (some ⟨g, 0, none⟩) (n + 1) cap) := by
    have := (Array.getElem?_eq_some_iff.1 HPO.out).1
    simp [this]
  have c2 : W2.cell? ⟨pb, po, none⟩ = some (.slice (some ⟨g, 0, none⟩) (n + 1) cap) := (cell_at hP2 po).trans hpo2
  have q1 : ¬ cap = i := by omega
  have q2 : ¬ cap = i + 1 := by omega
  have HK2 := Lib.hid k2; clear k2
  have HP2 := Lib.hid hP2; clear hP2
  have HO2 := Lib.hid hO2; clear hO2
  have HPO2 := Lib.hid hpo2; clear hpo2
  clear c1 f1 c0 f0 hgrow1 HP1 HO1
  have e1 : IntKind.i64.wrap ((i : Int) + 1) = (i : Int) + 1 := IntWalk.i64_in _ (by omega)
  have e2 : (0 : Int) ≤ (i : Int) + 1 := by omega
  have e3 : (i : Int) + 1 ≤ (n : Int) + 1 := by omega
  have e4 : (n : Int) + 1 ≤ (cap : Int) := by omega
  have e5 : (i : Int) ≤ (n : Int) + 1 := by omega
  have e6 : ((i : Int) + 1).toNat = i + 1 := by omega
  have e7 : (0 : Int) ≤ (i : Int) := by omega
  have hsz : (Tryz.prog.info? 78).map (·.size) = some 1 := by rw [hi0]; exact congrArg some hz1
  have hxl : xs.length = n := by have := HR.out.1; omega
  have hmin : Nat.min (n + 1 - i) (n - i) = n - i := Nat.min_eq_right (by omega)
  have HMIN := Lib.hid hmin; clear hmin
  have HSZ := Lib.hid hsz; clear hsz
  have HXL := Lib.hid hxl; clear hxl
  go_region_held3 (fun w' => w'.cell? ⟨pb, po, none⟩ = some (.slice (some ⟨g, 0, none⟩) (n + 1) cap)) (first | go_keep | exact (hg3.cell c2 (by simp [hne]))) ((refine step_copy_ins rfl (.tmp 32) (.tmp 37) 197 197 rfl 78 0 78 g n cap i xs .nilIface (n - i) (cap - (i + 1)) (n + 1 - i) (cap - i) Tryz.underlying197 HSZ.out HXL.out hi (by rfl) (by rfl) HO2.out.drew HO.out HMIN.out ?_; intro w3 hO3 hg3))
  have hP3 := grown_heap hg3 HP2.out (ne_row hne)
  have c3 : w3.cell? ⟨pb, po, none⟩ = some (.slice (some ⟨g, 0, none⟩) (n + 1) cap) := (cell_at hP3 po).trans HPO2.out
  obtain ⟨u4, c4⟩ := row_some hO3 i (by omega)
  have f4 := hO3.frozenAt i
  have HP3 := Lib.hid hP3; clear hP3
  have HO3 := Lib.hid hO3; clear hO3
  go_wp2
  go_end0
  refine ⟨rfl, set_heap _ _ _ HP3.out hne, ?_, (HK2.out.drew.grown hg3 ?_).setCell _ _ (fun _ => Or.inr rfl)⟩
  · rw [← ins_set xs i _ (by rw [HXL.out]; exact hi)]
    exact (HO3.out.stored i _).1
  · intro b hb _; right; exact (Option.some.inj hb).symm
set_option maxRecDepth 100000 in
set_option maxHeartbeats 400000 in
theorem insertAt58_end (pb po g n cap : Nat) (xs : List Value) (cs : Array Value) (t : TypeId) (k v : Int) (w : World)
    (hP : w.heap[pb]? = some (.cells cs t (0, 0))) (hpo : cs[po]? = some (.slice (some ⟨g, 0, none⟩) n cap))
    (hrow : w.ownsRow 0 78 1 (.slice (some ⟨g, 0, none⟩) n cap) n xs) (hne : pb ≠ g) (hn : n < cap) (_hcap : cap ≤ 1000) :
    Calls Tryz.prog 58 #[.pointer (some ⟨pb, po, none⟩), .int .i64 n, .iface 84 (.agg #[.int .i64 k, .int .i64 v])] w
      (InsAt 78 pb po g n cap xs cs t n (.iface 84 (.agg #[.int .i64 k, .int .i64 v])) w) := by
  obtain ⟨i0, hi0, hz0, hz1, hz2⟩ := info_parts info78
  have c0 : w.cell? ⟨pb, po, none⟩ = some (.slice (some ⟨g, 0, none⟩) n cap) := by rw [cell_at hP]; exact hpo
  have f0 : w.frozen? ⟨pb, po, none⟩ = false := free_at hP po
  have hgl := (hrow.lt g rfl).2
  have hng := ne_row hne
  have HP := Lib.hid hP; clear hP
  have HPO := Lib.hid hpo; clear hpo
  have HR := Lib.hid hrow; clear hrow
  have NG := Lib.hid hng; clear hng
  go_enter Tryz.func58, Tryz.ntmps58
  go_wp2_with (at_builtin; refine wpList_append_fits _ rfl _ _ _ rfl 0 78 i0 1 Tryz.underlying197 hi0 hz1 g n cap xs rfl (HR.out.alloc _) ⟨w.heap.size, 0, none⟩ 1 1 [.iface 84 (.agg #[.int .i64 k, .int .i64 v])] rfl (by rfl) (cell_one_new _ _ _) (one_of rfl) (by omega) ?_; intro w1 hown1 hgrow1; have hP1 := grown_heap hgrow1 (alloc_heap _ _ HP.out) NG.out; clear c0 f0; have c1 : w1.cell? ⟨pb, po, none⟩ = some (.slice (some ⟨g, 0, none⟩) n cap) := (cell_at hP1 po).trans HPO.out; have f1 : w1.frozen? ⟨pb, po, none⟩ = false := free_at hP1 po; have HP1 := Lib.hid hP1; clear hP1; have HO1 := Lib.hid hown1; clear hown1)
  go_end0
  refine ⟨rfl, heap_setCell_same w1 pb po cs t _ HP1.out, ?_, ((Keeps.alloc (Keeps.refl _ _) _).grownIn hgrow1 (Or.inr rfl)).setIn pb po _ (Or.inl rfl)⟩
  have hl := HR.out.1
  rw [Nat.mul_one] at hl
  have : ins xs n (.iface 84 (.agg #[.int .i64 k, .int .i64 v])) = xs ++ [.iface 84 (.agg #[.int .i64 k, .int .i64 v])] := by simp [ins, List.take_of_length_le (Nat.le_of_eq hl), List.drop_eq_nil_of_le (Nat.le_of_eq hl)]
  rw [this]
  exact ownsRow_setCell_other HO1.out (a := ⟨pb, po, none⟩) (Ne.symm NG.out) _

theorem insertAt58_any (pb po g n cap : Nat) (xs : List Value) (cs : Array Value) (t : TypeId) (i : Nat) (k v : Int) (w : World)
    (hP : w.heap[pb]? = some (.cells cs t (0, 0))) (hpo : cs[po]? = some (.slice (some ⟨g, 0, none⟩) n cap))
    (hrow : w.ownsRow 0 78 1 (.slice (some ⟨g, 0, none⟩) n cap) n xs) (hne : pb ≠ g) (hi : i ≤ n) (hn : n < cap) (hcap : cap ≤ 1000) (hone : ∀ u ∈ xs, u.oneCell' = true) :
    Calls Tryz.prog 58 #[.pointer (some ⟨pb, po, none⟩), .int .i64 i, .iface 84 (.agg #[.int .i64 k, .int .i64 v])] w
      (InsAt 78 pb po g n cap xs cs t i (.iface 84 (.agg #[.int .i64 k, .int .i64 v])) w) := by
  rcases Nat.lt_or_ge i n with h | h
  · exact insertAt58 pb po g n cap xs cs t i k v w hP hpo hrow hne h hn hcap hone
  · obtain rfl : i = n := by omega
    exact insertAt58_end pb po g i cap xs cs t k v w hP hpo hrow hne hn hcap

theorem info103 : (Tryz.prog.info? 103).map (fun i => (i.zero, i.size, i.bytes)) = some (some .nilIface, 1, 16) := by kernel_rfl

set_option maxRecDepth 100000 in
set_option maxHeartbeats 400000 in
theorem insertAt61 (pb po g n cap : Nat) (xs : List Value) (cs : Array Value) (t : TypeId) (i : Nat) (T : TypeId) (q : Option Addr) (w : World)
    (hP : w.heap[pb]? = some (.cells cs t (0, 0))) (hpo : cs[po]? = some (.slice (some ⟨g, 0, none⟩) n cap))
    (hrow : w.ownsRow 0 103 1 (.slice (some ⟨g, 0, none⟩) n cap) n xs) (hne : pb ≠ g) (hi : i < n) (hn : n < cap) (hcap : cap ≤ 1000) (hone : ∀ u ∈ xs, u.oneCell' = true) :
    Calls Tryz.prog 61 #[.pointer (some ⟨pb, po, none⟩), .int .i64 i, .iface T (.pointer q)] w
      (InsAt 103 pb po g n cap xs cs t i (.iface T (.pointer q)) w) := by
  obtain ⟨i0, hi0, hz0, hz1, hz2⟩ := info_parts info103
  have c0 : w.cell? ⟨pb, po, none⟩ = some (.slice (some ⟨g, 0, none⟩) n cap) := by rw [cell_at hP]; exact hpo
  have f0 : w.frozen? ⟨pb, po, none⟩ = false := free_at hP po
  have hgl := (hrow.lt g rfl).2
  have hin : ((i : Int) == (n : Int)) = false := by simp; omega
  have HP := Lib.hid hP; clear hP
  have HPO := Lib.hid hpo; clear hpo
  have HR := Lib.hid hrow; clear hrow
  have HO := Lib.hid hone; clear hone
  go_enter Tryz.func61, Tryz.ntmps61
  go_wp2_with (at_builtin; (refine wpList_append_fits _ rfl _ _ _ rfl 0 103 i0 1 Tryz.underlying207 hi0 hz1 g n cap xs rfl (HR.out.alloc _) ⟨w.heap.size, 0, none⟩ 1 1 [.nilIface] rfl (by rfl) (cell_one_new _ _ _) (one_of rfl) (by omega) ?_; intro w1 hown1 hgrow1; have hP1 := grown_heap hgrow1 (alloc_heap _ _ HP.out) (ne_row hne); have c1 : w1.cell? ⟨pb, po, none⟩ = some (.slice (some ⟨g, 0, none⟩) n cap) := (cell_at hP1 po).trans HPO.out; have f1 : w1.frozen? ⟨pb, po, none⟩ = false := free_at hP1 po; have HP1 := Lib.hid hP1; clear hP1; have HO1 := Lib.hid hown1; clear hown1))
  have k2 : Keeps (fun b => b = pb ∨ b = g) w (w1.setCell ⟨pb, po, none⟩ (.slice (some ⟨g, 0, none⟩) (n + 1) cap)) := Keeps.setCell (Keeps.grown ((Keeps.refl _ _).alloc _) hgrow1 (by intro b hb _; right; exact (Option.some.inj hb).symm)) _ _ (fun _ => Or.inl rfl)
  have hP2 := heap_setCell_same w1 pb po cs t (.slice (some ⟨g, 0, none⟩) (n + 1) cap) HP1.out
  have hO2 := ownsRow_setCell_other HO1.out (a := ⟨pb, po, none⟩) (by simp [Value.ownBlock]; omega) (.slice (some ⟨g, 0, none⟩) (n + 1) cap)
  generalize w1.setCell ⟨pb, po, none⟩ (.slice (some ⟨g, 0, none⟩) (n + 1) cap) = W2 at k2 hP2 hO2 ⊢
  have hpo2 : (cs.setIfInBounds po (.slice (some ⟨g, 0, none⟩) (n + 1) cap))[po]? = some (.slice (some ⟨g, 0, none⟩) (n + 1) cap) := by
    have := (Array.getElem?_eq_some_iff.1 HPO.out).1
    simp [this]
  have c2 : W2.cell? ⟨pb, po, none⟩ = some (.slice (some ⟨g, 0, none⟩) (n + 1) cap) := (cell_at hP2 po).trans hpo2
  have q1 : ¬ cap = i := by omega
  have q2 : ¬ cap = i + 1 := by omega
  have HK2 := Lib.hid k2; clear k2
  have HP2 := Lib.hid hP2; clear hP2
  have HO2 := Lib.hid hO2; clear hO2
  have HPO2 := Lib.hid hpo2; clear hpo2
  clear c1 f1 c0 f0 hgrow1 HP1 HO1
  have e1 : IntKind.i64.wrap ((i : Int) + 1) = (i : Int) + 1 := IntWalk.i64_in _ (by omega)
  have e2 : (0 : Int) ≤ (i : Int) + 1 := by omega
  have e3 : (i : Int) + 1 ≤ (n : Int) + 1 := by omega
  have e4 : (n : Int) + 1 ≤ (cap : Int) := by omega
  have e5 : (i : Int) ≤ (n : Int) + 1 := by omega
  have e6 : ((i : Int) + 1).toNat = i + 1 := by omega
  have e7 : (0 : Int) ≤ (i : Int) := by omega
  have hsz : (Tryz.prog.info? 103).map (·.size) = some 1 := by rw [hi0]; exact congrArg some hz1
  have hxl : xs.length = n := by have := HR.out.1; omega
  have hmin : Nat.min (n + 1 - i) (n - i) = n - i := Nat.min_eq_right (by omega)
  have HMIN := Lib.hid hmin; clear hmin
  have HSZ := Lib.hid hsz; clear hsz
  have HXL := Lib.hid hxl; clear hxl
  go_region_held3 (fun w' => w'.cell? ⟨pb, po, none⟩ = some (.slice (some ⟨g, 0, none⟩) (n + 1) cap)) (first | go_keep | exact (hg3.cell c2 (by simp [hne]))) ((refine step_copy_ins rfl (.tmp 32) (.tmp 37) 207 207 rfl 103 0 103 g n cap i xs .nilIface (n - i) (cap - (i + 1)) (n + 1 - i) (cap - i) Tryz.underlying207 HSZ.out HXL.out hi (by rfl) (by rfl) HO2.out.drew HO.out HMIN.out ?_; intro w3 hO3 hg3))
  have hP3 := grown_heap hg3 HP2.out (ne_row hne)
  have c3 : w3.cell? ⟨pb, po, none⟩ = some (.slice (some ⟨g, 0, none⟩) (n + 1) cap) := (cell_at hP3 po).trans HPO2.out
  obtain ⟨u4, c4⟩ := row_some hO3 i (by omega)
  have f4 := hO3.frozenAt i
  have HP3 := Lib.hid hP3; clear hP3
  have HO3 := Lib.hid hO3; clear hO3
  go_wp2
  go_end0
  refine ⟨rfl, set_heap _ _ _ HP3.out hne, ?_, (HK2.out.drew.grown hg3 ?_).setCell _ _ (fun _ => Or.inr rfl)⟩
  · rw [← ins_set xs i _ (by rw [HXL.out]; exact hi)]
    exact (HO3.out.stored i _).1
  · intro b hb _; right; exact (Option.some.inj hb).symm

set_option maxRecDepth 100000 in
set_option maxHeartbeats 400000 in
theorem insertAt61_end (pb po g n cap : Nat) (xs : List Value) (cs : Array Value) (t : TypeId) (T : TypeId) (q : Option Addr) (w : World)
    (hP : w.heap[pb]? = some (.cells cs t (0, 0))) (hpo : cs[po]? = some (.slice (some ⟨g, 0, none⟩) n cap))
    (hrow : w.ownsRow 0 103 1 (.slice (some ⟨g, 0, none⟩) n cap) n xs) (hne : pb ≠ g) (hn : n < cap) (_hcap : cap ≤ 1000) :
    Calls Tryz.prog 61 #[.pointer (some ⟨pb, po, none⟩), .int .i64 n, .iface T (.pointer q)] w
      (InsAt 103 pb po g n cap xs cs t n (.iface T (.pointer q)) w) := by
  obtain ⟨i0, hi0, hz0, hz1, hz2⟩ := info_parts info103
  have c0 : w.cell? ⟨pb, po, none⟩ = some (.slice (some ⟨g, 0, none⟩) n cap) := by rw [cell_at hP]; exact hpo
  have f0 : w.frozen? ⟨pb, po, none⟩ = false := free_at hP po
  have hgl := (hrow.lt g rfl).2
  have hng := ne_row hne
  have HP := Lib.hid hP; clear hP
  have HPO := Lib.hid hpo; clear hpo
  have HR := Lib.hid hrow; clear hrow
  have NG := Lib.hid hng; clear hng
  go_enter Tryz.func61, Tryz.ntmps61
  go_wp2_with (at_builtin; refine wpList_append_fits _ rfl _ _ _ rfl 0 103 i0 1 Tryz.underlying207 hi0 hz1 g n cap xs rfl (HR.out.alloc _) ⟨w.heap.size, 0, none⟩ 1 1 [.iface T (.pointer q)] rfl (by rfl) (cell_one_new _ _ _) (one_of rfl) (by omega) ?_; intro w1 hown1 hgrow1; have hP1 := grown_heap hgrow1 (alloc_heap _ _ HP.out) NG.out; clear c0 f0; have c1 : w1.cell? ⟨pb, po, none⟩ = some (.slice (some ⟨g, 0, none⟩) n cap) := (cell_at hP1 po).trans HPO.out; have f1 : w1.frozen? ⟨pb, po, none⟩ = false := free_at hP1 po; have HP1 := Lib.hid hP1; clear hP1; have HO1 := Lib.hid hown1; clear hown1)
  go_end0
  refine ⟨rfl, heap_setCell_same w1 pb po cs t _ HP1.out, ?_, ((Keeps.alloc (Keeps.refl _ _) _).grownIn hgrow1 (Or.inr rfl)).setIn pb po _ (Or.inl rfl)⟩
  have hl := HR.out.1
  rw [Nat.mul_one] at hl
  have : ins xs n (.iface T (.pointer q)) = xs ++ [.iface T (.pointer q)] := by simp [ins, List.take_of_length_le (Nat.le_of_eq hl), List.drop_eq_nil_of_le (Nat.le_of_eq hl)]
  rw [this]
  exact ownsRow_setCell_other HO1.out (a := ⟨pb, po, none⟩) (Ne.symm NG.out) _

theorem insertAt61_any (pb po g n cap : Nat) (xs : List Value) (cs : Array Value) (t : TypeId) (i : Nat) (T : TypeId) (q : Option Addr) (w : World)
    (hP : w.heap[pb]? = some (.cells cs t (0, 0))) (hpo : cs[po]? = some (.slice (some ⟨g, 0, none⟩) n cap))
    (hrow : w.ownsRow 0 103 1 (.slice (some ⟨g, 0, none⟩) n cap) n xs) (hne : pb ≠ g) (hi : i ≤ n) (hn : n < cap) (hcap : cap ≤ 1000) (hone : ∀ u ∈ xs, u.oneCell' = true) :
    Calls Tryz.prog 61 #[.pointer (some ⟨pb, po, none⟩), .int .i64 i, .iface T (.pointer q)] w
      (InsAt 103 pb po g n cap xs cs t i (.iface T (.pointer q)) w) := by
  rcases Nat.lt_or_ge i n with h | h
  · exact insertAt61 pb po g n cap xs cs t i T q w hP hpo hrow hne h hn hcap hone
  · obtain rfl : i = n := by omega
    exact insertAt61_end pb po g i cap xs cs t T q w hP hpo hrow hne hn hcap

end Go.Proofs.YtegejfhomocloaaGreat

namespace Go.Proofs.YtegejfhomocloaaGreat
open Go.RowKit

/-- A key as an interface value. -/
def keyV (x : Int × Int) : Value := .iface 84 (.agg #[.int .i64 x.1, .int .i64 x.2])
theorem keyV_one (ks : List (Int × Int)) : ∀ u ∈ ks.map keyV, u.oneCell' = true := by
  intro u hu
  obtain ⟨x, _, rfl⟩ := List.mem_map.1 hu
  rfl

structure Leaf where
  b : Nat
  g : Nat
  ks : List (Int × Int)

/-- A leaf in memory: its block, its row; the leaf behind it. -/
def LeafRep (w : World) (nx : Option Nat) (l : Leaf) : Prop :=
  w.heap[l.b]? = some (.cells #[.pointer (nx.map fun b => ⟨b, 0, none⟩), .slice (some ⟨l.g, 0, none⟩) l.ks.length 12] 199 (0, 0)) ∧
    w.ownsRow 0 78 1 (.slice (some ⟨l.g, 0, none⟩) l.ks.length 12) l.ks.length (l.ks.map keyV)

theorem LeafRep.keeps {w w' : World} {nx : Option Nat} {l : Leaf} {F : Nat → Prop} (h : LeafRep w nx l) (k : Keeps F w w') (hb : ¬ F l.b) (hg : ¬ F l.g) : LeafRep w' nx l :=
  ⟨k.heap h.1 hb, k.row h.2 (fun b hb' => by
    have : l.g = b := by simpa [Value.ownBlock] using hb'
    rw [← this]; exact hg)⟩
theorem LeafRep.ltb {w : World} {nx : Option Nat} {l : Leaf} (h : LeafRep w nx l) : l.b < w.heap.size := lt_of_block h.1
theorem LeafRep.ltg {w : World} {nx : Option Nat} {l : Leaf} (h : LeafRep w nx l) : l.g < w.heap.size := (h.2.lt l.g rfl).2

def kOf (ks : List (Int × Int)) (i : Nat) : Int := (ks.getD i (0, 0)).1
def vOf (ks : List (Int × Int)) (i : Nat) : Int := (ks.getD i (0, 0)).2

theorem row_keys {w : World} {g n cap : Nat} {ks : List (Int × Int)} (h : w.ownsRow 0 78 1 (.slice (some ⟨g, 0, none⟩) n cap) n (ks.map keyV)) (i : Nat) (hi : i < n) :
    w.cell? ⟨g, i, none⟩ = some (.iface 84 (.agg #[.int .i64 (kOf ks i), .int .i64 (vOf ks i)])) := by
  have hl := h.1
  rw [List.length_map, Nat.mul_one] at hl
  rw [h.cellAt i (by omega), List.getElem?_map, kOf, vOf, List.getD_eq_getElem?_getD, List.getElem?_eq_getElem (by omega)]
  rfl

theorem makeKeys12 (w : World) : (Instr.makeSlice 197 (.int .i64 0) (.int .u64 12)).run Tryz.prog w = .ok (.slice (some ⟨w.heap.size, 0, none⟩) 0 12) (w.alloc (.cells (Array.replicate 12 .nilIface) 78)) := by kernel_rfl
theorem makeKeys6 (w : World) : (Instr.makeSlice 197 (.int .i64 6) (.int .i64 12)).run Tryz.prog w = .ok (.slice (some ⟨w.heap.size, 0, none⟩) 6 12) (w.alloc (.cells (Array.replicate 12 .nilIface) 78)) := by kernel_rfl
theorem makeNodes13 (w : World) : (Instr.makeSlice 207 (.int .i64 0) (.int .u64 13)).run Tryz.prog w = .ok (.slice (some ⟨w.heap.size, 0, none⟩) 0 13) (w.alloc (.cells (Array.replicate 13 .nilIface) 103)) := by kernel_rfl
end Go.Proofs.YtegejfhomocloaaGreat

namespace Go.Proofs.YtegejfhomocloaaGreat
open Go.RowKit

theorem info_size78 : (Tryz.prog.info? 78).map (·.size) = some 1 := by kernel_rfl
theorem info_size103 : (Tryz.prog.info? 103).map (·.size) = some 1 := by kernel_rfl

/-- What a full leaf's split leaves: the lower half in a new leaf, the upper half in a new row of the old one. -/
def LeafSplit (l : Leaf) (nx : Option Nat) (w : World) (e : Ending) (w' : World) : Prop :=
  ∃ b' g' g'' : Nat, e = .returned (.tuple #[.iface 84 (.agg #[.int .i64 (kOf l.ks 6), .int .i64 (vOf l.ks 6)]), .iface 146 (.pointer (some ⟨b', 0, none⟩)), .iface 146 (.pointer (some ⟨l.b, 0, none⟩))]) ∧
    w.heap.size ≤ b' ∧ w.heap.size ≤ g' ∧ w.heap.size ≤ g'' ∧ b' ≠ g' ∧ b' ≠ g'' ∧ g' ≠ g'' ∧
    LeafRep w' (some l.b) ⟨b', g', l.ks.take 6⟩ ∧ LeafRep w' nx ⟨l.b, g'', l.ks.drop 6⟩ ∧ Keeps (fun x => x = l.b) w w'

set_option maxRecDepth 100000 in
set_option maxHeartbeats 400000 in
theorem leafSplit (l : Leaf) (nx : Option Nat) (w : World) (h : LeafRep w nx l) (hn : l.ks.length = 12) :
    Calls Tryz.prog 163 #[.pointer (some ⟨l.b, 0, none⟩)] w (LeafSplit l nx w) := by
  obtain ⟨b, g, ks⟩ := l
  have hn : ks.length = 12 := hn
  obtain ⟨hb, hrow⟩ := h
  simp only [hn] at hb hrow
  have c0 : w.cell? ⟨b, 0, none⟩ = some (.pointer (nx.map fun b => ⟨b, 0, none⟩)) := cell_at hb 0
  have c1 : w.cell? ⟨b, 1, none⟩ = some (.slice (some ⟨g, 0, none⟩) 12 12) := cell_at hb 1
  have f1 : w.frozen? ⟨b, 1, none⟩ = false := free_at hb 1
  have c6 := row_keys hrow 6 (by omega)
  have mk6 := makeKeys6
  have HB := Lib.hid hb; clear hb
  have HR := Lib.hid hrow; clear hrow
  have HN := Lib.hid hn; clear hn
  go_enter Tryz.func163, Tryz.ntmps163
  go_wp2_with fail
  have hbl := lt_of_block HB.out
  have hw6 : IntKind.i64.wrap 6 = 6 := IntWalk.i64_in _ (by omega)
  go_region_held3 (fun w' => w'.cell? ⟨b, 1, none⟩ = some (.slice (some ⟨g, 0, none⟩) 12 12)) (go_keep) (fail)
  clear hw6 mk6 c0 c1 f1 c6
  obtain ⟨A, hA⟩ : ∃ A : Obj, A = Obj.cells (Array.replicate 12 Value.nilIface) 78 := ⟨_, rfl⟩
  have k1 : Keeps (fun _ => False) w ((w.alloc A).alloc A).drew := (((Keeps.refl _ w).alloc A).alloc A).drew
  have hG1 : ((w.alloc A).alloc A).drew.heap[w.heap.size]? = some A := alloc_heap _ _ (heap_alloc_new w A)
  have hG2 : ((w.alloc A).alloc A).drew.heap[w.heap.size + 1]? = some A := by have := heap_alloc_new (w.alloc A) A; rw [World.size_alloc] at this; exact this
  rw [← hA]
  have hz : w.heap.size + 2 ≤ ((w.alloc A).alloc A).drew.heap.size := by simp
  generalize ((w.alloc A).alloc A).drew = W1 at k1 hG1 hG2 hz ⊢
  subst hA
  have hO1 := row_made hG1 6 12 (by simp) (by omega) (by simp [maxLen])
  have hO2 := row_made hG2 6 12 (by simp) (by omega) (by simp [maxLen])
  have hB1 := k1.heap HB.out (fun f => f)
  have hR1 := k1.row HR.out (fun _ _ f => f)
  have c1 : W1.cell? ⟨b, 1, none⟩ = some (.slice (some ⟨g, 0, none⟩) 12 12) := cell_at hB1 1
  have HK1 := Lib.hid k1; clear k1
  have HO1 := Lib.hid hO1; clear hO1 hG1
  have HO2 := Lib.hid hO2; clear hO2 hG2
  have HB1 := Lib.hid hB1; clear hB1
  have HR1 := Lib.hid hR1; clear hR1
  have l1 : ((ks.take 6).map keyV).length = 6 := by rw [List.length_map, List.length_take, HN.out]; rfl
  have l2 : ((ks.drop 6).map keyV).length = 6 := by rw [List.length_map, List.length_drop, HN.out]
  have L1 := Lib.hid l1; clear l1
  have L2 := Lib.hid l2; clear l2
  have hm6 : Nat.min 6 6 = 6 := rfl
  have HM6 := Lib.hid hm6; clear hm6
  have p1 : ∀ j v, ((ks.take 6).map keyV)[j]? = some v → (ks.map keyV)[0 + j]? = some v := fun j v hj => by
    rw [List.getElem?_map, List.getElem?_take] at hj
    rw [List.getElem?_map, Nat.zero_add]
    split at hj
    · exact hj
    · cases hj
  have p2 : ∀ j v, ((ks.drop 6).map keyV)[j]? = some v → (ks.map keyV)[6 + j]? = some v := fun j v hj => by
    rw [List.getElem?_map, List.getElem?_drop] at hj
    rw [List.getElem?_map]; exact hj
  have P1 := Lib.hid p1; clear p1
  have P2 := Lib.hid p2; clear p2
  have hgl : g < w.heap.size := (HR.out.lt g rfl).2
  have nb1 : some b ≠ some w.heap.size := ne_row (by omega)
  have ng1 : (Value.slice (some ⟨g, 0, none⟩) 12 12).ownBlock ≠ some w.heap.size := (ne_row (by omega) : some g ≠ some w.heap.size)
  have nh1 : (Value.slice (some ⟨w.heap.size + 1, 0, none⟩) 6 12).ownBlock ≠ some w.heap.size := (ne_row (by omega) : some (w.heap.size + 1) ≠ some w.heap.size)
  have nb2 : some b ≠ some (w.heap.size + 1) := ne_row (by omega)
  have nh2 : (Value.slice (some ⟨w.heap.size, 0, none⟩) 6 12).ownBlock ≠ some (w.heap.size + 1) := (ne_row (by omega) : some w.heap.size ≠ some (w.heap.size + 1))
  have NB1 := Lib.hid nb1; clear nb1
  have NB2 := Lib.hid nb2; clear nb2
  have NH2 := Lib.hid nh2; clear nh2
  have NG1 := Lib.hid ng1; clear ng1
  have NH1 := Lib.hid nh1; clear nh1
  go_wp2_with (first
    | ((with_reducible refine wpList_copy_into (o := ⟨some 56, _, _, _, _, _⟩) rfl (.tmp 49) (.tmp 55) 197 197 rfl 78 0 78 w.heap.size 6 12 _ ((ks.take 6).map keyV) ⟨g, 0, none⟩ 6 12 Tryz.underlying197 info_size78 ?_ ?_ HO1.out L1.out HM6.out (row_part HR1.out 0 _ P1.out) (keyV_one _) ?_); rfl; rfl; intro W2 hO1 hg2; have HA1 := Lib.hid hO1; clear hO1; have HA2 := Lib.hid (HO2.out.kept hg2 (Or.inr NH1.out)); have HAR := Lib.hid (HR1.out.kept hg2 (Or.inr NG1.out)); have HAB := Lib.hid (grown_heap hg2 HB1.out NB1.out); have HAK := Lib.hid (HK1.out.grownNew hg2 (Nat.le_refl _)); have hz2 := hg2.size; have c1 := hg2.cell c1 NB1.out)
    | ((with_reducible refine wpList_copy_into (o := ⟨some 64, _, _, _, _, _⟩) rfl (.tmp 57) (.tmp 63) 197 197 rfl 78 0 78 (w.heap.size + 1) 6 12 _ ((ks.drop 6).map keyV) ⟨g, 6, none⟩ 6 6 Tryz.underlying197 info_size78 ?_ ?_ HA2.out L2.out HM6.out (row_part HAR.out 6 _ P2.out) (keyV_one _) ?_); rfl; rfl; intro W3 hO2 hg3; have HC2 := Lib.hid hO2; clear hO2; have HC1 := Lib.hid (HA1.out.kept hg3 (Or.inr NH2.out)); have HCB := Lib.hid (grown_heap hg3 HAB.out NB2.out); have HCK := Lib.hid (HAK.out.grownNew hg3 (Nat.le_succ _)); have hz3 := hg3.size; clear c1; have c1 : W3.cell? ⟨b, 1, none⟩ = some (.slice (some ⟨g, 0, none⟩) 12 12) := cell_at HCB.out 1; have f1 : W3.frozen? ⟨b, 1, none⟩ = false := free_at HCB.out 1))
  go_ret3
  have t6 : (ks.take 6).length = 6 := by rw [List.length_take, HN.out]; rfl
  have d6 : (ks.drop 6).length = 6 := by rw [List.length_drop, HN.out]
  refine ⟨W3.heap.size, w.heap.size, w.heap.size + 1, rfl, by omega, by omega, by omega, by omega, by omega, by omega, ⟨?_, ?_⟩, ⟨?_, ?_⟩, ?_⟩
  · simp only [t6]
    have := heap_alloc_new (W3.setCell ⟨b, 1, none⟩ (.slice (some ⟨w.heap.size + 1, 0, none⟩) 6 12)) (.cells #[.pointer (some ⟨b, 0, none⟩), .slice (some ⟨w.heap.size, 0, none⟩) 6 12] 199)
    rw [World.size_setCell] at this
    exact this
  · simp only [t6]
    exact (ownsRow_setCell_other HC1.out (a := ⟨b, 1, none⟩) (ne_row (by omega) : some w.heap.size ≠ some b) _).alloc _
  · simp only [d6]
    have := heap_setCell_same W3 b 1 _ _ (.slice (some ⟨w.heap.size + 1, 0, none⟩) 6 12) HCB.out
    exact alloc_heap _ _ this
  · simp only [d6]
    exact (ownsRow_setCell_other HC2.out (a := ⟨b, 1, none⟩) (ne_row (by omega) : some (w.heap.size + 1) ≠ some b) _).alloc _
  · exact ((Keeps.mono (G := fun x => x = b) HCK.out (fun _ _ f => f.elim)).setIn b 1 _ rfl).alloc _
end Go.Proofs.YtegejfhomocloaaGreat

namespace Go.Proofs.YtegejfhomocloaaGreat
open Go.RowKit

set_option maxRecDepth 100000 in
set_option maxHeartbeats 400000 in
theorem needs161 (b g n : Nat) (w : World) (hn : n ≤ 12) (c1 : w.cell? ⟨b, 1, none⟩ = some (.slice (some ⟨g, 0, none⟩) n 12)) :
    Calls Tryz.prog 161 #[.pointer (some ⟨b, 0, none⟩), .int .u64 12] w fun e w' => e = .returned (.bool (decide (12 ≤ n))) ∧ w' = w := by
  go_enter Tryz.func161, Tryz.ntmps161
  go_wp2
  go_ret
  refine ⟨congrArg (fun x => Ending.returned (.bool x)) ?_, rfl⟩
  rw [Bool.eq_iff_iff]; simp; omega

set_option maxRecDepth 100000 in
set_option maxHeartbeats 400000 in
theorem needs169 (b g n : Nat) (w : World) (hn : n ≤ 12) (c1 : w.cell? ⟨b, 0, none⟩ = some (.slice (some ⟨g, 0, none⟩) n 12)) :
    Calls Tryz.prog 169 #[.pointer (some ⟨b, 0, none⟩), .int .u64 12] w fun e w' => e = .returned (.bool (decide (12 ≤ n))) ∧ w' = w := by
  go_enter Tryz.func169, Tryz.ntmps169
  go_wp2
  go_ret
  refine ⟨congrArg (fun x => Ending.returned (.bool x)) ?_, rfl⟩
  rw [Bool.eq_iff_iff]; simp; omega

set_option maxRecDepth 100000 in
set_option maxHeartbeats 400000 in
theorem search74 (g n cap : Nat) (K V : Nat → Int) (k v : Int) (w : World) (hn : n ≤ 12) (hkb : g < w.heap.size)
    (hc : ∀ i, i < n → w.cell? ⟨g, i, none⟩ = some (.iface 84 (.agg #[.int .i64 (K i), .int .i64 (V i)]))) (hmono : ∀ i j, i < j → j < n → K i < K j) :
    Calls Tryz.prog 74 #[.slice (some ⟨g, 0, none⟩) n cap, .iface 84 (.agg #[.int .i64 k, .int .i64 v])] w (FoundAt n K k w) := by
  have hS := keySearch_any g n cap K V k v w hn hkb hc hmono
  clear hc hmono
  go_enter Tryz.func74, Tryz.ntmps74
  go_wp2_with (go_at_call 57; refine hS.mono ?_; rintro e w' ⟨p, hp, h1, h2, rfl, hb⟩; have H1 := Lib.hid h1; clear h1; have H2 := Lib.hid h2; clear h2)
  go_ret
  exact ⟨p, hp, H1.out, H2.out, rfl, hb⟩

set_option maxRecDepth 100000 in
set_option maxHeartbeats 400000 in
theorem search162 (b g n cap : Nat) (K V : Nat → Int) (k v : Int) (w : World) (hn : n ≤ 12) (hkb : g < w.heap.size) (c1 : w.cell? ⟨b, 1, none⟩ = some (.slice (some ⟨g, 0, none⟩) n cap))
    (hc : ∀ i, i < n → w.cell? ⟨g, i, none⟩ = some (.iface 84 (.agg #[.int .i64 (K i), .int .i64 (V i)]))) (hmono : ∀ i j, i < j → j < n → K i < K j) :
    Calls Tryz.prog 162 #[.pointer (some ⟨b, 0, none⟩), .iface 84 (.agg #[.int .i64 k, .int .i64 v])] w (FoundAt n K k w) := by
  have hS := search74 g n cap K V k v w hn hkb hc hmono
  clear hc hmono
  go_enter Tryz.func162, Tryz.ntmps162
  go_wp2_with (go_at_call 74; refine hS.mono ?_; rintro e w' ⟨p, hp, h1, h2, rfl, hb⟩; have H1 := Lib.hid h1; clear h1; have H2 := Lib.hid h2; clear h2)
  go_ret
  exact ⟨p, hp, H1.out, H2.out, rfl, hb⟩

set_option maxRecDepth 100000 in
set_option maxHeartbeats 400000 in
theorem search60 (b g n cap : Nat) (K V : Nat → Int) (k v : Int) (w : World) (hn : n ≤ 12) (hkb : g < w.heap.size) (c1 : w.cell? ⟨b, 0, none⟩ = some (.slice (some ⟨g, 0, none⟩) n cap))
    (hc : ∀ i, i < n → w.cell? ⟨g, i, none⟩ = some (.iface 84 (.agg #[.int .i64 (K i), .int .i64 (V i)]))) (hmono : ∀ i j, i < j → j < n → K i < K j) :
    Calls Tryz.prog 60 #[.pointer (some ⟨b, 0, none⟩), .iface 84 (.agg #[.int .i64 k, .int .i64 v])] w (FoundAt n K k w) := by
  have hS := search74 g n cap K V k v w hn hkb hc hmono
  clear hc hmono
  go_enter Tryz.func60, Tryz.ntmps60
  go_wp2_with (go_at_call 74; refine hS.mono ?_; rintro e w' ⟨p, hp, h1, h2, rfl, hb⟩; have H1 := Lib.hid h1; clear h1; have H2 := Lib.hid h2; clear h2)
  go_ret
  exact ⟨p, hp, H1.out, H2.out, rfl, hb⟩

/-- What a new leaf is. -/
def NewLeaf (w : World) (e : Ending) (w' : World) : Prop :=
  ∃ b g : Nat, e = .returned (.pointer (some ⟨b, 0, none⟩)) ∧ w.heap.size ≤ b ∧ w.heap.size ≤ g ∧ b ≠ g ∧ LeafRep w' none ⟨b, g, []⟩ ∧ Keeps (fun _ => False) w w'

set_option maxRecDepth 100000 in
set_option maxHeartbeats 400000 in
theorem newLeaf (w : World) : Calls Tryz.prog 42 #[.int .u64 12] w (NewLeaf w) := by
  have mk := makeKeys12
  go_enter Tryz.func42, Tryz.ntmps42
  go_wp2
  go_ret
  clear mk
  have hz : (w.alloc (.cells (Array.replicate 12 .nilIface) 78)).heap.size = w.heap.size + 1 := by simp
  refine ⟨w.heap.size + 1, w.heap.size, rfl, by omega, by omega, by omega, ⟨?_, ?_⟩, ((Keeps.refl _ w).alloc _).alloc _⟩
  · rw [← hz]; exact heap_alloc_new _ _
  · exact (row_made (heap_alloc_new w _) 0 12 (by simp) (by omega) (by simp [maxLen])).alloc _
end Go.Proofs.YtegejfhomocloaaGreat
