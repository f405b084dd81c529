/- A part of the proof of FnRoadOrder: the tree of intervals: many insertions, new trees, visits. No conditions but those of the theorems. -/
import Derived.Test.YtegejfhomocloaaGreatJ14
import Derived.Test.YtegejfhomocloaaGreatJ3
import Derived.Test.YtegejfhomocloaaGreatJ7
set_option linter.all false
namespace Go.Proofs.YtegejfhomocloaaGreat
open Go.RowKit

/-- An interval's own block is a node's, new. -/
theorem TreeRelA.nil_or {B tb : Nat} {w : World} {L : List Iv} (h : TreeRelA B tb w L) : (L = [] ∧ TreeAt tb none w ∧ B ≤ tb) ∨ ∃ (T : RT) (S : Nat → Option Sh) (r0 : Nat), T.root = some r0 ∧ T.NRR ∧ T.isRed = false ∧ T.ivs.Pairwise (fun x y => x.k < y.k) ∧ T.ivs.Perm L ∧ Has S T.recs ∧ HeapOK B w S ∧ TreeAt tb T.root w ∧ B ≤ tb := by
  obtain ⟨T, S, h1, h2, h3, h4, h5, h6, h7, h8⟩ := h
  cases T with
  | nil => exact .inl ⟨List.Perm.nil_eq h4 |>.symm, h7, h8⟩
  | node b i c l r => exact .inr ⟨_, S, b, rfl, h1, h2, h3, h4, h5, h6, h7, h8⟩

set_option maxRecDepth 100000 in
set_option maxHeartbeats 800000 in
/-- The first insertion. -/
theorem addFirst138 (B tb : Nat) (iv : Iv) (w : World) (hT : TreeAt tb none w) (hB : B ≤ tb) (hI : IvOK B w iv) :
    Calls Tryz.prog 138 #[.pointer (some ⟨tb, 0, none⟩), ivV iv] w (AddOut B tb iv [] w) := by
  obtain ⟨m, hm⟩ := hT
  have HM := Lib.hid hm
  have HI := Lib.hid hI; clear hI
  have a0 : w.cell? ⟨tb, 0, none⟩ = some (.pointer none) := cell_at hm 0
  clear hm
  show Calls Tryz.prog 138 #[.pointer (some ⟨tb, 0, none⟩), .iface 132 (spanV iv)] w (AddOut B tb iv [] w)
  go_enter Tryz.func138, Tryz.ntmps138
  go_wp2_with fail
  refine (low157 B iv w HI.out).mono ?_
  rintro e w1 ⟨rfl, hk⟩
  have K1 := Lib.hid hk; clear hk
  go_wp2_with fail
  refine (high155 B iv w1 (HI.out.keeps K1.out (fun _ _ f => f))).mono ?_
  rintro e w2 ⟨rfl, hk⟩
  have K2 := Lib.hid (K1.out.trans hk (fun _ _ f => f)); clear hk
  go_wp2_with fail
  refine (new143 iv w2).mono ?_
  rintro e w3 ⟨nb, rfl, hnb, hc, hk⟩
  have K3 := Lib.hid (K2.out.trans hk (fun _ _ f => f)); clear hk
  have HC := Lib.hid hc
  have hm3 := K3.out.heap HM.out (fun f => f)
  have HM3 := Lib.hid hm3
  have hlt := lt_of_block HM.out
  have hz2 := K2.out.size
  have hne : nb ≠ tb := by omega
  have hne' : tb ≠ nb := by omega
  have a0' : w3.cell? ⟨tb, 0, none⟩ = some (.pointer none) := cell_at hm3 0
  have a2' : w3.cell? ⟨tb, 2, none⟩ = some (.int .u64 m) := cell_at hm3 2
  have f0' : w3.frozen? ⟨tb, 0, none⟩ = false := free_at hm3 0
  have f2' : w3.frozen? ⟨tb, 2, none⟩ = false := free_at hm3 2
  have n5 : w3.cell? ⟨nb, 5, none⟩ = some (.bool true) := cell_at hc 5
  have fn5 : w3.frozen? ⟨nb, 5, none⟩ = false := free_at hc 5
  clear hm3 hc a0
  go_wp2_with fail
  go_end0
  have hnB : B ≤ nb := by omega
  have KF := (((K3.out.mono (G := Mine B tb w) (fun _ _ f => f.elim)).setIn tb 0 (.pointer (some ⟨nb, 0, none⟩)) ⟨hB, .inl rfl⟩).setNew nb 5 (.bool false) (by have := K2.out.size; omega))
  have IK := HI.out.2.1
  have HB1 := set_heap (w3.setCell ⟨tb, 0, none⟩ (.pointer (some ⟨nb, 0, none⟩))) ⟨nb, 5, none⟩ (.bool false) (heap_setCell_same w3 tb 0 _ _ (.pointer (some ⟨nb, 0, none⟩)) HM3.out) hne'
  have HN1 := heap_setCell_same (w3.setCell ⟨tb, 0, none⟩ (.pointer (some ⟨nb, 0, none⟩))) nb 5 _ _ (.bool false) (set_heap w3 ⟨tb, 0, none⟩ (.pointer (some ⟨nb, 0, none⟩)) HC.out hne)
  refine ⟨rfl, ⟨.node nb iv false .nil .nil, upd (fun _ => none) nb ⟨some iv, none, none, false⟩, ⟨fun e => (by cases e), trivial, trivial⟩, rfl, List.pairwise_singleton _ _, List.Perm.refl _, ?_, ?_, ⟨_, heap_setCell_same _ tb 2 _ _ _ HB1⟩, hB⟩, KF.setIn tb 2 _ ⟨hB, .inl rfl⟩⟩
  · exact Has.new (S := fun _ => none) (R := []) ⟨List.nodup_nil, fun x hx => (by cases hx)⟩ (fun x s e => (by cases e)) _
  · intro x sx hx
    by_cases e : x = nb
    · subst e
      rw [upd_same] at hx
      obtain rfl := Option.some.inj hx
      exact ⟨⟨iv.k, iv.k, set_heap _ _ _ HN1 hne, IK, IK⟩, HI.out.keeps (KF.setIn tb 2 _ ⟨hB, .inl rfl⟩) (fun y hy f => by have := f.1; omega), hnB⟩
    · rw [upd_other _ _ e] at hx; cases hx

theorem TreeRelA.perm {B tb : Nat} {w : World} {L L' : List Iv} (h : TreeRelA B tb w L) (p : L.Perm L') : TreeRelA B tb w L' := by
  obtain ⟨T, S, h1, h2, h3, h4, h5⟩ := h
  exact ⟨T, S, h1, h2, h3, h4.trans p, h5⟩
/-- An insertion. -/
theorem addOne138 (B tb : Nat) (iv : Iv) (L : List Iv) (w : World) (h : TreeRelA B tb w L) (hBw : B ≤ w.heap.size) (hI : IvOK B w iv) (hx : ∀ x ∈ L, x.k ≠ iv.k ∧ x.id ≠ iv.id) :
    Calls Tryz.prog 138 #[.pointer (some ⟨tb, 0, none⟩), ivV iv] w (AddOut B tb iv L w) := by
  rcases h.nil_or with ⟨rfl, hT, hB⟩ | ⟨T, S, r0, hr, h1, h2, h3, h4, h5, h6, h7, h8⟩
  · exact addFirst138 B tb iv w hT hB hI
  · refine (add138 B tb iv T S w h1 h2 h3 h5 h6 h7 h8 hBw hI (fun x hx' => hx x (h4.mem_iff.1 hx')) r0 hr).mono ?_
    rintro e w' ⟨he, ht, hk⟩
    exact ⟨he, ht.perm (h4.cons iv), hk⟩

theorem TreeRelA.at' {B tb : Nat} {w : World} {L : List Iv} (h : TreeRelA B tb w L) : ∃ rt, TreeAt tb rt w := by
  obtain ⟨T, S, h1, h2, h3, h4, h5, h6, h7, h8⟩ := h
  exact ⟨_, h7⟩
/-- The tree stays where neither its block nor a node turns. -/
theorem TreeRelA.keeps {B tb : Nat} {w w' : World} {L : List Iv} {F : Nat → Prop} (h : TreeRelA B tb w L) (k : Keeps F w w') (h1 : ∀ x, F x → B ≤ x) (h2 : ¬ F tb) (h3 : ∀ x cs, w.heap[x]? = some (.cells cs 166 (0, 0)) → ¬ F x) : TreeRelA B tb w' L := by
  obtain ⟨T, S, a1, a2, a3, a4, a5, a6, a7, a8⟩ := h
  refine ⟨T, S, a1, a2, a3, a4, a5, a6.keeps k (fun b s hb f => ?_) (fun x hx f => by have := h1 x f; omega), a7.keeps k h2, a8⟩
  obtain ⟨⟨mx, mn, g, -, -⟩, -, -⟩ := a6 b s hb
  exact h3 b _ g f
theorem TreeRelA.new {B tb : Nat} {w w' : World} {L : List Iv} (h : TreeRelA B tb w L) (k : Keeps (fun _ => False) w w') : TreeRelA B tb w' L := h.keeps k (fun _ f => f.elim) (fun f => f) (fun _ _ _ f => f)
theorem not_mine {B tb x : Nat} {w : World} {cs : Array Value} {t : TypeId} {fr : Nat × Nat} (hx : w.heap[x]? = some (.cells cs t fr)) (ht : t ≠ 166) (hne : x ≠ tb) : ¬ Mine B tb w x := fun ⟨_, h⟩ => by
  rcases h with h | ⟨cs', fr', h⟩
  · exact hne h
  · rw [hx] at h
    injection h with h
    injection h with _ h2
    exact ht h2
/-- What was turned of a later world's own was turned of the first one's own. -/
theorem mine_back {B tb : Nat} {w w1 : World} (h : Keeps (Mine B tb w) w w1) {x : Nat} (hx : x < w.heap.size) (hm : Mine B tb w1 x) : Mine B tb w x := by
  by_cases hw : Mine B tb w x
  · exact hw
  · obtain ⟨h1, h2⟩ := hm
    rcases h2 with h2 | ⟨cs, fr, h2⟩
    · exact ⟨h1, .inl h2⟩
    · rw [h.block x hx hw] at h2
      exact ⟨h1, .inr ⟨cs, fr, h2⟩⟩
theorem mine_trans {B tb : Nat} {w w1 w2 : World} (h : Keeps (Mine B tb w) w w1) (k : Keeps (Mine B tb w1) w1 w2) : Keeps (Mine B tb w) w w2 := h.trans k (fun _ hb hm => mine_back h hb hm)

/-- What stands between the rounds of the loop that adds. -/
def AddsRel (B tb g : Nat) (ivs : List Iv) (w : World) (j : Nat) (wr : World) : Prop :=
  TreeRelA B tb wr (ivs.take j).reverse ∧ Keeps (Mine B tb w) w wr ∧ (∀ x ∈ ivs, IvOK B wr x) ∧ (∃ fr cs, wr.heap[g]? = some (.cells cs 130 fr)) ∧ (∀ i, ∀ x, ivs[i]? = some x → wr.cell? ⟨g, i, none⟩ = some (ivV x)) ∧ g ≠ tb

set_option maxRecDepth 100000 in
set_option maxHeartbeats 800000 in
theorem adds132 (B tb g n cap : Nat) (ivs : List Iv) (w : World) (hn : ivs.length = n) (hlen : n ≤ 40) (hT : TreeRelA B tb w []) (hBw : B ≤ w.heap.size) (hI : ∀ x ∈ ivs, IvOK B w x) (hk : (ivs.map (·.k)).Nodup) (hid : (ivs.map (·.id)).Nodup)
    (hg : ∃ fr cs, w.heap[g]? = some (.cells cs 130 fr)) (hc : ∀ i, ∀ x, ivs[i]? = some x → w.cell? ⟨g, i, none⟩ = some (ivV x)) :
    Calls Tryz.prog 132 #[.pointer (some ⟨tb, 0, none⟩), .slice (some ⟨g, 0, none⟩) n cap] w fun e w' => e = .returned (.tuple #[]) ∧ TreeRelA B tb w' ivs ∧ Keeps (Mine B tb w) w w' := by
  have hne : g ≠ tb := by
    obtain ⟨fr, cs, hg⟩ := hg
    obtain ⟨rt, m, hm⟩ := hT.at'
    rintro rfl
    rw [hg] at hm
    injection hm with hm
    injection hm with _ h2
    exact absurd h2 (by decide)
  have A0 : Hid (AddsRel B tb g ivs w 0 w) := ⟨hT, Keeps.refl _ _, hI, hg, hc, hne⟩
  have HN := Lib.hid hn; clear hn
  have HK := Lib.hid hk; clear hk
  have HID := Lib.hid hid; clear hid
  clear hT hI hg hc
  go_enter Tryz.func132, Tryz.ntmps132
  go_wp2_with fail
  go_loopg [8] n (fun kx s8 wr => ∃ j : Nat, s8 = .int .i64 j ∧ j ≤ n ∧ n - j ≤ kx ∧ Hid (AddsRel B tb g ivs w j wr))
  case atStart => exact ⟨0, rfl, Nat.zero_le _, Nat.le_refl _, A0.out⟩
  case round =>
    obtain ⟨j, rfl, hj, hkx, AR⟩ := hrel
    clear A0
    by_cases hlt : j < n
    · have hd1 : decide ((j : Int) < (n : Int)) = true := by simp; omega
      obtain ⟨iv, hiv⟩ : ∃ iv, ivs[j]? = some iv := ⟨_, List.getElem?_eq_getElem (by rw [HN.out]; exact hlt)⟩
      have cj : wr.cell? ⟨g, j, none⟩ = some (ivV iv) := AR.out.2.2.2.2.1 j iv hiv
      have hbr : B ≤ wr.heap.size := by have := AR.out.2.1.size; omega
      have hnew : ∀ x ∈ (ivs.take j).reverse, x.k ≠ iv.k ∧ x.id ≠ iv.id := by
        intro x hx
        rw [List.mem_reverse, List.mem_take_iff_getElem] at hx
        obtain ⟨a, ha, rfl⟩ := hx
        obtain ⟨hjl, rfl⟩ := List.getElem?_eq_some_iff.1 hiv
        have haj : a ≠ j := by omega
        refine ⟨fun e => haj ?_, fun e => haj ?_⟩
        · exact (List.getElem_inj (xs := ivs.map (·.k)) (i := a) (j := j) (h₀ := by rw [List.length_map]; omega) (h₁ := by rw [List.length_map]; omega) HK.out).1 (by simpa using e)
        · exact (List.getElem_inj (xs := ivs.map (·.id)) (i := a) (j := j) (h₀ := by rw [List.length_map]; omega) (h₁ := by rw [List.length_map]; omega) HID.out).1 (by simpa using e)
      have ADD := Lib.hid (addOne138 B tb iv (ivs.take j).reverse wr AR.out.1 hbr (AR.out.2.2.1 iv (List.mem_of_getElem? hiv)) hnew)
      have HIV := Lib.hid hiv
      clear hiv hnew hbr
      go_wp2_with fail
      refine ADD.out.mono ?_
      rintro e w2 ⟨rfl, hT2, hK2⟩
      have HT2 := Lib.hid hT2; clear hT2
      have HK2 := Lib.hid hK2; clear hK2
      clear cj ADD
      go_wp2_with fail
      go_roundg (n - (j + 1))
      case measure => omega
      case rel =>
        obtain ⟨a1, a2, a3, ⟨fr, cs, a4⟩, a5, a6⟩ := AR.out
        have hng : ¬ Mine B tb wr g := not_mine a4 (by decide) a6
        refine ⟨j + 1, by go_num, by omega, Nat.le_refl _, ?_, mine_trans a2 HK2.out, fun x hx => (a3 x hx).keeps HK2.out (fun y hy f => by have := f.1; omega), ⟨fr, cs, HK2.out.heap a4 hng⟩, fun i x hi => HK2.out.cell (a5 i x hi) hng, a6⟩
        have : (ivs.take (j + 1)).reverse = iv :: (ivs.take j).reverse := by
          obtain ⟨hjl, rfl⟩ := List.getElem?_eq_some_iff.1 HIV.out
          rw [List.take_succ_eq_append_getElem hjl, List.reverse_append]; rfl
        rw [this]; exact HT2.out
    · have hd1 : decide ((j : Int) < (n : Int)) = false := by simp; omega
      have hjn : j = n := by omega
      have HJN := Lib.hid hjn; clear hjn
      go_wp2_with fail
      go_end0
      refine ⟨rfl, AR.out.1.perm ?_, AR.out.2.1⟩
      rw [HJN.out, List.take_of_length_le (Nat.le_of_eq HN.out)]
      exact List.reverse_perm ivs
end Go.Proofs.YtegejfhomocloaaGreat

namespace Go.Proofs.YtegejfhomocloaaGreat
open Go.RowKit

theorem info130 : (Tryz.prog.info? 130).map (fun i => (i.zero, i.size, i.bytes)) = some (some .nilIface, 1, 16) := by kernel_rfl
theorem info38 : (Tryz.prog.info? 38).map (fun i => (i.zero, i.size, i.bytes)) = some (some (.agg #[.slice none 0 0, .slice none 0 0, .int .u64 0]), 3, 56) := by kernel_rfl

/-- A tree of intervals, new. -/
def NewTreeAt (w : World) (v : Nat → Value) (e : Ending) (w' : World) : Prop := ∃ tb : Nat, e = .returned (v tb) ∧ w.heap.size ≤ tb ∧ TreeAt tb none w' ∧ Keeps (fun _ => False) w w'
def dummyV : Value := .agg #[.nilIface, .int .i64 0, .int .i64 0, .pointer none, .pointer none, .bool false, .int .u64 0]
set_option maxRecDepth 100000 in
set_option maxHeartbeats 400000 in
theorem dummy48 (w : World) : Calls Tryz.prog 48 #[] w (Gives dummyV w) := by
  go_enter Tryz.func48, Tryz.ntmps48
  go_wp2_with fail
  refine bodyPost_ret (v := dummyV) (by simp [results, Tryz.results48, go_sem, dummyV]) rfl ⟨rfl, (Keeps.refl _ _).alloc _⟩
set_option maxRecDepth 100000 in
set_option maxHeartbeats 400000 in
theorem newTree37 (w : World) : Calls Tryz.prog 37 #[.int .u64 1] w (NewTreeAt w fun tb => .pointer (some ⟨tb, 0, none⟩)) := by
  have HD := Lib.hid (dummy48 w)
  go_enter Tryz.func37, Tryz.ntmps37
  go_wp2_with fail
  refine HD.out.mono ?_
  rintro e w1 ⟨rfl, hk⟩
  have HK := Lib.hid hk; clear hk
  unfold dummyV
  go_wp2_with fail
  go_ret
  exact ⟨w1.heap.size, rfl, HK.out.size, ⟨0, heap_alloc_new w1 _⟩, HK.out.alloc _⟩
set_option maxRecDepth 100000 in
set_option maxHeartbeats 400000 in
theorem new21 (w : World) : Calls Tryz.prog 21 #[.int .u64 1] w (NewTreeAt w fun tb => .iface 127 (.pointer (some ⟨tb, 0, none⟩))) := by
  have HN := Lib.hid (newTree37 w)
  go_enter Tryz.func21, Tryz.ntmps21
  go_wp2_with fail
  refine HN.out.mono ?_
  rintro e w1 ⟨tb, rfl, h1, h2, h3⟩
  have H := Lib.hid (And.intro h1 (And.intro h2 h3)); clear h1 h2 h3
  go_wp2_with fail
  go_ret
  exact ⟨tb, rfl, H.out⟩

/-- Spans in a row: three cells each. -/
def spanCells (ivs : List Iv) : List Value := ivs.flatMap fun i => [.slice (some ⟨i.la, 0, none⟩) 1 1, .slice (some ⟨i.ha, 0, none⟩) 1 1, .int .u64 (i.id : Int)]
theorem spanCells_at (ivs : List Iv) (i : Nat) (x : Iv) (h : ivs[i]? = some x) : (spanCells ivs)[i * 3]? = some (.slice (some ⟨x.la, 0, none⟩) 1 1) ∧ (spanCells ivs)[i * 3 + 1]? = some (.slice (some ⟨x.ha, 0, none⟩) 1 1) ∧ (spanCells ivs)[i * 3 + 2]? = some (.int .u64 (x.id : Int)) := by
  induction ivs generalizing i with
  | nil => simp at h
  | cons a r ih =>
    cases i with
    | zero =>
      simp at h
      subst h
      exact ⟨rfl, rfl, rfl⟩
    | succ i =>
      have h' : r[i]? = some x := by simpa using h
      obtain ⟨h1, h2, h3⟩ := ih i h'
      have e : spanCells (a :: r) = [.slice (some ⟨a.la, 0, none⟩) 1 1, .slice (some ⟨a.ha, 0, none⟩) 1 1, .int .u64 (a.id : Int)] ++ spanCells r := rfl
      rw [e]
      refine ⟨?_, ?_, ?_⟩
      · rw [show (i + 1) * 3 = 3 + i * 3 by omega, List.getElem?_append_right (by simp)]; simpa using h1
      · rw [show (i + 1) * 3 + 1 = 3 + (i * 3 + 1) by omega, List.getElem?_append_right (by simp)]; simpa using h2
      · rw [show (i + 1) * 3 + 2 = 3 + (i * 3 + 2) by omega, List.getElem?_append_right (by simp)]; simpa using h3
theorem row_span {w : World} {g n cap : Nat} {ivs : List Iv} (h : w.ownsRow 0 38 3 (.slice (some ⟨g, 0, none⟩) n cap) n (spanCells ivs)) {i : Nat} {x : Iv} (hx : ivs[i]? = some x) (hi : i < n) :
    w.cell? ⟨g, i * 3, none⟩ = some (.slice (some ⟨x.la, 0, none⟩) 1 1) ∧ w.cell? ⟨g, i * 3 + 1, none⟩ = some (.slice (some ⟨x.ha, 0, none⟩) 1 1) ∧ w.cell? ⟨g, i * 3 + 2, none⟩ = some (.int .u64 (x.id : Int)) := by
  obtain ⟨h1, h2, h3⟩ := spanCells_at ivs i x hx
  rw [h.cellAt _ (by omega), h.cellAt _ (by omega), h.cellAt _ (by omega)]
  exact ⟨h1, h2, h3⟩

/-- Interval values made of spans. -/
def SpansMade (ivs : List Iv) (w : World) (e : Ending) (w' : World) : Prop :=
  ∃ g cap : Nat, e = .returned (.slice (some ⟨g, 0, none⟩) ivs.length cap) ∧ w.heap.size ≤ g ∧ w'.ownsRow w.heap.size 130 1 (.slice (some ⟨g, 0, none⟩) ivs.length cap) ivs.length (ivs.map ivV) ∧ Keeps (fun _ => False) w w'

set_option maxRecDepth 100000 in
set_option maxHeartbeats 800000 in
theorem spans39 (g n cap : Nat) (ivs : List Iv) (w : World) (hn : ivs.length = n) (h0 : 0 < n) (hlen : n ≤ 40) (hrow : w.ownsRow 0 38 3 (.slice (some ⟨g, 0, none⟩) n cap) n (spanCells ivs)) :
    Calls Tryz.prog 39 #[.slice (some ⟨g, 0, none⟩) n cap] w (SpansMade ivs w) := by
  obtain ⟨i0, hi0, hiz, his, hib⟩ := info_parts info130
  have HR := Lib.hid hrow; clear hrow
  have HN := Lib.hid hn; clear hn
  have hgl := (HR.out.lt g rfl).2
  go_enter Tryz.func39, Tryz.ntmps39
  go_wp2_with fail
  go_loopg [3, 8] n (fun kx s3 s8 wr => ∃ j : Nat, s8 = .int .i64 j ∧ j ≤ n ∧ n - j ≤ kx ∧ Hid (wr.ownsRow w.heap.size 130 1 s3 j ((ivs.take j).map ivV)) ∧ Hid (Keeps (fun _ => False) w wr))
  case atStart => exact ⟨0, rfl, Nat.zero_le _, by omega, World.ownsRow_nil _ _ _ _, Keeps.refl _ _⟩
  case round =>
    obtain ⟨j, rfl, hj, hg, hO, hK⟩ := hrel
    by_cases hlt : j < n
    · have hrow := hK.out.row HR.out (ownNot (fun f => f))
      have hjx : j < ivs.length := by rw [HN.out]; exact hlt
      obtain ⟨x, hx⟩ : ∃ x, ivs[j]? = some x := ⟨ivs[j], List.getElem?_eq_getElem hjx⟩
      obtain ⟨cj0, cj1, cj2⟩ := row_span hrow hx hlt
      have hzr := hK.out.size
      clear hrow hjx
      have HD := Lib.hid hx; clear hx
      go_wp2_with (at_builtin; (refine wpList_append_lies _ rfl (.tmp 12) (.tmp 16) 135 rfl w.heap.size 130 i0 .nilIface 1 16 Tryz.underlying135 hi0 hiz his hib rfl (by omega) u3 j _ rfl ((hO.out.alloc _).alloc _) ⟨wr.heap.size + 1, 0, none⟩ 1 1 [ivV x] rfl (by rfl) (cell_new_at (by simp)) (one_of rfl) (by omega) (by simp only [maxLen]; omega) (by omega) (by simp; omega) _ rfl ?_); intro g' cap' w1 hO1 hg1 hat hlt1; clear hat; have HO1 := Lib.hid hO1; clear hO1; have HK1 := Lib.hid (((hK.out.alloc _).alloc _).grown hg1 (rowNew hO.out)); clear hg1)
      go_roundg (n - (j + 1))
      case measure => omega
      case rel =>
        refine ⟨j + 1, by go_num, by omega, Nat.le_refl _, ?_, HK1⟩
        have h3 := HO1.out
        obtain ⟨hjl, rfl⟩ := List.getElem?_eq_some_iff.1 HD.out
        rw [show (ivs.take j).map ivV ++ [ivV ivs[j]] = (ivs.take (j + 1)).map ivV by rw [List.take_succ_eq_append_getElem hjl, List.map_append]; rfl] at h3
        exact h3
    · obtain rfl : j = n := by omega
      have hO2 := hO.out
      rw [List.take_of_length_le (by rw [HN.out]; exact Nat.le_refl _)] at hO2
      obtain ⟨g', cap', rfl, hb, hl⟩ := hO2.form h0
      have HO2 := Lib.hid hO2; clear hO2
      go_wp2_with fail
      go_ret
      refine ⟨g', cap', by rw [HN.out]; rfl, hb, by rw [HN.out]; exact HO2.out, hK.out⟩
end Go.Proofs.YtegejfhomocloaaGreat

namespace Go.Proofs.YtegejfhomocloaaGreat
open Go.RowKit

theorem row_ne_box137 {w : World} {p B n : Nat} {v : Value} {xs : List Value} {cs : Array Value} (h : w.heap[p]? = some (.cells cs 137 (0, 0))) (ho : w.ownsRow B 130 1 v n xs) : v.ownBlock ≠ some p := fun e => by
  rcases ho.2 with ⟨h', _⟩ | ⟨g, cap, cur, h', hb, hg, _⟩
  · rw [h'] at e; cases e
  · rw [h'] at e
    have : g = p := Option.some.inj e
    subst this
    rw [h] at hg
    injection hg with hg
    injection hg with _ h2
    cases h2

/-- Intervals that are being gathered. -/
def GatherI (B pe : Nat) (xs : List Iv) (w : World) : Prop :=
  ∃ s, w.heap[pe]? = some (.cells #[s] 137 (0, 0)) ∧ w.ownsRow B 130 1 s xs.length (xs.map ivV) ∧ B ≤ pe
theorem GatherI.new {B pe : Nat} {xs : List Iv} {w w' : World} (h : GatherI B pe xs w) (k : Keeps (fun _ => False) w w') : GatherI B pe xs w' := by
  obtain ⟨s, a, b, c⟩ := h
  exact ⟨s, k.heap a (fun f => f), k.row b (fun _ _ f => f), c⟩

set_option maxRecDepth 100000 in
set_option maxHeartbeats 800000 in
theorem gather142 (B pe b n : Nat) (xs : List Iv) (i : Iv) (w : World) (hG : GatherI B pe xs w) (hN : w.cell? ⟨b, 0, none⟩ = some (ivV i)) (hn : xs.length = n) (hlen : n ≤ 100) :
    Calls Tryz.prog 142 #[.pointer (some ⟨b, 0, none⟩), .pointer (some ⟨pe, 0, none⟩)] w fun e w' => e = .returned (.tuple #[]) ∧ GatherI B pe (xs ++ [i]) w' ∧ Keeps (fun y => B ≤ y) w w' := by
  obtain ⟨s, hp, hO, hB⟩ := hG
  rw [hn] at hO
  obtain ⟨i0, hi0, hiz, his, hib⟩ := info_parts info130
  have hne := row_ne_box137 hp hO
  have cp : w.cell? ⟨pe, 0, none⟩ = some s := cell_at hp 0
  have fp : w.frozen? ⟨pe, 0, none⟩ = false := free_at hp 0
  have cb : w.cell? ⟨b, 0, none⟩ = some (.iface 132 (.agg #[.slice (some ⟨i.la, 0, none⟩) 1 1, .slice (some ⟨i.ha, 0, none⟩) 1 1, .int .u64 (i.id : Int)])) := hN
  have cp' : ∀ o, (w.alloc o).cell? ⟨pe, 0, none⟩ = some s := fun o => cell_at (alloc_heap w o hp) 0
  have hbl := World.block_lt_of_cell? w _ cb
  have hpl := lt_of_block hp
  have HP := Lib.hid hp; clear hp
  have HO := Lib.hid hO; clear hO
  have HNE := Lib.hid hne; clear hne
  have HN := Lib.hid hn; clear hn hN
  go_enter Tryz.func142, Tryz.ntmps142
  go_wp2_with fail
  go_region_law ((refine step_append_lies _ (by rfl) (.tmp 3) (.tmp 8) 137 (by rfl) B 130 i0 _ 1 16 Tryz.underlying137 hi0 hiz his hib (by rfl) (by omega) s n _ (by rfl) (HO.out.alloc _) ⟨w.heap.size, 0, none⟩ 1 1 [ivV i] (by rfl) (by rfl) (news1 (heap_alloc_new w _)) (one_of rfl) (by omega) (by simp only [maxLen]; omega) (by omega) (by simp; omega) _ rfl ?_); intro g cap w1 hO1 hg1 hat hlt; have hP1 : w1.heap[pe]? = some (.cells #[s] 137 (0, 0)) := grown_heap hg1 (alloc_heap w _ HP.out) (Ne.symm HNE.out); have c1 : w1.cell? ⟨pe, 0, none⟩ = some s := cell_at hP1 0; have f1 : w1.frozen? ⟨pe, 0, none⟩ = false := free_at hP1 0; have HP1 := Lib.hid hP1; clear hP1; have HO1 := Lib.hid hO1; clear hO1; have HG1 := Lib.hid hg1; clear hg1)
  all_goals
    have hgp : g ≠ pe := by
      rcases hat with h | h
      · intro e; exact HNE.out (e ▸ h)
      · simp at h; omega
    have hgB : B ≤ g := (HO1.out.lt g rfl).1
    have hK1 : Keeps (fun y => B ≤ y) w w1 := by
      first
        | exact (((Keeps.refl _ w).alloc _).drew).grown HG1.out (fun b hb _ => (HO.out.lt b hb).1)
        | exact (((Keeps.refl _ w).drew).alloc _).grown HG1.out (fun b hb _ => (HO.out.lt b hb).1)
        | exact ((Keeps.refl _ w).alloc _).grown HG1.out (fun b hb _ => (HO.out.lt b hb).1)
    have HK1 := Lib.hid hK1
    clear hK1 cp' hat cp fp cb c1 f1
    go_wp2_with fail
    go_end0
    refine ⟨rfl, ⟨_, heap_setCell_same w1 pe 0 _ _ _ HP1.out, ?_, hB⟩, HK1.out.setIn pe 0 _ hB⟩
    have hl : (xs ++ [i]).length = n + 1 := by simp [HN.out]
    rw [hl, List.map_append]
    exact ownsRow_setCell_other HO1.out (a := ⟨pe, 0, none⟩) (ne_row hgp) _

set_option maxRecDepth 100000 in
theorem over151 (a b : Int) (w : World) (ha : InR a) (hb : InR b) : Calls Tryz.prog 151 #[.int .i64 a, .int .i64 65536, .int .i64 b, .int .i64 (-1)] w fun e w' => e = .returned (.bool true) ∧ w' = w := by
  have h1 : (-1 : Int) ≤ a := by have := ha.1; omega
  have h2 : b ≤ 65536 := by have := hb.2; omega
  go_enter Tryz.func151, Tryz.ntmps151
  go_wp2
  go_ret
  exact ⟨rfl, rfl⟩

set_option maxRecDepth 100000 in
set_option maxHeartbeats 800000 in
theorem iover152 (B b : Nat) (i : Iv) (q : Value) (w : World) (hI : IvOK B w i) (hb : w.cell? ⟨b, 0, none⟩ = some (.iface 132 (spanV i))) :
    Calls Tryz.prog 152 #[.pointer (some ⟨b, 0, none⟩), .int .i64 (-1), .int .i64 65536, .iface 132 q, .int .u64 1] w (Gives (.bool true) w) := by
  have HI := Lib.hid hI; clear hI
  go_enter Tryz.func152, Tryz.ntmps152
  go_wp2_with fail
  go_region_held3 (fun w' => w'.cell? ⟨b, 0, none⟩ = some (.iface 132 (spanV i))) (first | go_keep | exact hk2.out.cell hb (fun f => f) | exact hk1.out.cell hb (fun f => f))
    (first
      | (go_at_call 155; refine (high155 B i _ ?_).mono ?_; (first | exact HI.out.keeps (Keeps.drew (Keeps.refl (fun _ => False) _)) (fun _ _ f => f) | exact HI.out.keeps hk1.out (fun _ _ f => f)); rintro e w5 ⟨rfl, hk⟩; have hk1 : Hid (Keeps (fun _ => False) w w5) := by (first | exact Keeps.ofDrew hk | exact hk1.out.trans hk (fun _ _ f => f)))
      | (go_at_call 157; refine (low157 B i _ ?_).mono ?_; (first | exact HI.out.keeps (Keeps.drew (Keeps.refl (fun _ => False) _)) (fun _ _ f => f) | exact HI.out.keeps hk1.out (fun _ _ f => f)); rintro e w6 ⟨rfl, hk⟩; have hk2 : Hid (Keeps (fun _ => False) w w6) := by (first | exact Keeps.ofDrew hk | exact hk1.out.trans hk (fun _ _ f => f)))
      | (go_at_call 151; refine (over151 i.k i.k _ HI.out.2.1 HI.out.2.1).mono ?_; rintro e w7 ⟨rfl, hw⟩; have hw := hw.symm; subst hw))
  all_goals
    go_wp2_with fail
    go_loopg [11] 1 (fun kx s11 wr => s11 = .int .u64 2 ∧ wr = w6)
    case atStart => exact ⟨rfl, rfl⟩
    case round =>
      obtain ⟨rfl, rfl⟩ := hrel
      go_wp2_with fail
      go_ret
      exact ⟨rfl, hk2.out⟩
end Go.Proofs.YtegejfhomocloaaGreat
