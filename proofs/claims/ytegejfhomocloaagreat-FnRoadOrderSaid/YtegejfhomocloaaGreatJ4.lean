/- A part of the proof of FnRoadOrder: the plus tree: keys read out. No conditions but those of the theorems. -/
import Derived.Test.YtegejfhomocloaaGreatJ3
set_option linter.all false
namespace Go.Proofs.YtegejfhomocloaaGreat
open Go.RowKit
@[go_sem] theorem ta84ok (x : Value) (w : World) : (Instr.typeAssert (.iface 84 x) 78 84 true).run Tryz.prog w = .ok (.tuple #[x, .bool true]) w := by kernel_rfl
theorem info34 : (Tryz.prog.info? 34).map (fun i => (i.zero, i.size, i.bytes)) = some (some (.agg #[.int .i64 0, .int .i64 0]), 2, 16) := by kernel_rfl
theorem info4 : (Tryz.prog.info? 4).map (fun i => (i.zero, i.size, i.bytes)) = some (some (.bool false), 1, 1) := by kernel_rfl

theorem far {w w' : World} {row : Option Nat} (hg : w.grownBy w' row) {b o : Nat} {v : Value} (hc : w.cell? ⟨b, o, none⟩ = some v) (hne : some b ≠ row) : w'.cell? ⟨b, o, none⟩ = some v := by
  rw [hg.cell_far _ (World.block_lt_of_cell? w _ hc) hne]; exact hc
theorem news2 {w : World} {b : Nat} {x y : Value} {t : TypeId} {fr : Nat × Nat} (h : w.heap[b]? = some (.cells #[x, y] t fr)) : ∀ j u, [x, y][j]? = some u → w.cell? ((⟨b, 0, none⟩ : Addr).add j) = some u := World.news_of_block h
theorem news1 {w : World} {b : Nat} {x : Value} {t : TypeId} {fr : Nat × Nat} (h : w.heap[b]? = some (.cells #[x] t fr)) : ∀ j u, [x][j]? = some u → w.cell? ((⟨b, 0, none⟩ : Addr).add j) = some u := World.news_of_block h
theorem two_of {x y : Value} (h : x.oneCell' = true) (h' : y.oneCell' = true) : ∀ u ∈ [x, y], u.oneCell' = true := fun u hu => by
  simp only [List.mem_cons, List.not_mem_nil, or_false] at hu
  rcases hu with rfl | rfl <;> assumption

/-- An answer that is being filled. -/
structure Answer (B a : Nat) (N : Value) (xs : List (Int × Int)) (w : World) (v h : Value) (hs : List Value) : Prop where
  blk : w.heap[a]? = some (.cells #[v, h, N] 59 (0, 0))
  words : w.ownsRow B 34 2 v xs.length (wordCells xs)
  haves : w.ownsRow B 4 1 h xs.length hs
  apart : ∀ x, v.ownBlock = some x → h.ownBlock ≠ some x

theorem answer_row {w : World} {a : Nat} {cs : Array Value} {t : TypeId} {fr : Nat × Nat} (h : w.heap[a]? = some (.cells cs t fr)) {B e size n : Nat} {v : Value} {xs : List Value} (hr : w.ownsRow B e size v n xs) (ha : a < B) : some a ≠ v.ownBlock := fun e => by
  have := (hr.lt a e.symm).1
  omega

theorem sep1 {v h : Value} {g H : Nat} {w : World} {B e size n : Nat} {hs : List Value} (hat : v.ownBlock = some g ∨ g = H) (hH : w.heap.size ≤ H) (hr : w.ownsRow B e size h n hs) (hap : ∀ x, v.ownBlock = some x → h.ownBlock ≠ some x) : some g ≠ h.ownBlock := fun e => by
  rcases hat with h1 | h1
  · exact hap g h1 e.symm
  · have := (hr.lt g e.symm).2; omega
theorem sep2 {h : Value} {g g' H s : Nat} (hat : h.ownBlock = some g' ∨ g' = H) (hs : some g ≠ h.ownBlock) (hH : s ≤ H) (hlt : g < s) : g ≠ g' := by
  rcases hat with h1 | h1
  · rintro rfl; exact hs h1.symm
  · omega

theorem keepEnd {B a n : Nat} {N : Value} {xs : List (Int × Int)} {v h : Value} {hs : List Value} {k x : Int} {w w3 : World} {g g' cap cap' : Nat} (ha : a < B) (hn : xs.length = n)
    (hA : w3.heap[a]? = some (.cells #[v, h, N] 59 (0, 0))) (hV : w3.ownsRow B 34 2 (.slice (some ⟨g, 0, none⟩) (n + 1) cap) (n + 1) (wordCells xs ++ [.int .i64 k, .int .i64 x])) (hH : w3.ownsRow B 4 1 (.slice (some ⟨g', 0, none⟩) (n + 1) cap') (n + 1) (hs ++ [.bool true]))
    (hS : g ≠ g') (hK : Keeps (fun y => y = a ∨ B ≤ y) w w3) :
    (∃ v' h' hs', Answer B a N (xs ++ [(k, x)]) ((w3.setCell ⟨a, 0, none⟩ (.slice (some ⟨g, 0, none⟩) (n + 1) cap)).setCell ⟨a, 1, none⟩ (.slice (some ⟨g', 0, none⟩) (n + 1) cap')) v' h' hs') ∧
      Keeps (fun y => y = a ∨ B ≤ y) w ((w3.setCell ⟨a, 0, none⟩ (.slice (some ⟨g, 0, none⟩) (n + 1) cap)).setCell ⟨a, 1, none⟩ (.slice (some ⟨g', 0, none⟩) (n + 1) cap')) := by
  have hga : g ≠ a := fun e => by have := (hV.lt g rfl).1; omega
  have hga' : g' ≠ a := fun e => by have := (hH.lt g' rfl).1; omega
  have hl : (xs ++ [(k, x)]).length = n + 1 := by simp [hn]
  refine ⟨⟨_, _, hs ++ [.bool true], heap_setCell_same _ a 1 _ _ _ (heap_setCell_same _ a 0 _ _ _ hA), ?_, ?_, ?_⟩, (hK.setIn a 0 _ (Or.inl rfl)).setIn a 1 _ (Or.inl rfl)⟩
  · rw [hl, show wordCells (xs ++ [(k, x)]) = wordCells xs ++ [.int .i64 k, .int .i64 x] by simp [wordCells]]
    exact ownsRow_setCell_other (ownsRow_setCell_other hV (a := ⟨a, 0, none⟩) (ne_row hga) _) (a := ⟨a, 1, none⟩) (ne_row hga) _
  · rw [hl]
    exact ownsRow_setCell_other (ownsRow_setCell_other hH (a := ⟨a, 0, none⟩) (ne_row hga') _) (a := ⟨a, 1, none⟩) (ne_row hga') _
  · intro y hy hy'
    exact hS ((Option.some.inj hy).trans (Option.some.inj hy').symm)

theorem region_tail {P : Program} {id : Nat} {ops : Array Oper} {b : Bool} {Q : Exit → Act → World → Prop} {a : Act} {w : World} (T : Array Oper → (Exit → Act → World → Prop) → Prop) (h : T ops Q) (k : Hid (T ops Q) → (Code.region id ops b).wp P Q a w) : (Code.region id ops b).wp P Q a w := k h
theorem one_left {G : Prop} {w : World} (_d : wpAny Tryz.prog .any #[] (fun _ _ _ => Hid True) 0 #[] ⟨#[], []⟩ w) (g : G) : G := g

set_option linter.unusedVariables false
set_option maxRecDepth 100000 in
set_option maxHeartbeats 4000000 in
theorem keep16 (B a n : Nat) (N : Value) (xs : List (Int × Int)) (v h : Value) (hs : List Value) (k x : Int) (w : World) (ha : a < B) (hB : B ≤ w.heap.size) (hn : xs.length = n) (hlen : n ≤ 100) (hA : Answer B a N xs w v h hs) :
    Calls Tryz.prog 16 #[.pointer (some ⟨a, 0, none⟩), .iface 84 (.agg #[.int .i64 k, .int .i64 x])] w fun e w' => e = .returned (.tuple #[]) ∧ (∃ v' h' hs', Answer B a N (xs ++ [(k, x)]) w' v' h' hs') ∧ Keeps (fun y => y = a ∨ B ≤ y) w w' := by
  obtain ⟨hblk, hv, hh, hap⟩ := hA
  rw [hn] at hv hh
  have nv := answer_row hblk hv ha
  have nh := answer_row hblk hh ha
  have gez : ∀ y, w.heap.size ≤ y → some y ≠ v.ownBlock ∧ some y ≠ h.ownBlock := fun y hy => ⟨fun e => by have := (hv.lt _ e.symm).2; omega, fun e => by have := (hh.lt _ e.symm).2; omega⟩
  have ZV := Lib.hid (gez _ (Nat.le_refl _)).1
  have ZH := Lib.hid (gez _ (Nat.le_refl _)).2
  have Z1V := Lib.hid (gez (w.heap.size + 1) (by omega)).1
  have Z2V := Lib.hid (gez (w.heap.size + 2) (by omega)).1
  obtain ⟨i0, hi0, hiz, his, hib⟩ := info_parts info34
  obtain ⟨j0, hj0, hjz, hjs, hjb⟩ := info_parts info4
  have hmx : n + 1 ≤ maxLen := by simp only [maxLen]; omega
  have HK := Lib.hid (Keeps.alloc (Keeps.refl (fun y => y = a ∨ B ≤ y) w) (.cells #[.int .i64 k, .int .i64 x] 84))
  have HV := Lib.hid (World.ownsRow.alloc hv (.cells #[.int .i64 k, .int .i64 x] 84))
  have HH := Lib.hid (World.ownsRow.alloc hh (.cells #[.int .i64 k, .int .i64 x] 84))
  have HLH := Lib.hid hh
  have HA := Lib.hid (alloc_heap w (.cells #[.int .i64 k, .int .i64 x] 84) hblk)
  have HZ := Lib.hid (heap_alloc_new w (.cells #[.int .i64 k, .int .i64 x] 84))
  have HAP := Lib.hid hap
  have HN := Lib.hid hn
  have HVH : Hid (h.ownBlock = none ∨ h.ownBlock ≠ v.ownBlock) := by
    cases hb : h.ownBlock with
    | none => exact .inl rfl
    | some y => exact .inr (fun e => hap y e.symm hb)
  have ROWV : Hid (∀ b, v.ownBlock = some b → b < w.heap.size → b = a ∨ B ≤ b) := fun b hb _ => .inr (hv.lt b hb).1
  have ROWH : Hid (∀ b, h.ownBlock = some b → b < w.heap.size → b = a ∨ B ≤ b) := fun b hb _ => .inr (hh.lt b hb).1
  have hsz : (w.alloc (.cells #[.int .i64 k, .int .i64 x] 84)).heap.size = w.heap.size + 1 := by simp
  have NV := Lib.hid nv
  have NH := Lib.hid nh
  have haz : ¬ a = w.heap.size := by omega
  have hza : ¬ w.heap.size = a := by omega
  clear hv hh hblk hap nv nh hn gez
  go_enter Tryz.func16, Tryz.ntmps16
  go_wp2_with fail
  generalize w.alloc (.cells #[.int .i64 k, .int .i64 x] 84) = w1 at HK HV HH HA HZ hsz ⊢
  have hzz : w.heap.size = w.heap.size := rfl
  have c10 : w1.cell? ⟨a, 0, none⟩ = some v := cell_at HA.out 0
  have c11 : w1.cell? ⟨a, 1, none⟩ = some h := cell_at HA.out 1
  generalize hz : w.heap.size = z at HZ hsz ZV ZH Z1V Z2V haz hza hB ⊢
  have z10 : w1.cell? ⟨z, 0, none⟩ = some (.int .i64 k) := cell_at HZ.out 0
  have z11 : w1.cell? ⟨z, 1, none⟩ = some (.int .i64 x) := cell_at HZ.out 1
  have HZZ := Lib.hid hz; clear hz hzz
  have d10 : ∀ o, (w1.alloc o).cell? ⟨a, 0, none⟩ = some v := fun o => cell_at (alloc_heap w1 o HA.out) 0
  have d11 : ∀ o, (w1.alloc o).cell? ⟨a, 1, none⟩ = some h := fun o => cell_at (alloc_heap w1 o HA.out) 1
  have d20 : ∀ o o', ((w1.alloc o).alloc o').cell? ⟨a, 0, none⟩ = some v := fun o o' => cell_at (alloc_heap _ o' (alloc_heap w1 o HA.out)) 0
  have d21 : ∀ o o', ((w1.alloc o).alloc o').cell? ⟨a, 1, none⟩ = some h := fun o o' => cell_at (alloc_heap _ o' (alloc_heap w1 o HA.out)) 1
  have e10 : ∀ o, (w1.alloc o).cell? ⟨z, 0, none⟩ = some (.int .i64 k) := fun o => cell_at (alloc_heap w1 o HZ.out) 0
  have e11 : ∀ o, (w1.alloc o).cell? ⟨z, 1, none⟩ = some (.int .i64 x) := fun o => cell_at (alloc_heap w1 o HZ.out) 1
  refine region_tail (fun ops Q => ∀ (s0 s1 s2 s3 s4 s5 s6 s7 s8 s9 s10 s13 s14 s15 s16 s17 s18 s19 s21 s22 s23 s24 s25 s26 s28 s29 s30 s31 : Value) (w3 : World) (g cap g' cap' : Nat) (listed : Array Bool), listed = #[true, true, true, true, true, true, true, true, true, true, true, true, true, true, true, true, true, false, false, false, false, false, false] →
    Hid (w3.heap[a]? = some (.cells #[v, h, N] 59 (0, 0))) → Hid (w3.ownsRow B 34 2 (.slice (some ⟨g, 0, none⟩) (n + 1) cap) (n + 1) (wordCells xs ++ [.int .i64 k, .int .i64 x])) → Hid (w3.ownsRow B 4 1 (.slice (some ⟨g', 0, none⟩) (n + 1) cap') (n + 1) (hs ++ [.bool true])) →
    Hid (g ≠ g') → Hid (Keeps (fun y => y = a ∨ B ≤ y) w w3) → wpAny Tryz.prog .any ops Q 6 listed ⟨#[s0, s1, s2, s3, s4, s5, s6, s7, s8, s9, s10, .pointer (some ⟨a, 0, none⟩), .pointer (some ⟨a, 0, none⟩), s13, s14, s15, s16, s17, s18, s19, .slice (some ⟨g, 0, none⟩) (n + 1) cap, s21, s22, s23, s24, s25, s26, .slice (some ⟨g', 0, none⟩) (n + 1) cap', s28, s29, s30, s31], []⟩ w3) ?_ (fun TAIL => ?_)
  · intro s0 s1 s2 s3 s4 s5 s6 s7 s8 s9 s10 s13 s14 s15 s16 s17 s18 s19 s21 s22 s23 s24 s25 s26 s28 s29 s30 s31 w3 g cap g' cap' listed hl HA3 HV3 HH3 HS3 HK3
    subst hl
    clear d10 d11 d20 d21 e10 e11 c10 c11 z10 z11
    have c31 : w3.cell? ⟨a, 1, none⟩ = some h := cell_at HA3.out 1
    have c30 : w3.cell? ⟨a, 0, none⟩ = some v := cell_at HA3.out 0
    have f30 : w3.frozen? ⟨a, 0, none⟩ = false := free_at HA3.out 0
    have f31 : w3.frozen? ⟨a, 1, none⟩ = false := free_at HA3.out 1
    refine wpAny_take (i := 17) (v := ?_) rfl (by kernel_rfl) (by kernel_rfl) (by kernel_rfl) (fun _ _ _ h => h) (Or.inl ⟨by rfl, ?_⟩) ?_
    rotate_left
    · intro w; go_simp; with_reducible rfl
    simp only [List.getElem_toArray, List.getElem_cons_succ, List.getElem_cons_zero, Act.put, List.setIfInBounds_toArray, List.set_cons_zero, List.set_cons_succ]
    refine wpAny_take (i := 18) (v := ?_) rfl (by kernel_rfl) (by kernel_rfl) (by kernel_rfl) (fun _ _ _ h => h) (Or.inl ⟨by rfl, ?_⟩) ?_
    rotate_left
    · intro w; go_simp; with_reducible rfl
    simp only [List.getElem_toArray, List.getElem_cons_succ, List.getElem_cons_zero, Act.put, List.setIfInBounds_toArray, List.set_cons_zero, List.set_cons_succ]
    refine wpAny_ready (rs := [19]) (by kernel_rfl) (by simp) ?_
    refine AllReady.cons rfl (fun K hK => ?_) AllReady.nil
    simp only [List.getElem_toArray, List.getElem_cons_succ, List.getElem_cons_zero]
    go_simp
    refine hK _ _ ?_
    clear hK K
    try simp only [List.getElem_toArray, List.getElem_cons_succ, List.getElem_cons_zero, Act.put, List.setIfInBounds_toArray, List.set_cons_zero, List.set_cons_succ]
    refine wpAny_take (i := 20) (v := ?_) rfl (by kernel_rfl) (by kernel_rfl) (by kernel_rfl) (fun _ _ _ h => h) (Or.inl ⟨by rfl, ?_⟩) ?_
    rotate_left
    · intro w; go_simp; with_reducible rfl
    simp only [List.getElem_toArray, List.getElem_cons_succ, List.getElem_cons_zero, Act.put, List.setIfInBounds_toArray, List.set_cons_zero, List.set_cons_succ]
    refine wpAny_take (i := 21) (v := ?_) rfl (by kernel_rfl) (by kernel_rfl) (by kernel_rfl) (fun _ _ _ h => h) (Or.inl ⟨by rfl, ?_⟩) ?_
    rotate_left
    · intro w; go_simp; with_reducible rfl
    simp only [List.getElem_toArray, List.getElem_cons_succ, List.getElem_cons_zero, Act.put, List.setIfInBounds_toArray, List.set_cons_zero, List.set_cons_succ]
    refine wpAny_ready (rs := [22]) (by kernel_rfl) (by simp) ?_
    refine AllReady.cons rfl (fun K hK => ?_) AllReady.nil
    simp only [List.getElem_toArray, List.getElem_cons_succ, List.getElem_cons_zero]
    go_simp
    refine hK _ _ ?_
    clear hK K
    try simp only [List.getElem_toArray, List.getElem_cons_succ, List.getElem_cons_zero, Act.put, List.setIfInBounds_toArray, List.set_cons_zero, List.set_cons_succ]
    refine wpAny_done (by kernel_rfl) ?_ _
    go_wp2_with fail
    first | go_end0 | go_ret
    exact ⟨rfl, keepEnd ha HN.out HA3.out HV3.out HH3.out HS3.out HK3.out⟩
  go_region_law
    (first
      | ((refine step_append_lies _ (by rfl) (.tmp 16) (.tmp 19) 26 (by rfl) B 34 i0 _ 2 16 Tryz.underlying26 hi0 hiz his hib (by rfl) (by omega) v n (wordCells xs) (by rfl) (HV.out.alloc _) ⟨z + 1, 0, none⟩ 1 1 [.int .i64 k, .int .i64 x] (by rfl) (by rfl) (news2 (alloc_at w1 _ (z + 1) hsz.symm)) (two_of rfl rfl) (by omega) hmx (by omega) (by simp [hsz]; omega) _ rfl ?_); intro g cap w2 hO hg hat hlt; have HZ2 : Hid (w2.heap[z]? = some (.cells #[.int .i64 k, .int .i64 x] 84 (0, 0))) := grown_heap hg (by first | exact alloc_heap _ _ (alloc_heap _ _ HZ.out) | exact alloc_heap _ _ HZ.out) ZV.out; have HA2 : Hid (w2.heap[a]? = some (.cells #[v, h, N] 59 (0, 0))) := grown_heap hg (by first | exact alloc_heap _ _ (alloc_heap _ _ HA.out) | exact alloc_heap _ _ HA.out) NV.out; have HH2 : Hid (w2.ownsRow B 4 1 h n hs) := World.ownsRow.kept (by first | exact (HH.out.alloc _).alloc _ | exact HH.out.alloc _) hg HVH.out; have HK2 : Hid (Keeps (fun y => y = a ∨ B ≤ y) w w2) := Keeps.grown (by first | exact (HK.out.alloc _).drew | exact ((HK.out.alloc _).alloc _).drew) hg ROWV.out; have HS2 : Hid (some g ≠ h.ownBlock) := sep1 hat (by simp [hsz, HZZ.out]; try omega) HLH.out HAP.out; have HV2 := Lib.hid hO; have HGL := Lib.hid (show g < w2.heap.size from hlt);  have hs2 : z ≤ w2.heap.size := Nat.le_trans (Nat.le_of_eq HZZ.out.symm) HK2.out.size; have z20 : w2.cell? ⟨z, 0, none⟩ = some (.int .i64 k) := cell_at HZ2.out 0; have z21 : w2.cell? ⟨z, 1, none⟩ = some (.int .i64 x) := cell_at HZ2.out 1; have c21 : w2.cell? ⟨a, 1, none⟩ = some h := cell_at HA2.out 1; have c20 : w2.cell? ⟨a, 0, none⟩ = some v := cell_at HA2.out 0; have n21 : ∀ o, (w2.alloc o).cell? ⟨a, 1, none⟩ = some h := fun o => cell_at (alloc_heap w2 o HA2.out) 1; have f20 : w2.frozen? ⟨a, 0, none⟩ = false := free_at HA2.out 0; have f21 : w2.frozen? ⟨a, 1, none⟩ = false := free_at HA2.out 1; clear hO hat hlt hg)
      | ((refine step_append_lies _ (by rfl) (.tmp 16) (.tmp 19) 26 (by rfl) B 34 i0 _ 2 16 Tryz.underlying26 hi0 hiz his hib (by rfl) (by omega) v n (wordCells xs) (by rfl) ((HV.out.alloc _).alloc _) ⟨z + 1, 0, none⟩ 1 1 [.int .i64 k, .int .i64 x] (by rfl) (by rfl) (news2 (alloc_heap _ _ (alloc_at w1 _ (z + 1) hsz.symm))) (two_of rfl rfl) (by omega) hmx (by omega) (by simp [hsz]; omega) _ rfl ?_); intro g cap w2 hO hg hat hlt; have HZ2 : Hid (w2.heap[z]? = some (.cells #[.int .i64 k, .int .i64 x] 84 (0, 0))) := grown_heap hg (by first | exact alloc_heap _ _ (alloc_heap _ _ HZ.out) | exact alloc_heap _ _ HZ.out) ZV.out; have HA2 : Hid (w2.heap[a]? = some (.cells #[v, h, N] 59 (0, 0))) := grown_heap hg (by first | exact alloc_heap _ _ (alloc_heap _ _ HA.out) | exact alloc_heap _ _ HA.out) NV.out; have HH2 : Hid (w2.ownsRow B 4 1 h n hs) := World.ownsRow.kept (by first | exact (HH.out.alloc _).alloc _ | exact HH.out.alloc _) hg HVH.out; have HK2 : Hid (Keeps (fun y => y = a ∨ B ≤ y) w w2) := Keeps.grown (by first | exact (HK.out.alloc _).drew | exact ((HK.out.alloc _).alloc _).drew) hg ROWV.out; have HS2 : Hid (some g ≠ h.ownBlock) := sep1 hat (by simp [hsz, HZZ.out]; try omega) HLH.out HAP.out; have HV2 := Lib.hid hO; have HGL := Lib.hid (show g < w2.heap.size from hlt); have HE : Hid (w2.heap[z + 2]? = some (.cells #[.bool true] 4 (0, 0))) := grown_heap hg (alloc_at _ _ (z + 2) (by simp [hsz])) Z2V.out; have hs2 : z ≤ w2.heap.size := Nat.le_trans (Nat.le_of_eq HZZ.out.symm) HK2.out.size; have z20 : w2.cell? ⟨z, 0, none⟩ = some (.int .i64 k) := cell_at HZ2.out 0; have z21 : w2.cell? ⟨z, 1, none⟩ = some (.int .i64 x) := cell_at HZ2.out 1; have c21 : w2.cell? ⟨a, 1, none⟩ = some h := cell_at HA2.out 1; have c20 : w2.cell? ⟨a, 0, none⟩ = some v := cell_at HA2.out 0; have n21 : ∀ o, (w2.alloc o).cell? ⟨a, 1, none⟩ = some h := fun o => cell_at (alloc_heap w2 o HA2.out) 1; have f20 : w2.frozen? ⟨a, 0, none⟩ = false := free_at HA2.out 0; have f21 : w2.frozen? ⟨a, 1, none⟩ = false := free_at HA2.out 1; clear hO hat hlt hg)
      | ((refine step_append_lies _ (by rfl) (.tmp 16) (.tmp 19) 26 (by rfl) B 34 i0 _ 2 16 Tryz.underlying26 hi0 hiz his hib (by rfl) (by omega) v n (wordCells xs) (by rfl) ((HV.out.alloc _).alloc _) ⟨z + 2, 0, none⟩ 1 1 [.int .i64 k, .int .i64 x] (by rfl) (by rfl) (news2 (alloc_at _ _ (z + 2) (by simp [hsz]))) (two_of rfl rfl) (by omega) hmx (by omega) (by simp [hsz]; omega) _ rfl ?_); intro g cap w2 hO hg hat hlt; have HZ2 : Hid (w2.heap[z]? = some (.cells #[.int .i64 k, .int .i64 x] 84 (0, 0))) := grown_heap hg (by first | exact alloc_heap _ _ (alloc_heap _ _ HZ.out) | exact alloc_heap _ _ HZ.out) ZV.out; have HA2 : Hid (w2.heap[a]? = some (.cells #[v, h, N] 59 (0, 0))) := grown_heap hg (by first | exact alloc_heap _ _ (alloc_heap _ _ HA.out) | exact alloc_heap _ _ HA.out) NV.out; have HH2 : Hid (w2.ownsRow B 4 1 h n hs) := World.ownsRow.kept (by first | exact (HH.out.alloc _).alloc _ | exact HH.out.alloc _) hg HVH.out; have HK2 : Hid (Keeps (fun y => y = a ∨ B ≤ y) w w2) := Keeps.grown (by first | exact (HK.out.alloc _).drew | exact ((HK.out.alloc _).alloc _).drew) hg ROWV.out; have HS2 : Hid (some g ≠ h.ownBlock) := sep1 hat (by simp [hsz, HZZ.out]; try omega) HLH.out HAP.out; have HV2 := Lib.hid hO; have HGL := Lib.hid (show g < w2.heap.size from hlt); have HE : Hid (w2.heap[z + 1]? = some (.cells #[.bool true] 4 (0, 0))) := grown_heap hg (alloc_heap _ _ (alloc_at w1 _ (z + 1) hsz.symm)) Z1V.out; have hs2 : z ≤ w2.heap.size := Nat.le_trans (Nat.le_of_eq HZZ.out.symm) HK2.out.size; have z20 : w2.cell? ⟨z, 0, none⟩ = some (.int .i64 k) := cell_at HZ2.out 0; have z21 : w2.cell? ⟨z, 1, none⟩ = some (.int .i64 x) := cell_at HZ2.out 1; have c21 : w2.cell? ⟨a, 1, none⟩ = some h := cell_at HA2.out 1; have c20 : w2.cell? ⟨a, 0, none⟩ = some v := cell_at HA2.out 0; have n21 : ∀ o, (w2.alloc o).cell? ⟨a, 1, none⟩ = some h := fun o => cell_at (alloc_heap w2 o HA2.out) 1; have f20 : w2.frozen? ⟨a, 0, none⟩ = false := free_at HA2.out 0; have f21 : w2.frozen? ⟨a, 1, none⟩ = false := free_at HA2.out 1; clear hO hat hlt hg)
      | ((refine step_append_lies _ (by rfl) (.tmp 24) (.tmp 26) 57 (by rfl) B 4 j0 _ 1 1 Tryz.underlying57 hj0 hjz hjs hjb (by rfl) (by omega) h n hs (by rfl) HH2.out ⟨z + 1, 0, none⟩ 1 1 [.bool true] (by rfl) (by rfl) (news1 HE.out) (one_of rfl) (by omega) hmx (by omega) (by omega) _ rfl ?_); intro g' cap' w3 hO hg hat hlt; have HZ3 : Hid (w3.heap[z]? = some (.cells #[.int .i64 k, .int .i64 x] 84 (0, 0))) := grown_heap hg (by first | exact alloc_heap _ _ HZ2.out | exact HZ2.out) ZH.out; have HA3 : Hid (w3.heap[a]? = some (.cells #[v, h, N] 59 (0, 0))) := grown_heap hg (by first | exact alloc_heap _ _ HA2.out | exact HA2.out) NH.out; have HV3 : Hid (w3.ownsRow B 34 2 (.slice (some ⟨g, 0, none⟩) (n + 1) cap) (n + 1) (wordCells xs ++ [.int .i64 k, .int .i64 x])) := World.ownsRow.kept (by first | exact HV2.out.alloc _ | exact HV2.out) hg (.inr HS2.out); have HK3 : Hid (Keeps (fun y => y = a ∨ B ≤ y) w w3) := Keeps.grown (by first | exact HK2.out.alloc _ | exact HK2.out | exact HK2.out.drew | exact (HK2.out.alloc _).drew) hg ROWH.out; have HS3 : Hid (g ≠ g') := sep2 hat HS2.out (Nat.le_refl _) HGL.out; have HH3 := Lib.hid hO; have z30 : w3.cell? ⟨z, 0, none⟩ = some (.int .i64 k) := cell_at HZ3.out 0; have z31 : w3.cell? ⟨z, 1, none⟩ = some (.int .i64 x) := cell_at HZ3.out 1; have c31 : w3.cell? ⟨a, 1, none⟩ = some h := cell_at HA3.out 1; have c30 : w3.cell? ⟨a, 0, none⟩ = some v := cell_at HA3.out 0; have f30 : w3.frozen? ⟨a, 0, none⟩ = false := free_at HA3.out 0; have f31 : w3.frozen? ⟨a, 1, none⟩ = false := free_at HA3.out 1; clear z20 z21 c20 c21 f20 f21 n21 hO hat hlt hg; rename_i hGo; try simp only [Act.put, List.setIfInBounds_toArray, List.set_cons_zero, List.set_cons_succ]; refine one_left (w := w3) ?_ (hGo _ _ (TAIL.out _ _ _ _ _ _ _ _ _ _ _ _ _ _ _ _ _ _ _ _ _ _ _ _ _ _ _ _ w3 g cap g' cap' _ (by kernel_rfl) HA3 HV3 HH3 HS3 HK3)))
      | ((refine step_append_lies _ (by rfl) (.tmp 24) (.tmp 26) 57 (by rfl) B 4 j0 _ 1 1 Tryz.underlying57 hj0 hjz hjs hjb (by rfl) (by omega) h n hs (by rfl) HH2.out ⟨z + 2, 0, none⟩ 1 1 [.bool true] (by rfl) (by rfl) (news1 HE.out) (one_of rfl) (by omega) hmx (by omega) (by omega) _ rfl ?_); intro g' cap' w3 hO hg hat hlt; have HZ3 : Hid (w3.heap[z]? = some (.cells #[.int .i64 k, .int .i64 x] 84 (0, 0))) := grown_heap hg (by first | exact alloc_heap _ _ HZ2.out | exact HZ2.out) ZH.out; have HA3 : Hid (w3.heap[a]? = some (.cells #[v, h, N] 59 (0, 0))) := grown_heap hg (by first | exact alloc_heap _ _ HA2.out | exact HA2.out) NH.out; have HV3 : Hid (w3.ownsRow B 34 2 (.slice (some ⟨g, 0, none⟩) (n + 1) cap) (n + 1) (wordCells xs ++ [.int .i64 k, .int .i64 x])) := World.ownsRow.kept (by first | exact HV2.out.alloc _ | exact HV2.out) hg (.inr HS2.out); have HK3 : Hid (Keeps (fun y => y = a ∨ B ≤ y) w w3) := Keeps.grown (by first | exact HK2.out.alloc _ | exact HK2.out | exact HK2.out.drew | exact (HK2.out.alloc _).drew) hg ROWH.out; have HS3 : Hid (g ≠ g') := sep2 hat HS2.out (Nat.le_refl _) HGL.out; have HH3 := Lib.hid hO; have z30 : w3.cell? ⟨z, 0, none⟩ = some (.int .i64 k) := cell_at HZ3.out 0; have z31 : w3.cell? ⟨z, 1, none⟩ = some (.int .i64 x) := cell_at HZ3.out 1; have c31 : w3.cell? ⟨a, 1, none⟩ = some h := cell_at HA3.out 1; have c30 : w3.cell? ⟨a, 0, none⟩ = some v := cell_at HA3.out 0; have f30 : w3.frozen? ⟨a, 0, none⟩ = false := free_at HA3.out 0; have f31 : w3.frozen? ⟨a, 1, none⟩ = false := free_at HA3.out 1; clear z20 z21 c20 c21 f20 f21 n21 hO hat hlt hg; rename_i hGo; try simp only [Act.put, List.setIfInBounds_toArray, List.set_cons_zero, List.set_cons_succ]; refine one_left (w := w3) ?_ (hGo _ _ (TAIL.out _ _ _ _ _ _ _ _ _ _ _ _ _ _ _ _ _ _ _ _ _ _ _ _ _ _ _ _ w3 g cap g' cap' _ (by kernel_rfl) HA3 HV3 HH3 HS3 HK3)))
      | ((refine step_append_lies _ (by rfl) (.tmp 24) (.tmp 26) 57 (by rfl) B 4 j0 _ 1 1 Tryz.underlying57 hj0 hjz hjs hjb (by rfl) (by omega) h n hs (by rfl) (HH2.out.alloc _) ⟨w2.heap.size, 0, none⟩ 1 1 [.bool true] (by rfl) (by rfl) (news1 (heap_alloc_new w2 _)) (one_of rfl) (by omega) hmx (by omega) (by simp; omega) _ rfl ?_); intro g' cap' w3 hO hg hat hlt; have HZ3 : Hid (w3.heap[z]? = some (.cells #[.int .i64 k, .int .i64 x] 84 (0, 0))) := grown_heap hg (by first | exact alloc_heap _ _ HZ2.out | exact HZ2.out) ZH.out; have HA3 : Hid (w3.heap[a]? = some (.cells #[v, h, N] 59 (0, 0))) := grown_heap hg (by first | exact alloc_heap _ _ HA2.out | exact HA2.out) NH.out; have HV3 : Hid (w3.ownsRow B 34 2 (.slice (some ⟨g, 0, none⟩) (n + 1) cap) (n + 1) (wordCells xs ++ [.int .i64 k, .int .i64 x])) := World.ownsRow.kept (by first | exact HV2.out.alloc _ | exact HV2.out) hg (.inr HS2.out); have HK3 : Hid (Keeps (fun y => y = a ∨ B ≤ y) w w3) := Keeps.grown (by first | exact HK2.out.alloc _ | exact HK2.out | exact HK2.out.drew | exact (HK2.out.alloc _).drew) hg ROWH.out; have HS3 : Hid (g ≠ g') := sep2 hat HS2.out (by simp) HGL.out; have HH3 := Lib.hid hO; have z30 : w3.cell? ⟨z, 0, none⟩ = some (.int .i64 k) := cell_at HZ3.out 0; have z31 : w3.cell? ⟨z, 1, none⟩ = some (.int .i64 x) := cell_at HZ3.out 1; have c31 : w3.cell? ⟨a, 1, none⟩ = some h := cell_at HA3.out 1; have c30 : w3.cell? ⟨a, 0, none⟩ = some v := cell_at HA3.out 0; have f30 : w3.frozen? ⟨a, 0, none⟩ = false := free_at HA3.out 0; have f31 : w3.frozen? ⟨a, 1, none⟩ = false := free_at HA3.out 1; clear z20 z21 c20 c21 f20 f21 n21 hO hat hlt hg; rename_i hGo; try simp only [Act.put, List.setIfInBounds_toArray, List.set_cons_zero, List.set_cons_succ]; refine one_left (w := w3) ?_ (hGo _ _ (TAIL.out _ _ _ _ _ _ _ _ _ _ _ _ _ _ _ _ _ _ _ _ _ _ _ _ _ _ _ _ w3 g cap g' cap' _ (by kernel_rfl) HA3 HV3 HH3 HS3 HK3))))
  all_goals exact Lib.hid trivial
end Go.Proofs.YtegejfhomocloaaGreat
