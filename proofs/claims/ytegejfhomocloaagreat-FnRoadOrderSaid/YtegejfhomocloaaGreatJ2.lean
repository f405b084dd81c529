/- A part of the proof of FnRoadOrder: the plus tree: insertion and splits. No conditions but those of the theorems. -/
import Derived.Test.YtegejfhomocloaaGreatJ1
set_option linter.all false
namespace Go.Proofs.YtegejfhomocloaaGreat
open Go.RowKit

/-- A key put into a leaf in its place. -/
def LeafIns (l : Leaf) (nx : Option Nat) (k v : Int) (w : World) (e : Ending) (w' : World) : Prop :=
  ∃ p : Nat, p ≤ l.ks.length ∧ (∀ i, i < p → kOf l.ks i < k) ∧ (∀ i, p ≤ i → i < l.ks.length → k < kOf l.ks i) ∧ e = .returned (.bool true) ∧
    LeafRep w' nx ⟨l.b, l.g, ins l.ks p (k, v)⟩ ∧ Keeps (fun x => x = l.b ∨ x = l.g) w w'

theorem ins_map {α β : Type} (f : α → β) (xs : List α) (i : Nat) (x : α) : ins (xs.map f) i (f x) = (ins xs i x).map f := by
  simp [ins, List.map_take, List.map_drop]
theorem ins_end {α : Type} (xs : List α) (x : α) : ins xs xs.length x = xs ++ [x] := by simp [ins]

set_option maxRecDepth 100000 in
set_option maxHeartbeats 1000000 in
theorem leafInsert (l : Leaf) (nx : Option Nat) (t k v : Int) (tv : Value) (w : World) (h : LeafRep w nx l) (hn : l.ks.length ≤ 11) (hbg : l.b ≠ l.g)
    (hmono : ∀ i j, i < j → j < l.ks.length → kOf l.ks i < kOf l.ks j) (hk : ∀ i, i < l.ks.length → kOf l.ks i ≠ k) (_ht : t = t) :
    Calls Tryz.prog 43 #[.pointer (some ⟨l.b, 0, none⟩), tv, .iface 84 (.agg #[.int .i64 k, .int .i64 v])] w (LeafIns l nx k v w) := by
  obtain ⟨b, g, ks⟩ := l
  obtain ⟨hb, hrow⟩ := h
  simp only at hb hrow hn hbg hmono hk
  obtain ⟨i0, hi0, hiz, his, hib⟩ := info_parts info78
  have hgl : g < w.heap.size := (hrow.lt g rfl).2
  have hbl := lt_of_block hb
  obtain ⟨n, hnn⟩ : ∃ n, n = ks.length := ⟨_, rfl⟩
  rw [← hnn] at hb hrow hn hmono hk
  have c1 : w.cell? ⟨b, 1, none⟩ = some (.slice (some ⟨g, 0, none⟩) n 12) := cell_at hb 1
  have hS := keySearch_any g n 12 (kOf ks) (vOf ks) k v w (by omega) hgl (row_keys hrow) hmono
  have HB := Lib.hid hb; clear hb
  have HR := Lib.hid hrow; clear hrow
  have HN := Lib.hid hnn; clear hnn
  have HK := Lib.hid hk; clear hk
  have HM := Lib.hid hmono; clear hmono
  have hne : b ≠ g := hbg
  go_enter Tryz.func43, Tryz.ntmps43
  go_wp2_with fail
  refine hS.mono ?_
  rintro e w1 ⟨p, hp, h1, h2, rfl, hB⟩
  clear hS
  have HF := Lib.hid (⟨h1, h2⟩ : (∀ i, i < p → kOf ks i < k) ∧ (∀ i, p ≤ i → i < n → k ≤ kOf ks i)); clear h1 h2
  have hk1 : Keeps (fun x => x = b ∨ x = g) w w1 := Keeps.of_new hB
  have hb1 := (Keeps.of_new (F := fun _ => False) hB).heap HB.out (fun f => f)
  have hr1 := (Keeps.of_new (F := fun _ => False) hB).row HR.out (fun _ _ f => f)
  clear c1
  have c1 : w1.cell? ⟨b, 1, none⟩ = some (.slice (some ⟨g, 0, none⟩) n 12) := cell_at hb1 1
  have f1 : w1.frozen? ⟨b, 1, none⟩ = false := free_at hb1 1
  have hz1 := hB.size
  have HK1 := Lib.hid hk1; clear hk1
  have HB1 := Lib.hid hb1; clear hb1
  have HR1 := Lib.hid hr1; clear hr1
  clear hB
  have hng := ne_row hne
  have NG := Lib.hid hng; clear hng
  rcases Nat.lt_or_ge p n with hpn | hpn
  · have hlt : k < kOf ks p := by have h3 := HF.out.2 p (Nat.le_refl _) hpn; have h4 := HK.out p hpn; omega
    have c2 := row_keys HR1.out p hpn
    have hC := compare_any (kOf ks p) (vOf ks p) k v w1
    rw [cmpK_lt hlt] at hC
    have hin : ((p : Int) == (n : Int)) = false := by simp; omega
    go_wp2_with (go_at_call 98; refine hC.mono ?_; rintro e w2 ⟨rfl, hB2⟩; clear hC c1 f1 c2; have HBB := Lib.hid hB2; clear hB2; have HI := Lib.hid (insertAt58 b 1 g n 12 (ks.map keyV) _ 199 p k v w2 ((Keeps.of_new (F := fun _ => False) HBB.out).heap HB1.out (fun f => f)) rfl ((Keeps.of_new (F := fun _ => False) HBB.out).row HR1.out (fun _ _ f => f)) hne hpn (by omega) (by omega) (keyV_one ks)))
    refine HI.out.mono ?_
    rintro e w3 ⟨rfl, hP, hO, hK⟩
    clear HI
    have HP3 := Lib.hid hP; clear hP
    have HO3 := Lib.hid hO; clear hO
    have HK3 := Lib.hid hK; clear hK
    go_wp2
    go_ret
    have hl : (ins ks p (k, v)).length = n + 1 := by rw [ins_length _ _ _ (by rw [← HN.out]; exact hp), HN.out]
    refine ⟨p, by rw [← HN.out]; exact hp, HF.out.1, fun i h3 h4 => ?_, rfl, ⟨?_, ?_⟩, (HK1.out.new HBB.out).trans HK3.out fun x _ hx => hx⟩
    · rw [← HN.out] at h4
      have h5 := HF.out.2 i h3 h4; have h6 := HK.out i h4; show k < kOf ks i; omega
    · simp only [hl]; exact HP3.out
    · simp only [hl]
      rw [← ins_map]; exact HO3.out
  · obtain rfl : p = n := by omega
    go_wp2_with (at_builtin; refine wpList_append_fits _ rfl _ _ _ rfl 0 78 i0 1 Tryz.underlying197 hi0 his g p 12 _ rfl (HR1.out.alloc _) ⟨w1.heap.size, 0, none⟩ 1 1 [keyV (k, v)] rfl (by rfl) (cell_one_new _ _ _) (one_of rfl) (by omega) ?_; intro w2 hO2 hg2; have HO2 := Lib.hid hO2; clear hO2; have hB2 := grown_heap hg2 (alloc_heap _ _ HB1.out) NG.out; clear c1 f1; have c1 : w2.cell? ⟨b, 1, none⟩ = some (.slice (some ⟨g, 0, none⟩) p 12) := cell_at hB2 1; have f1 : w2.frozen? ⟨b, 1, none⟩ = false := free_at hB2 1; have HB2 := Lib.hid hB2; clear hB2)
    go_ret
    have hl : (ins ks p (k, v)).length = p + 1 := by rw [ins_length _ _ _ (by rw [← HN.out]; exact hp), HN.out]
    refine ⟨p, by rw [← HN.out]; exact hp, HF.out.1, fun i h3 h4 => ?_, rfl, ⟨?_, ?_⟩, ((HK1.out.alloc _).grownIn hg2 (Or.inr rfl)).setIn b 1 _ (Or.inl rfl)⟩
    · rw [← HN.out] at h4; omega
    · simp only [hl]
      exact heap_setCell_same w2 b 1 _ _ _ HB2.out
    · simp only [hl]
      have : ins ks p (k, v) = ks ++ [(k, v)] := by rw [HN.out]; exact ins_end _ _
      rw [this, List.map_append]
      exact ownsRow_setCell_other HO2.out (a := ⟨b, 1, none⟩) (Ne.symm NG.out) _
end Go.Proofs.YtegejfhomocloaaGreat

namespace Go.Proofs.YtegejfhomocloaaGreat
open Go.RowKit

@[go_sem] theorem na146 (p : Addr) (w : World) : (nilAhead 446 146 (.pointer (some p)) "given.example/pub-lumberyard/pub/godatastructures/btree/plus.needsSplit").run Tryz.prog w = .ok (some false) w := by kernel_rfl
@[go_sem] theorem na204 (p : Addr) (w : World) : (nilAhead 446 204 (.pointer (some p)) "given.example/pub-lumberyard/pub/godatastructures/btree/plus.needsSplit").run Tryz.prog w = .ok (some false) w := by kernel_rfl

def nodeV (l : Leaf) : Value := .iface 146 (.pointer (some ⟨l.b, 0, none⟩))
theorem nodeV_one (ls : List Leaf) : ∀ u ∈ ls.map nodeV, u.oneCell' = true := by
  intro u hu
  obtain ⟨x, _, rfl⟩ := List.mem_map.1 hu
  rfl
/-- The leaves in memory, each with the one behind it. -/
def ChainRep (w : World) (ls : List Leaf) : Prop := ∀ j l, ls[j]? = some l → LeafRep w ((ls[j + 1]?).map (·.b)) l
/-- The keys between leaves: the first key of each but the first. -/
def seps (ls : List Leaf) : List (Int × Int) := ls.tail.map fun l => l.ks.getD 0 (0, 0)
/-- An inner node over leaves. -/
def NodeRep (w : World) (ib sg ng : Nat) (ls : List Leaf) : Prop :=
  w.heap[ib]? = some (.cells #[.slice (some ⟨sg, 0, none⟩) (ls.length - 1) 12, .slice (some ⟨ng, 0, none⟩) ls.length 13] 209 (0, 0)) ∧
    w.ownsRow 0 78 1 (.slice (some ⟨sg, 0, none⟩) (ls.length - 1) 12) (ls.length - 1) ((seps ls).map keyV) ∧
    w.ownsRow 0 103 1 (.slice (some ⟨ng, 0, none⟩) ls.length 13) ls.length (ls.map nodeV)

/-- A new inner node. -/
def NewNodeC (w : World) (e : Ending) (w' : World) : Prop :=
  ∃ ib sg ng : Nat, e = .returned (.pointer (some ⟨ib, 0, none⟩)) ∧ w.heap.size ≤ ib ∧ w.heap.size ≤ sg ∧ w.heap.size ≤ ng ∧ ib ≠ sg ∧ ib ≠ ng ∧ sg ≠ ng ∧
    w'.heap[ib]? = some (.cells #[.slice (some ⟨sg, 0, none⟩) 0 12, .slice (some ⟨ng, 0, none⟩) 0 13] 209 (0, 0)) ∧
    w'.ownsRow 0 78 1 (.slice (some ⟨sg, 0, none⟩) 0 12) 0 [] ∧ w'.ownsRow 0 103 1 (.slice (some ⟨ng, 0, none⟩) 0 13) 0 [] ∧ Keeps (fun _ => False) w w'

set_option maxRecDepth 100000 in
set_option maxHeartbeats 400000 in
theorem newNode (w : World) : Calls Tryz.prog 59 #[.int .u64 12] w (NewNodeC w) := by
  have mk1 := makeKeys12
  have mk2 := makeNodes13
  have hw : IntKind.u64.wrap 13 = 13 := IntWalk.u64_in _ (by omega)
  go_enter Tryz.func59, Tryz.ntmps59
  go_wp2_with fail
  go_region_law (fail)
  all_goals
    clear mk1 mk2 hw
    go_wp2
    go_ret
  · refine ⟨w.heap.size + 2, w.heap.size, w.heap.size + 1, rfl, by omega, by omega, by omega, by omega, by omega, by omega, ?_, ?_, ?_, ?_⟩
    · exact alloc_at _ _ _ (by simp)
    · exact ((row_made (alloc_at w _ _ rfl) 0 12 (by simp) (by omega) (by simp [maxLen])).alloc _).alloc _
    · exact (row_made (alloc_at (w.alloc _) _ (w.heap.size + 1) (by simp)) 0 13 (by simp) (by omega) (by simp [maxLen])).alloc _
    · exact ((((Keeps.refl _ w).alloc _).alloc _).alloc _).drew
  · refine ⟨w.heap.size + 2, w.heap.size + 1, w.heap.size, rfl, by omega, by omega, by omega, by omega, by omega, by omega, ?_, ?_, ?_, ?_⟩
    · exact alloc_at _ _ _ (by simp)
    · exact (row_made (alloc_at (w.alloc _) _ (w.heap.size + 1) (by simp)) 0 12 (by simp) (by omega) (by simp [maxLen])).alloc _
    · exact ((row_made (alloc_at w _ _ rfl) 0 13 (by simp) (by omega) (by simp [maxLen])).alloc _).alloc _
    · exact ((((Keeps.refl _ w).alloc _).alloc _).alloc _).drew

end Go.Proofs.YtegejfhomocloaaGreat

namespace Go.Proofs.YtegejfhomocloaaGreat
open Go.RowKit

/-- A full leaf alone, split: two leaves under a new inner node. -/
def RootSplit (b : Nat) (ks : List (Int × Int)) (w : World) (e : Ending) (w' : World) : Prop :=
  ∃ ib sg ng b' g' g'' : Nat, e = .returned (.iface 204 (.pointer (some ⟨ib, 0, none⟩))) ∧ NodeRep w' ib sg ng [⟨b', g', ks.take 6⟩, ⟨b, g'', ks.drop 6⟩] ∧
    ChainRep w' [⟨b', g', ks.take 6⟩, ⟨b, g'', ks.drop 6⟩] ∧ (∀ x ∈ [ib, sg, ng, b', g', g''], w.heap.size ≤ x) ∧ [ib, sg, ng, b', g', g''].Nodup ∧ Keeps (fun x => x = b) w w'

set_option maxRecDepth 100000 in
set_option maxHeartbeats 800000 in
theorem splitRoot (t b g : Nat) (root num : Value) (ks : List (Int × Int)) (w : World) (ht : w.heap[t]? = some (.cells #[root, .int .u64 12, num] 105 (0, 0)))
    (hl : LeafRep w none ⟨b, g, ks⟩) (hn : ks.length = 12) (htb : t ≠ b) :
    Calls Tryz.prog 44 #[.pointer (some ⟨t, 0, none⟩), .nilIface, .iface 146 (.pointer (some ⟨b, 0, none⟩))] w (RootSplit b ks w) := by
  have c1 : w.cell? ⟨t, 1, none⟩ = some (.int .u64 12) := cell_at ht 1
  have hlb := hl.1
  have hlen : (Leaf.mk b g ks).ks.length = 12 := hn
  rw [hlen] at hlb
  have c2 : w.cell? ⟨b, 1, none⟩ = some (.slice (some ⟨g, 0, none⟩) 12 12) := cell_at hlb 1
  have HT := Lib.hid ht; clear ht
  have HL := Lib.hid hl; clear hl
  have HN := Lib.hid hn; clear hn
  clear hlb hlen
  go_enter Tryz.func44, Tryz.ntmps44
  go_wp2_with fail
  go_region_held3 (fun w' => w'.cell? ⟨t, 1, none⟩ = some (.int .u64 12)) (go_keep) (first | (go_at_call 161; refine (needs161 b g 12 _ (by omega) (by go_keep)).mono ?_; rintro e w' ⟨rfl, rfl⟩))
  go_wp2_with fail
  refine (leafSplit ⟨b, g, ks⟩ none w.drew HL.out HN.out).mono ?_
  rintro e w1 ⟨b', g', g'', rfl, h1, h2, h3, h4, h5, h6, hL1, hL2, hK1⟩
  have hz1 := hK1.size
  simp only [World.size_drew] at h1 h2 h3 hz1
  have HL1 := Lib.hid hL1; clear hL1
  have HL2 := Lib.hid hL2; clear hL2
  have hK1' : Keeps (fun x => x = b) w w1 := hK1.ofDrew
  have HK1 := Lib.hid hK1'; clear hK1 hK1'
  have ht1 := HK1.out.heap HT.out htb
  clear c1 c2
  have c1 : w1.cell? ⟨t, 1, none⟩ = some (.int .u64 12) := cell_at ht1 1
  have HT1 := Lib.hid ht1; clear ht1
  go_wp2_with fail
  refine (newNode w1).mono ?_
  rintro e w2 ⟨ib, sg, ng, rfl, q1, q2, q3, q4, q5, q6, hI2, hS2, hN2, hK2⟩
  have hz2 := hK2.size
  have c20 : w2.cell? ⟨ib, 0, none⟩ = some (.slice (some ⟨sg, 0, none⟩) 0 12) := cell_at hI2 0
  have f20 : w2.frozen? ⟨ib, 0, none⟩ = false := free_at hI2 0
  clear c1
  have hbl := HL.out.ltb
  have nis : some ib ≠ some sg := ne_row q4
  have nin : some ib ≠ some ng := ne_row q5
  have nsn : (Value.slice (some ⟨ng, 0, none⟩) 0 13).ownBlock ≠ some sg := (ne_row (Ne.symm q6) : some ng ≠ some sg)
  have nni : (Value.slice (some ⟨ng, 0, none⟩) 0 13).ownBlock ≠ some ib := (ne_row (Ne.symm q5) : some ng ≠ some ib)
  have nsi : (Value.slice (some ⟨sg, 0, none⟩) 1 12).ownBlock ≠ some ib := (ne_row (Ne.symm q4) : some sg ≠ some ib)
  have ngn : (Value.slice (some ⟨sg, 0, none⟩) 1 12).ownBlock ≠ some ng := (ne_row q6 : some sg ≠ some ng)
  have nni1 : (Value.slice (some ⟨ng, 0, none⟩) 1 13).ownBlock ≠ some ib := (ne_row (Ne.symm q5) : some ng ≠ some ib)
  have NSI := Lib.hid nsi; clear nsi
  have NGN := Lib.hid ngn; clear ngn
  have NNI1 := Lib.hid nni1; clear nni1
  have NIS := Lib.hid nis; clear nis
  have NIN := Lib.hid nin; clear nin
  have NSN := Lib.hid nsn; clear nsn
  have NNI := Lib.hid nni; clear nni
  have HI2 := Lib.hid hI2; clear hI2
  have HS2 := Lib.hid hS2; clear hS2
  have HN2 := Lib.hid hN2; clear hN2
  have HK2 := Lib.hid hK2; clear hK2
  obtain ⟨i0, hi0, hiz, his, hib⟩ := info_parts info78
  obtain ⟨j0, hj0, hjz, hjs, hjb⟩ := info_parts info103
  go_wp2_with (first
    | (at_builtin; refine wpList_append_fits _ rfl (.tmp 43) (.tmp 45) 197 rfl 0 78 i0 1 Tryz.underlying197 hi0 his sg 0 12 _ rfl (HS2.out.alloc _) ⟨w2.heap.size, 0, none⟩ 1 1 [.iface 84 (.agg #[.int .i64 (kOf ks 6), .int .i64 (vOf ks 6)])] rfl (by rfl) (cell_one_new _ _ _) (one_of rfl) (by omega) ?_; intro w3 hO3 hg3; have HO3 := Lib.hid hO3; clear hO3; have HI3 := Lib.hid (grown_heap hg3 (alloc_heap _ _ HI2.out) NIS.out); have HN3 := Lib.hid (((HN2.out).alloc _).kept hg3 (Or.inr NSN.out)); have HK3 := Lib.hid ((HK2.out.alloc _).grownNew hg3 q2); clear c20 f20; have c30 : w3.cell? ⟨ib, 0, none⟩ = some (.slice (some ⟨sg, 0, none⟩) 0 12) := cell_at HI3.out 0; have f30 : w3.frozen? ⟨ib, 0, none⟩ = false := free_at HI3.out 0; have c31 : w3.cell? ⟨ib, 1, none⟩ = some (.slice (some ⟨ng, 0, none⟩) 0 13) := cell_at HI3.out 1)
    | (at_builtin; refine wpList_append_fits _ rfl (.tmp 53) (.tmp 55) 207 rfl 0 103 j0 1 Tryz.underlying207 hj0 hjs ng 0 13 _ rfl ((ownsRow_setCell_other HN3.out (a := ⟨ib, 0, none⟩) NNI.out _).alloc _) ⟨w3.heap.size, 0, none⟩ 1 1 [.iface 146 (.pointer (some ⟨b', 0, none⟩))] rfl (by rfl) (cell_new_at (size_set1 _ _ _)) (one_of rfl) (by omega) ?_; intro w4 hO4 hg4; have HO4 := Lib.hid hO4; clear hO4; have HI4 := Lib.hid (grown_heap hg4 (alloc_heap _ _ (heap_setCell_same w3 ib 0 _ _ (.slice (some ⟨sg, 0, none⟩) 1 12) HI3.out)) NIN.out); have HS4 := Lib.hid (((ownsRow_setCell_other HO3.out (a := ⟨ib, 0, none⟩) NSI.out (.slice (some ⟨sg, 0, none⟩) 1 12)).alloc _).kept hg4 (Or.inr NGN.out)); have HK4 := Lib.hid (((HK3.out.setNew ib 0 _ q1).alloc _).grownNew hg4 q3); clear c30 f30 c31; have c41 : w4.cell? ⟨ib, 1, none⟩ = some (.slice (some ⟨ng, 0, none⟩) 0 13) := cell_at HI4.out 1; have f41 : w4.frozen? ⟨ib, 1, none⟩ = false := free_at HI4.out 1)
    | (at_builtin; refine wpList_append_fits _ rfl (.tmp 63) (.tmp 65) 207 rfl 0 103 j0 1 Tryz.underlying207 hj0 hjs ng 1 13 _ rfl ((ownsRow_setCell_other HO4.out (a := ⟨ib, 1, none⟩) NNI1.out _).alloc _) ⟨w4.heap.size, 0, none⟩ 1 1 [.iface 146 (.pointer (some ⟨b, 0, none⟩))] rfl (by rfl) (cell_new_at (size_set1 _ _ _)) (one_of rfl) (by omega) ?_; intro w5 hO5 hg5; have HO5 := Lib.hid hO5; clear hO5; have HI5 := Lib.hid (grown_heap hg5 (alloc_heap _ _ (heap_setCell_same w4 ib 1 _ _ (.slice (some ⟨ng, 0, none⟩) 1 13) HI4.out)) NIN.out); have HS5 := Lib.hid (((ownsRow_setCell_other HS4.out (a := ⟨ib, 1, none⟩) NSI.out (.slice (some ⟨ng, 0, none⟩) 1 13)).alloc _).kept hg5 (Or.inr NGN.out)); have HK5 := Lib.hid (((HK4.out.setNew ib 1 _ q1).alloc _).grownNew hg5 q3); clear c41 f41; have c51 : w5.cell? ⟨ib, 1, none⟩ = some (.slice (some ⟨ng, 0, none⟩) 1 13) := cell_at HI5.out 1; have f51 : w5.frozen? ⟨ib, 1, none⟩ = false := free_at HI5.out 1))
  go_ret
  have hkf : Keeps (fun _ => False) w1 (w5.setCell ⟨ib, 1, none⟩ (.slice (some ⟨ng, 0, none⟩) 2 13)) := HK5.out.setNew ib 1 _ q1
  refine ⟨ib, sg, ng, b', g', g'', rfl, ⟨?_, ?_, ?_⟩, ?_, ?_, ?_, ?_⟩
  · exact heap_setCell_same w5 ib 1 _ _ _ HI5.out
  · have : (seps [⟨b', g', ks.take 6⟩, ⟨b, g'', ks.drop 6⟩]).map keyV = [.iface 84 (.agg #[.int .i64 (kOf ks 6), .int .i64 (vOf ks 6)])] := by
      simp only [seps, List.tail_cons, List.map_cons, List.map_nil, keyV, kOf, vOf]
      have h0 : (ks.drop 6).getD 0 (0, 0) = ks.getD 6 (0, 0) := by simp [List.getD_eq_getElem?_getD]
      rw [h0]
    rw [this]
    exact ownsRow_setCell_other HS5.out (a := ⟨ib, 1, none⟩) NSI.out _
  · exact ownsRow_setCell_other HO5.out (a := ⟨ib, 1, none⟩) (ne_row (Ne.symm q5) : some ng ≠ some ib) _
  · intro j l hj
    match j, hj with
    | 0, hj => obtain rfl := Option.some.inj hj; exact HL1.out.keeps hkf (fun f => f) (fun f => f)
    | 1, hj => obtain rfl := Option.some.inj hj; exact HL2.out.keeps hkf (fun f => f) (fun f => f)
  · intro x hx
    simp only [List.mem_cons, List.not_mem_nil, or_false] at hx
    rcases hx with rfl | rfl | rfl | rfl | rfl | rfl <;> omega
  · have e1 := HL1.out.ltb; have e2 := HL1.out.ltg; have e3 := HL2.out.ltg
    simp only [] at e1 e2 e3
    simp only [List.nodup_cons, List.mem_cons, List.not_mem_nil, or_false, not_or, List.nodup_nil, and_true, not_false_eq_true]
    omega
  · exact HK1.out.trans hkf (fun _ _ f => f.elim)
end Go.Proofs.YtegejfhomocloaaGreat

namespace Go.Proofs.YtegejfhomocloaaGreat
open Go.RowKit

/-- The leaves, one of them split. -/
def cutLeaf (ls : List Leaf) (c b' g' g'' : Nat) (l : Leaf) : List Leaf := ls.take c ++ ⟨b', g', l.ks.take 6⟩ :: ⟨l.b, g'', l.ks.drop 6⟩ :: ls.drop (c + 1)

theorem two_get {α : Type} (ls : List α) (c : Nat) (x y : α) (hc : c < ls.length) (j : Nat) :
    (ls.take c ++ x :: y :: ls.drop (c + 1))[j]? = if j < c then ls[j]? else if j = c then some x else if j = c + 1 then some y else ls[j - 1]? := by
  by_cases h1 : j < c
  · rw [if_pos h1, List.getElem?_append_left (by rw [List.length_take]; omega), List.getElem?_take, if_pos h1]
  · rw [if_neg h1, List.getElem?_append_right (by rw [List.length_take]; omega), List.length_take, Nat.min_eq_left (by omega)]
    by_cases h2 : j = c
    · subst h2; simp
    · rw [if_neg h2]
      obtain ⟨d, rfl⟩ : ∃ d, j = c + 1 + d := ⟨j - (c + 1), by omega⟩
      rw [show c + 1 + d - c = d + 1 by omega, List.getElem?_cons_succ]
      by_cases h3 : d = 0
      · subst h3; simp
      · rw [if_neg (by omega)]
        obtain ⟨e, rfl⟩ : ∃ e, d = e + 1 := ⟨d - 1, by omega⟩
        rw [List.getElem?_cons_succ, List.getElem?_drop]
        congr 1

theorem cutLeaf_get (ls : List Leaf) (c b' g' g'' : Nat) (l : Leaf) (hc : c < ls.length) (j : Nat) :
    (cutLeaf ls c b' g' g'' l)[j]? = if j < c then ls[j]? else if j = c then some ⟨b', g', l.ks.take 6⟩ else if j = c + 1 then some ⟨l.b, g'', l.ks.drop 6⟩ else ls[j - 1]? :=
  two_get ls c _ _ hc j

theorem cutLeaf_length (ls : List Leaf) (c b' g' g'' : Nat) (l : Leaf) (hc : c < ls.length) : (cutLeaf ls c b' g' g'' l).length = ls.length + 1 := by
  simp [cutLeaf]; omega

theorem chain_cut {w : World} {ls : List Leaf} {c : Nat} {l : Leaf} {b' g' g'' : Nat} (hl : ls[c]? = some l)
    (hoth : ∀ j x, ls[j]? = some x → j ≠ c → j + 1 ≠ c → LeafRep w ((ls[j + 1]?).map (·.b)) x)
    (hprev : ∀ x, 0 < c → ls[c - 1]? = some x → LeafRep w (some b') x)
    (h1 : LeafRep w (some l.b) ⟨b', g', l.ks.take 6⟩) (h2 : LeafRep w ((ls[c + 1]?).map (·.b)) ⟨l.b, g'', l.ks.drop 6⟩) : ChainRep w (cutLeaf ls c b' g' g'' l) := by
  have hc : c < ls.length := (List.getElem?_eq_some_iff.1 hl).1
  intro j x hj
  rw [cutLeaf_get _ _ _ _ _ _ hc] at hj ⊢
  by_cases h3 : j < c
  · rw [if_pos h3] at hj
    by_cases h4 : j + 1 = c
    · rw [if_neg (by omega), if_pos h4]
      have : j = c - 1 := by omega
      subst this
      exact hprev x (by omega) hj
    · rw [if_pos (by omega)]
      exact hoth j x hj (by omega) h4
  · rw [if_neg h3] at hj
    by_cases h4 : j = c
    · subst h4
      rw [if_pos rfl] at hj
      rw [if_neg (by omega), if_neg (by omega), if_pos rfl]
      obtain rfl := Option.some.inj hj
      exact h1
    · rw [if_neg h4] at hj
      by_cases h5 : j = c + 1
      · subst h5
        rw [if_pos rfl] at hj
        rw [if_neg (by omega), if_neg (by omega), if_neg (by omega)]
        obtain rfl := Option.some.inj hj
        exact h2
      · rw [if_neg h5] at hj
        rw [if_neg (by omega), if_neg (by omega), if_neg (by omega)]
        have := hoth (j - 1) x hj (by omega) (by omega)
        rwa [show j - 1 + 1 = j + 1 - 1 by omega] at this

theorem split_list {α : Type} {ls : List α} {c : Nat} {l : α} (hl : ls[c]? = some l) : ∃ A B, ls = A ++ l :: B ∧ A.length = c ∧ ls.take c = A ∧ ls.drop (c + 1) = B := by
  obtain ⟨hc, rfl⟩ := List.getElem?_eq_some_iff.1 hl
  refine ⟨ls.take c, ls.drop (c + 1), ?_, by rw [List.length_take]; omega, rfl, rfl⟩
  rw [← List.drop_eq_getElem_cons hc, List.take_append_drop]

theorem seps_cut {ls : List Leaf} {c : Nat} {l : Leaf} {b' g' g'' : Nat} (hl : ls[c]? = some l) :
    seps (cutLeaf ls c b' g' g'' l) = ins (seps ls) c (l.ks.getD 6 (0, 0)) := by
  obtain ⟨A, B, hls, hA, hA2, hB2⟩ := split_list hl
  have e0 : (l.ks.take 6).getD 0 (0, 0) = l.ks.getD 0 (0, 0) := by simp [List.getD_eq_getElem?_getD]
  have e6 : (l.ks.drop 6).getD 0 (0, 0) = l.ks.getD 6 (0, 0) := by simp [List.getD_eq_getElem?_getD]
  unfold cutLeaf
  rw [hA2, hB2]
  subst hA
  cases A with
  | nil =>
    simp only [List.nil_append, seps, List.tail_cons, List.map_cons, hls, e6, ins, List.length_nil, List.take_zero, List.drop_zero]
  | cons a A =>
    simp only [List.cons_append, seps, List.tail_cons, List.map_append, List.map_cons, hls, e6, e0, ins, List.length_cons]
    have h3 : (List.map (fun l : Leaf => l.ks.getD 0 (0, 0)) A ++ l.ks.getD 0 (0, 0) :: List.map (fun l : Leaf => l.ks.getD 0 (0, 0)) B) = (List.map (fun l : Leaf => l.ks.getD 0 (0, 0)) A ++ [l.ks.getD 0 (0, 0)]) ++ List.map (fun l : Leaf => l.ks.getD 0 (0, 0)) B := by simp
    rw [h3]
    have h4 : A.length + 1 = (List.map (fun l : Leaf => l.ks.getD 0 (0, 0)) A ++ [l.ks.getD 0 (0, 0)]).length := by simp
    rw [h4, List.take_left, List.drop_left]
    simp

theorem nodes_cut {ls : List Leaf} {c : Nat} {l : Leaf} {b' g' g'' : Nat} (hl : ls[c]? = some l) :
    (cutLeaf ls c b' g' g'' l).map nodeV = ins ((ls.map nodeV).set c (.iface 146 (.pointer (some ⟨b', 0, none⟩)))) (c + 1) (.iface 146 (.pointer (some ⟨l.b, 0, none⟩))) := by
  obtain ⟨A, B, hls, hA, hA2, hB2⟩ := split_list hl
  unfold cutLeaf
  rw [hA2, hB2]
  subst hA
  rw [hls]
  simp only [List.map_append, List.map_cons, nodeV]
  rw [List.set_append_right _ _ (by simp)]
  simp only [List.length_map, Nat.sub_self, List.set_cons_zero, ins]
  have h3 : (List.map (fun l : Leaf => Value.iface 146 (.pointer (some ⟨l.b, 0, none⟩))) A ++ Value.iface 146 (.pointer (some ⟨b', 0, none⟩)) :: List.map (fun l : Leaf => Value.iface 146 (.pointer (some ⟨l.b, 0, none⟩))) B) = (List.map (fun l : Leaf => Value.iface 146 (.pointer (some ⟨l.b, 0, none⟩))) A ++ [Value.iface 146 (.pointer (some ⟨b', 0, none⟩))]) ++ List.map (fun l : Leaf => Value.iface 146 (.pointer (some ⟨l.b, 0, none⟩))) B := by simp
  have h5 : A.map nodeV = List.map (fun l : Leaf => Value.iface 146 (.pointer (some ⟨l.b, 0, none⟩))) A := rfl
  have h6 : B.map nodeV = List.map (fun l : Leaf => Value.iface 146 (.pointer (some ⟨l.b, 0, none⟩))) B := rfl
  rw [h5, h6, h3]
  have h4 : A.length + 1 = (List.map (fun l : Leaf => Value.iface 146 (.pointer (some ⟨l.b, 0, none⟩))) A ++ [Value.iface 146 (.pointer (some ⟨b', 0, none⟩))]).length := by simp
  rw [h4, List.take_left, List.drop_left]
  simp

theorem LeafRep.setNext {w : World} {nx nx' : Option Nat} {l : Leaf} (h : LeafRep w nx l) (hne : l.b ≠ l.g) : LeafRep (w.setCell ⟨l.b, 0, none⟩ (.pointer (nx'.map fun b => ⟨b, 0, none⟩))) nx' l :=
  ⟨heap_setCell_same w l.b 0 _ _ _ h.1, ownsRow_setCell_other h.2 (a := ⟨l.b, 0, none⟩) (ne_row (Ne.symm hne) : some l.g ≠ some l.b) _⟩
def blks (ls : List Leaf) : List Nat := ls.flatMap fun l => [l.b, l.g]
theorem blks_mem {ls : List Leaf} {l : Leaf} (h : l ∈ ls) : l.b ∈ blks ls ∧ l.g ∈ blks ls := ⟨List.mem_flatMap.2 ⟨l, h, by simp⟩, List.mem_flatMap.2 ⟨l, h, by simp⟩⟩
theorem blks_append (A B : List Leaf) : blks (A ++ B) = blks A ++ blks B := by simp [blks, List.flatMap_append]
theorem blks_cons (a : Leaf) (B : List Leaf) : blks (a :: B) = a.b :: a.g :: blks B := by simp [blks]
theorem blks_ne {ls : List Leaf} (hd : (blks ls).Nodup) {j c : Nat} {x l : Leaf} (hx : ls[j]? = some x) (hl : ls[c]? = some l) (hne : j ≠ c) : x.b ≠ l.b ∧ x.b ≠ l.g ∧ x.g ≠ l.b ∧ x.g ≠ l.g := by
  obtain ⟨A, B, hls, hA, hA2, hB2⟩ := split_list hl
  subst hls
  rw [blks_append, blks_cons] at hd
  obtain ⟨n1, n2, n3⟩ := List.nodup_append.1 hd
  have hmem : x ∈ A ∨ x ∈ B := by
    rcases Nat.lt_or_ge j A.length with h | h
    · rw [List.getElem?_append_left h] at hx; exact .inl (List.mem_of_getElem? hx)
    · rw [List.getElem?_append_right h] at hx
      obtain ⟨d, hd'⟩ : ∃ d, j - A.length = d + 1 := ⟨j - A.length - 1, by omega⟩
      rw [hd', List.getElem?_cons_succ] at hx
      exact .inr (List.mem_of_getElem? hx)
  simp only [List.nodup_cons, List.mem_cons, not_or] at n2
  rcases hmem with h | h
  · have hb := n3 _ (blks_mem h).1; have hg := n3 _ (blks_mem h).2
    simp only [List.mem_cons, forall_eq_or_imp] at hb hg
    exact ⟨hb.1, hb.2.1, hg.1, hg.2.1⟩
  · have hb := (blks_mem h).1; have hg := (blks_mem h).2
    exact ⟨fun e => n2.1.2 (e ▸ hb), fun e => n2.2.1 (e ▸ hb), fun e => n2.1.2 (e ▸ hg), fun e => n2.2.1 (e ▸ hg)⟩
theorem blks_self {ls : List Leaf} (hd : (blks ls).Nodup) {l : Leaf} (hl : l ∈ ls) : l.b ≠ l.g := by
  obtain ⟨c, hc⟩ := List.getElem?_of_mem hl
  obtain ⟨A, B, hls, hA, hA2, hB2⟩ := split_list hc
  subst hls
  rw [blks_append, blks_cons] at hd
  obtain ⟨n1, n2, n3⟩ := List.nodup_append.1 hd
  simp only [List.nodup_cons, List.mem_cons, not_or] at n2
  exact n2.1.1

/-- A full leaf under an inner node, split. -/
def ChildSplit (ib sg ng : Nat) (ls : List Leaf) (c : Nat) (l : Leaf) (w : World) (e : Ending) (w' : World) : Prop :=
  ∃ b' g' g'' : Nat, e = .returned (.iface 204 (.pointer (some ⟨ib, 0, none⟩))) ∧ w.heap.size ≤ b' ∧ w.heap.size ≤ g' ∧ w.heap.size ≤ g'' ∧ b' ≠ g' ∧ b' ≠ g'' ∧ g' ≠ g'' ∧
    NodeRep w' ib sg ng (cutLeaf ls c b' g' g'' l) ∧ ChainRep w' (cutLeaf ls c b' g' g'' l) ∧ Keeps (fun x => x = ib ∨ x = sg ∨ x = ng ∨ x ∈ blks ls) w w'

theorem childClose {ib sg ng : Nat} {ls : List Leaf} {c : Nat} {l : Leaf} {w w' : World} {b' g' g'' : Nat} (hl : ls[c]? = some l)
    (h1 : w.heap.size ≤ b') (h2 : w.heap.size ≤ g') (h3 : w.heap.size ≤ g'') (h4 : b' ≠ g') (h5 : b' ≠ g'') (h6 : g' ≠ g'')
    (hI : w'.heap[ib]? = some (.cells #[.slice (some ⟨sg, 0, none⟩) (ls.length - 1 + 1) 12, .slice (some ⟨ng, 0, none⟩) (ls.length + 1) 13] 209 (0, 0)))
    (hS : w'.ownsRow 0 78 1 (.slice (some ⟨sg, 0, none⟩) (ls.length - 1 + 1) 12) (ls.length - 1 + 1) (ins ((seps ls).map keyV) c (.iface 84 (.agg #[.int .i64 (kOf l.ks 6), .int .i64 (vOf l.ks 6)]))))
    (hN : w'.ownsRow 0 103 1 (.slice (some ⟨ng, 0, none⟩) (ls.length + 1) 13) (ls.length + 1) (ins ((ls.map nodeV).set c (.iface 146 (.pointer (some ⟨b', 0, none⟩)))) (c + 1) (.iface 146 (.pointer (some ⟨l.b, 0, none⟩)))))
    (hoth : ∀ j x, ls[j]? = some x → j ≠ c → j + 1 ≠ c → LeafRep w' ((ls[j + 1]?).map (·.b)) x)
    (hprev : ∀ x, 0 < c → ls[c - 1]? = some x → LeafRep w' (some b') x)
    (hL1 : LeafRep w' (some l.b) ⟨b', g', l.ks.take 6⟩) (hL2 : LeafRep w' ((ls[c + 1]?).map (·.b)) ⟨l.b, g'', l.ks.drop 6⟩)
    (hK : Keeps (fun x => x = ib ∨ x = sg ∨ x = ng ∨ x ∈ blks ls) w w') :
    ChildSplit ib sg ng ls c l w (.returned (.iface 204 (.pointer (some ⟨ib, 0, none⟩)))) w' := by
  have hc : c < ls.length := (List.getElem?_eq_some_iff.1 hl).1
  have e : ls.length - 1 + 1 = ls.length + 1 - 1 := by omega
  refine ⟨b', g', g'', rfl, h1, h2, h3, h4, h5, h6, ⟨?_, ?_, ?_⟩, chain_cut hl hoth hprev hL1 hL2, hK⟩
  · rw [cutLeaf_length _ _ _ _ _ _ hc, ← e]; exact hI
  · rw [cutLeaf_length _ _ _ _ _ _ hc, ← e, seps_cut hl, ← ins_map]; exact hS
  · rw [cutLeaf_length _ _ _ _ _ _ hc, nodes_cut hl]; exact hN
end Go.Proofs.YtegejfhomocloaaGreat

namespace Go.Proofs.YtegejfhomocloaaGreat
open Go.RowKit

@[go_sem] theorem ta204 (a : Option Addr) (w : World) : (Instr.typeAssert (.iface 204 (.pointer a)) 103 204 false).run Tryz.prog w = .ok (.pointer a) w := by kernel_rfl
@[go_sem] theorem ta146 (a : Option Addr) (w : World) : (Instr.typeAssert (.iface 146 (.pointer a)) 103 146 false).run Tryz.prog w = .ok (.pointer a) w := by kernel_rfl
@[go_sem] theorem ta146ok (a : Option Addr) (w : World) : (Instr.typeAssert (.iface 146 (.pointer a)) 103 146 true).run Tryz.prog w = .ok (.tuple #[.pointer a, .bool true]) w := by kernel_rfl

/-- What the place of a full leaf asks of the keys between. -/
def SepAt (ls : List Leaf) (c : Nat) (key : Int) : Prop :=
  (∀ i j, i < j → j < ls.length - 1 → kOf (seps ls) i < kOf (seps ls) j) ∧ (∀ i, i < c → kOf (seps ls) i < key) ∧ (∀ i, c ≤ i → i < ls.length - 1 → key < kOf (seps ls) i)

set_option maxRecDepth 100000 in
set_option maxHeartbeats 800000 in
theorem splitChild0 (t ib sg ng : Nat) (root num : Value) (ls : List Leaf) (c : Nat) (l : Leaf) (w : World) (ht : w.heap[t]? = some (.cells #[root, .int .u64 12, num] 105 (0, 0)))
    (hN : NodeRep w ib sg ng ls) (hC : ChainRep w ls) (hl : ls[c]? = some l) (hn : l.ks.length = 12) (hd : (t :: ib :: sg :: ng :: blks ls).Nodup) (hlen : ls.length ≤ 10) (hsep : SepAt ls c (kOf l.ks 6)) (hc0 : c = 0) :
    Calls Tryz.prog 44 #[.pointer (some ⟨t, 0, none⟩), .iface 204 (.pointer (some ⟨ib, 0, none⟩)), .iface 146 (.pointer (some ⟨l.b, 0, none⟩))] w (ChildSplit ib sg ng ls c l w) := by
  subst hc0
  have hcl : 0 < ls.length := (List.getElem?_eq_some_iff.1 hl).1
  have hL := hC 0 l hl
  have c1 : w.cell? ⟨t, 1, none⟩ = some (.int .u64 12) := cell_at ht 1
  have hlb := hL.1
  rw [hn] at hlb
  have c2 : w.cell? ⟨l.b, 1, none⟩ = some (.slice (some ⟨l.g, 0, none⟩) 12 12) := cell_at hlb 1
  clear hlb
  have hmem : ∀ x, x ∈ ls → x.b ∈ blks ls ∧ x.g ∈ blks ls := fun x hx => ⟨List.mem_flatMap.2 ⟨x, hx, by simp⟩, List.mem_flatMap.2 ⟨x, hx, by simp⟩⟩
  have hlm := hmem l (List.mem_of_getElem? hl)
  simp only [List.nodup_cons, List.mem_cons, not_or] at hd
  obtain ⟨⟨d1, d2, d3, d4⟩, ⟨d5, d6, d7⟩, ⟨d8, d9⟩, d10, d11⟩ := hd
  have nib : ib ≠ l.b := fun e => d7 (e ▸ hlm.1)
  have nsg : sg ≠ l.b := fun e => d9 (e ▸ hlm.1)
  have nng : ng ≠ l.b := fun e => d10 (e ▸ hlm.1)
  have ntb : t ≠ l.b := fun e => d4 (e ▸ hlm.1)
  have HT := Lib.hid ht; clear ht
  have HN := Lib.hid hN; clear hN
  have HC := Lib.hid hC; clear hC
  have HL := Lib.hid hL; clear hL
  have HLL := Lib.hid hl; clear hl
  have HNN := Lib.hid hn; clear hn
  have HSEP := Lib.hid hsep; clear hsep
  have HMEM := Lib.hid hmem; clear hmem
  go_enter Tryz.func44, Tryz.ntmps44
  go_wp2_with fail
  go_region_held3 (fun w' => w'.cell? ⟨t, 1, none⟩ = some (.int .u64 12)) (go_keep) (first | (go_at_call 161; refine (needs161 l.b l.g 12 _ (by omega) (by go_keep)).mono ?_; rintro e w' ⟨rfl, rfl⟩))
  go_wp2_with fail
  refine (leafSplit l _ w.drew HL.out HNN.out).mono ?_
  rintro e w1 ⟨b', g', g'', rfl, h1, h2, h3, h4, h5, h6, hL1, hL2, hK1⟩
  have hz1 := hK1.size
  simp only [World.size_drew] at h1 h2 h3 hz1
  have HL1 := Lib.hid hL1; clear hL1
  have HL2 := Lib.hid hL2; clear hL2
  have HK1 := Lib.hid hK1.ofDrew; clear hK1
  clear c1 c2
  have hI1 := HK1.out.heap HN.out.1 nib
  have hS1 := HK1.out.row HN.out.2.1 (fun b hb e => nsg (by have : sg = b := Option.some.inj hb; omega))
  have hN1 := HK1.out.row HN.out.2.2 (fun b hb e => nng (by have : ng = b := Option.some.inj hb; omega))
  have c10 : w1.cell? ⟨ib, 0, none⟩ = some (.slice (some ⟨sg, 0, none⟩) (ls.length - 1) 12) := cell_at hI1 0
  have hS := search60 ib sg (ls.length - 1) 12 (kOf (seps ls)) (vOf (seps ls)) (kOf l.ks 6) (vOf l.ks 6) w1 (by omega) ((hS1.lt sg rfl).2) c10 (row_keys hS1) HSEP.out.1
  have HI1 := Lib.hid hI1; clear hI1
  have HS1 := Lib.hid hS1; clear hS1
  have HN1 := Lib.hid hN1; clear hN1
  clear c10
  go_wp2_with fail
  refine hS.mono ?_
  rintro e w2 ⟨p, hp, s1, s2, rfl, hB2⟩
  have hpc : p = 0 := by
    rcases Nat.lt_trichotomy p 0 with h | h | h
    · have h7 := s2 p (Nat.le_refl _) (by omega); have h8 := HSEP.out.2.1 p h; omega
    · exact h
    · have h7 := s1 0 h; have h8 := HSEP.out.2.2 0 (Nat.le_refl _) (by omega); omega
  clear s1 s2 hS
  subst hpc
  have hz2 := hB2.size
  have HK2 := Lib.hid (Keeps.of_new (F := fun _ => False) hB2); clear hB2
  have HI2 := Lib.hid (HK2.out.heap HI1.out (fun f => f))
  have HS2 := Lib.hid (HK2.out.row HS1.out (fun _ _ f => f))
  have HN2 := Lib.hid (HK2.out.row HN1.out (fun _ _ f => f))
  go_wp2_with fail
  refine (insertAt58_any ib 0 sg (ls.length - 1) 12 ((seps ls).map keyV) _ 209 0 (kOf l.ks 6) (vOf l.ks 6) w2 HI2.out rfl HS2.out d5 (by omega) (by omega) (by omega) (keyV_one _)).mono ?_
  rintro e w3 ⟨rfl, hI3, hS3, hK3⟩
  have hz3 := hK3.size
  have HI3 := Lib.hid hI3; clear hI3
  have HS3 := Lib.hid hS3; clear hS3
  have HK3 := Lib.hid hK3; clear hK3
  have HN3 := Lib.hid (HK3.out.row HN2.out (fun b hb e => by have h7 : ng = b := Option.some.inj hb; omega))
  have c31 : w3.cell? ⟨ib, 1, none⟩ = some (.slice (some ⟨ng, 0, none⟩) ls.length 13) := cell_at HI3.out 1
  obtain ⟨u3, c3n⟩ := row_some HN3.out 0 (by omega)
  have f3n := HN3.out.frozenAt 0
  go_wp2_with fail
  obtain ⟨hN4, hg4⟩ := HN3.out.stored 0 (.iface 146 (.pointer (some ⟨b', 0, none⟩)))
  have hI4 := set_heap w3 ⟨ng, 0, none⟩ (.iface 146 (.pointer (some ⟨b', 0, none⟩))) HI3.out d6
  have hS4 := ownsRow_setCell_other HS3.out (a := ⟨ng, 0, none⟩) (ne_row d8 : some sg ≠ some ng) (.iface 146 (.pointer (some ⟨b', 0, none⟩)))
  have hK4 : Keeps (fun x => x = ib ∨ x = sg ∨ x = ng) w2 (w3.setCell ⟨ng, 0, none⟩ (.iface 146 (.pointer (some ⟨b', 0, none⟩)))) := (HK3.out.mono (fun _ _ h => by omega)).setIn ng 0 _ (Or.inr (Or.inr rfl))
  generalize w3.setCell ⟨ng, 0, none⟩ (.iface 146 (.pointer (some ⟨b', 0, none⟩))) = w4 at hN4 hg4 hI4 hS4 hK4 ⊢
  have HS4 := Lib.hid hS4; clear hS4
  have HK4 := Lib.hid hK4; clear hK4
  have hz4 := hg4.size
  have hone4 : ∀ u ∈ (ls.map nodeV).set 0 (.iface 146 (.pointer (some ⟨b', 0, none⟩))), u.oneCell' = true := fun u hu => by
    rcases List.mem_or_eq_of_mem_set hu with h | h
    · exact nodeV_one ls u h
    · subst h; rfl
  refine (insertAt61_any ib 1 ng ls.length 13 _ _ 209 1 146 (some ⟨l.b, 0, none⟩) w4 hI4 rfl hN4 d6 (by omega) (by omega) (by omega) hone4).mono ?_
  rintro e w5 ⟨rfl, hI5, hN5, hK5⟩
  have HI5 := Lib.hid hI5; clear hI5 hI4
  have HN5 := Lib.hid hN5; clear hN5 hN4 hone4
  have HK5 := Lib.hid hK5; clear hK5
  clear c31 c3n f3n hg4
  go_wp2_with fail
  go_ret
  have kk : Keeps (fun x => x = ib ∨ x = sg ∨ x = ng) w2 w5 := HK4.out.trans HK5.out (fun x _ h => by omega)
  have kf : Keeps (fun x => x = ib ∨ x = sg ∨ x = ng) w1 w5 := (HK2.out.mono (fun _ _ f => f.elim)).trans kk (fun x _ h => h)
  have hS5 := HK5.out.row HS4.out (fun b hb e => by have h7 : sg = b := Option.some.inj hb; omega)
  have hx : ∀ (j : Nat) (x : Leaf), ls[j]? = some x → (x.b ≠ ib ∧ x.b ≠ sg ∧ x.b ≠ ng) ∧ (x.g ≠ ib ∧ x.g ≠ sg ∧ x.g ≠ ng) := fun j x hj => by
    have hm := HMEM.out x (List.mem_of_getElem? hj)
    exact ⟨⟨fun e => d7 (e ▸ hm.1), fun e => d9 (e ▸ hm.1), fun e => d10 (e ▸ hm.1)⟩, ⟨fun e => d7 (e ▸ hm.2), fun e => d9 (e ▸ hm.2), fun e => d10 (e ▸ hm.2)⟩⟩
  have ltn : ∀ y, y = ib ∨ y = sg ∨ y = ng → y < w.heap.size := fun y hy => by
    have e1 := lt_of_block HN.out.1; have e2 := (HN.out.2.1.lt sg rfl).2; have e3 := (HN.out.2.2.lt ng rfl).2
    omega
  refine childClose HLL.out h1 h2 h3 h4 h5 h6 HI5.out hS5 HN5.out (fun j x hj hjc hjc' => ?_) (fun x h0 => absurd h0 (Nat.lt_irrefl 0)) (HL1.out.keeps kf (fun e => ?_) (fun e => ?_)) (HL2.out.keeps kf (fun e => ?_) (fun e => ?_)) ((HK1.out.mono (fun x _ e => Or.inr (Or.inr (Or.inr (e ▸ hlm.1))))).trans kf (fun x _ h => by omega))
  · have hne := blks_ne d11 hj HLL.out hjc
    have hxx := hx j x hj
    exact ((HC.out j x hj).keeps HK1.out hne.1 hne.2.2.1).keeps kf (fun e => by omega) (fun e => by omega)
  · have := ltn _ e; simp only [] at this; omega
  · have := ltn _ e; simp only [] at this; omega
  · have hxx := hx 0 l HLL.out; simp only [] at e; omega
  · have := ltn _ e; simp only [] at this; omega
end Go.Proofs.YtegejfhomocloaaGreat

namespace Go.Proofs.YtegejfhomocloaaGreat
open Go.RowKit

set_option maxRecDepth 100000 in
set_option maxHeartbeats 800000 in
theorem splitChild1 (t ib sg ng : Nat) (root num : Value) (ls : List Leaf) (m : Nat) (l q : Leaf) (w : World) (ht : w.heap[t]? = some (.cells #[root, .int .u64 12, num] 105 (0, 0)))
    (hN : NodeRep w ib sg ng ls) (hC : ChainRep w ls) (hl : ls[m + 1]? = some l) (hq : ls[m]? = some q) (hn : l.ks.length = 12) (hd : (t :: ib :: sg :: ng :: blks ls).Nodup) (hlen : ls.length ≤ 10) (hsep : SepAt ls (m + 1) (kOf l.ks 6)) :
    Calls Tryz.prog 44 #[.pointer (some ⟨t, 0, none⟩), .iface 204 (.pointer (some ⟨ib, 0, none⟩)), .iface 146 (.pointer (some ⟨l.b, 0, none⟩))] w (ChildSplit ib sg ng ls (m + 1) l w) := by
  have hcl : m + 1 < ls.length := (List.getElem?_eq_some_iff.1 hl).1
  have hL := hC (m + 1) l hl
  have hQ := hC m q hq
  have c1 : w.cell? ⟨t, 1, none⟩ = some (.int .u64 12) := cell_at ht 1
  have hlb := hL.1
  rw [hn] at hlb
  have c2 : w.cell? ⟨l.b, 1, none⟩ = some (.slice (some ⟨l.g, 0, none⟩) 12 12) := cell_at hlb 1
  clear hlb
  have hmem : ∀ x, x ∈ ls → x.b ∈ blks ls ∧ x.g ∈ blks ls := fun x hx => ⟨List.mem_flatMap.2 ⟨x, hx, by simp⟩, List.mem_flatMap.2 ⟨x, hx, by simp⟩⟩
  have hlm := hmem l (List.mem_of_getElem? hl)
  simp only [List.nodup_cons, List.mem_cons, not_or] at hd
  obtain ⟨⟨d1, d2, d3, d4⟩, ⟨d5, d6, d7⟩, ⟨d8, d9⟩, d10, d11⟩ := hd
  have nib : ib ≠ l.b := fun e => d7 (e ▸ hlm.1)
  have nsg : sg ≠ l.b := fun e => d9 (e ▸ hlm.1)
  have nng : ng ≠ l.b := fun e => d10 (e ▸ hlm.1)
  have ntb : t ≠ l.b := fun e => d4 (e ▸ hlm.1)
  have HT := Lib.hid ht; clear ht
  have HN := Lib.hid hN; clear hN
  have HC := Lib.hid hC; clear hC
  have HL := Lib.hid hL; clear hL
  have HLL := Lib.hid hl; clear hl
  have HQQ := Lib.hid hq; clear hq
  have HQ := Lib.hid hQ; clear hQ
  have HNN := Lib.hid hn; clear hn
  have HSEP := Lib.hid hsep; clear hsep
  have HMEM := Lib.hid hmem; clear hmem
  go_enter Tryz.func44, Tryz.ntmps44
  go_wp2_with fail
  go_region_held3 (fun w' => w'.cell? ⟨t, 1, none⟩ = some (.int .u64 12)) (go_keep) (first | (go_at_call 161; refine (needs161 l.b l.g 12 _ (by omega) (by go_keep)).mono ?_; rintro e w' ⟨rfl, rfl⟩))
  go_wp2_with fail
  refine (leafSplit l _ w.drew HL.out HNN.out).mono ?_
  rintro e w1 ⟨b', g', g'', rfl, h1, h2, h3, h4, h5, h6, hL1, hL2, hK1⟩
  have hz1 := hK1.size
  simp only [World.size_drew] at h1 h2 h3 hz1
  have HL1 := Lib.hid hL1; clear hL1
  have HL2 := Lib.hid hL2; clear hL2
  have HK1 := Lib.hid hK1.ofDrew; clear hK1
  clear c1 c2
  have hI1 := HK1.out.heap HN.out.1 nib
  have hS1 := HK1.out.row HN.out.2.1 (fun b hb e => nsg (by have : sg = b := Option.some.inj hb; omega))
  have hN1 := HK1.out.row HN.out.2.2 (fun b hb e => nng (by have : ng = b := Option.some.inj hb; omega))
  have c10 : w1.cell? ⟨ib, 0, none⟩ = some (.slice (some ⟨sg, 0, none⟩) (ls.length - 1) 12) := cell_at hI1 0
  have hS := search60 ib sg (ls.length - 1) 12 (kOf (seps ls)) (vOf (seps ls)) (kOf l.ks 6) (vOf l.ks 6) w1 (by omega) ((hS1.lt sg rfl).2) c10 (row_keys hS1) HSEP.out.1
  have HI1 := Lib.hid hI1; clear hI1
  have HS1 := Lib.hid hS1; clear hS1
  have HN1 := Lib.hid hN1; clear hN1
  clear c10
  go_wp2_with fail
  refine hS.mono ?_
  rintro e w2 ⟨p, hp, s1, s2, rfl, hB2⟩
  have hpc : p = m + 1 := by
    rcases Nat.lt_trichotomy p (m + 1) with h | h | h
    · have h7 := s2 p (Nat.le_refl _) (by omega); have h8 := HSEP.out.2.1 p h; omega
    · exact h
    · have h7 := s1 (m + 1) h; have h8 := HSEP.out.2.2 (m + 1) (Nat.le_refl _) (by omega); omega
  clear s1 s2 hS
  subst hpc
  have hz2 := hB2.size
  have HK2 := Lib.hid (Keeps.of_new (F := fun _ => False) hB2); clear hB2
  have HI2 := Lib.hid (HK2.out.heap HI1.out (fun f => f))
  have HS2 := Lib.hid (HK2.out.row HS1.out (fun _ _ f => f))
  have HN2 := Lib.hid (HK2.out.row HN1.out (fun _ _ f => f))
  have hqm := HMEM.out q (List.mem_of_getElem? HQQ.out)
  have hne := blks_ne d11 HQQ.out HLL.out (by omega)
  have hqg := blks_self d11 (List.mem_of_getElem? HQQ.out)
  have hQ2 : LeafRep w2 (some l.b) q := by
    have h9 := HQ.out.keeps HK1.out hne.1 hne.2.2.1
    rw [HLL.out] at h9
    exact h9.keeps HK2.out (fun f => f) (fun f => f)
  have c21 : w2.cell? ⟨ib, 1, none⟩ = some (.slice (some ⟨ng, 0, none⟩) ls.length 13) := cell_at HI2.out 1
  have c2n : w2.cell? ⟨ng, m, none⟩ = some (.iface 146 (.pointer (some ⟨q.b, 0, none⟩))) := by
    rw [HN2.out.cellAt m (by omega), List.getElem?_map, HQQ.out]; rfl
  have c2q : w2.cell? ⟨q.b, 0, none⟩ = some (.pointer (some ⟨l.b, 0, none⟩)) := cell_at hQ2.1 0
  have f2q : w2.frozen? ⟨q.b, 0, none⟩ = false := free_at hQ2.1 0
  have nqi : ib ≠ q.b := fun e => d7 (e ▸ hqm.1)
  have nqs : sg ≠ q.b := fun e => d9 (e ▸ hqm.1)
  have nqn : ng ≠ q.b := fun e => d10 (e ▸ hqm.1)
  have HQ2 := Lib.hid hQ2; clear hQ2
  go_wp2_with fail
  have hQ3 := HQ2.out.setNext (nx' := some b') hqg
  have hK23 : Keeps (fun x => x = q.b) w2 (w2.setCell ⟨q.b, 0, none⟩ (.pointer ((some b').map fun b => ⟨b, 0, none⟩))) := (Keeps.refl _ _).setIn q.b 0 _ rfl
  simp only [Option.map_some] at hQ3 hK23
  have hsz3 := hK23.size
  generalize w2.setCell ⟨q.b, 0, none⟩ (.pointer (some ⟨b', 0, none⟩)) = w2b at hQ3 hK23 hsz3 ⊢
  have HQ3 := Lib.hid hQ3; clear hQ3
  have HK23 := Lib.hid hK23; clear hK23
  have HI2b := Lib.hid (HK23.out.heap HI2.out nqi)
  have HS2b := Lib.hid (HK23.out.row HS2.out (fun b hb e => by have h7 : sg = b := Option.some.inj hb; omega))
  have HN2b := Lib.hid (HK23.out.row HN2.out (fun b hb e => by have h7 : ng = b := Option.some.inj hb; omega))
  clear c21 c2n c2q f2q
  have hIA := insertAt58_any ib 0 sg (ls.length - 1) 12 ((seps ls).map keyV) _ 209 (m + 1) (kOf l.ks 6) (vOf l.ks 6) w2b HI2b.out rfl HS2b.out d5 (by omega) (by omega) (by omega) (keyV_one _)
  rw [show ((m + 1 : Nat) : Int) = (m : Int) + 1 from rfl] at hIA
  refine hIA.mono ?_
  clear hIA
  rintro e w3 ⟨rfl, hI3, hS3, hK3⟩
  have hz3 := hK3.size
  have HI3 := Lib.hid hI3; clear hI3
  have HS3 := Lib.hid hS3; clear hS3
  have HK3 := Lib.hid hK3; clear hK3
  have HN3 := Lib.hid (HK3.out.row HN2b.out (ownNot (fun e => e.elim (Ne.symm d6) (Ne.symm d8))))
  have c31 : w3.cell? ⟨ib, 1, none⟩ = some (.slice (some ⟨ng, 0, none⟩) ls.length 13) := cell_at HI3.out 1
  obtain ⟨u3, c3n⟩ := row_some HN3.out (m + 1) (by omega)
  have f3n := HN3.out.frozenAt (m + 1)
  go_wp2_with fail
  obtain ⟨hN4, hg4⟩ := HN3.out.stored (m + 1) (.iface 146 (.pointer (some ⟨b', 0, none⟩)))
  have hI4 := set_heap w3 ⟨ng, m + 1, none⟩ (.iface 146 (.pointer (some ⟨b', 0, none⟩))) HI3.out d6
  have hS4 := ownsRow_setCell_other HS3.out (a := ⟨ng, m + 1, none⟩) (ne_row d8 : some sg ≠ some ng) (.iface 146 (.pointer (some ⟨b', 0, none⟩)))
  have hK4 : Keeps (fun x => x = ib ∨ x = sg ∨ x = ng) w2b (w3.setCell ⟨ng, m + 1, none⟩ (.iface 146 (.pointer (some ⟨b', 0, none⟩)))) := (HK3.out.mono (fun _ _ h => h.elim Or.inl (fun h => Or.inr (Or.inl h)))).setIn ng (m + 1) _ (Or.inr (Or.inr rfl))
  generalize w3.setCell ⟨ng, m + 1, none⟩ (.iface 146 (.pointer (some ⟨b', 0, none⟩))) = w4 at hN4 hg4 hI4 hS4 hK4 ⊢
  have HS4 := Lib.hid hS4; clear hS4
  have HK4 := Lib.hid hK4; clear hK4
  have hz4 := hg4.size
  have hone4 : ∀ u ∈ (ls.map nodeV).set (m + 1) (.iface 146 (.pointer (some ⟨b', 0, none⟩))), u.oneCell' = true := fun u hu => by
    rcases List.mem_or_eq_of_mem_set hu with h | h
    · exact nodeV_one ls u h
    · subst h; rfl
  have hIB := insertAt61_any ib 1 ng ls.length 13 _ _ 209 (m + 1 + 1) 146 (some ⟨l.b, 0, none⟩) w4 hI4 rfl hN4 d6 (by omega) (by omega) (by omega) hone4
  rw [show ((m + 1 + 1 : Nat) : Int) = (m : Int) + 1 + 1 from rfl] at hIB
  refine hIB.mono ?_
  clear hIB
  rintro e w5 ⟨rfl, hI5, hN5, hK5⟩
  have HI5 := Lib.hid hI5; clear hI5 hI4
  have HN5 := Lib.hid hN5; clear hN5 hN4 hone4
  have HK5 := Lib.hid hK5; clear hK5
  clear c31 c3n f3n hg4
  go_wp2_with fail
  go_ret
  have kk : Keeps (fun x => x = ib ∨ x = sg ∨ x = ng) w2b w5 := HK4.out.trans HK5.out (fun x _ h => h.elim Or.inl (fun h => Or.inr (Or.inr h)))
  have kf : Keeps (fun x => x = ib ∨ x = sg ∨ x = ng ∨ x = q.b) w1 w5 := ((HK2.out.mono (fun _ _ f => f.elim)).trans (HK23.out.mono (G := fun x => x = ib ∨ x = sg ∨ x = ng ∨ x = q.b) (fun _ _ e => Or.inr (Or.inr (Or.inr e)))) (fun x _ h => h)).trans kk (fun x _ h => h.elim Or.inl (fun h => h.elim (fun h => Or.inr (Or.inl h)) (fun h => Or.inr (Or.inr (Or.inl h)))))
  have hS5 := HK5.out.row HS4.out (ownNot (fun e => e.elim (Ne.symm d5) d8))
  have hx : ∀ (j : Nat) (x : Leaf), ls[j]? = some x → (x.b ≠ ib ∧ x.b ≠ sg ∧ x.b ≠ ng) ∧ (x.g ≠ ib ∧ x.g ≠ sg ∧ x.g ≠ ng) := fun j x hj => by
    have hm := HMEM.out x (List.mem_of_getElem? hj)
    exact ⟨⟨fun e => d7 (e ▸ hm.1), fun e => d9 (e ▸ hm.1), fun e => d10 (e ▸ hm.1)⟩, ⟨fun e => d7 (e ▸ hm.2), fun e => d9 (e ▸ hm.2), fun e => d10 (e ▸ hm.2)⟩⟩
  have ltn : ∀ y, y = ib ∨ y = sg ∨ y = ng ∨ y = q.b → y < w.heap.size := fun y hy => by
    have e4 := HQ.out.ltb
    have e1 := lt_of_block HN.out.1; have e2 := (HN.out.2.1.lt sg rfl).2; have e3 := (HN.out.2.2.lt ng rfl).2
    rcases hy with rfl | rfl | rfl | rfl <;> assumption
  refine childClose HLL.out h1 h2 h3 h4 h5 h6 HI5.out hS5 HN5.out (fun j x hj hjc hjc' => ?_) (fun x h0 hx0 => ?_) (HL1.out.keeps kf (fun e => ?_) (fun e => ?_)) (HL2.out.keeps kf (fun e => ?_) (fun e => ?_)) ((HK1.out.mono (fun x _ e => Or.inr (Or.inr (Or.inr (e ▸ hlm.1))))).trans kf (fun x _ h => by
    rcases h with h | h | h | h
    · exact Or.inl h
    · exact Or.inr (Or.inl h)
    · exact Or.inr (Or.inr (Or.inl h))
    · exact Or.inr (Or.inr (Or.inr (h ▸ hqm.1)))))
  · have hne := blks_ne d11 hj HLL.out hjc
    have hxx := hx j x hj
    have hnq := blks_ne d11 hj HQQ.out (fun e => hjc' (by rw [e]))
    exact ((HC.out j x hj).keeps HK1.out hne.1 hne.2.2.1).keeps kf (fun e => e.elim hxx.1.1 (fun e => e.elim hxx.1.2.1 (fun e => e.elim hxx.1.2.2 hnq.1))) (fun e => e.elim hxx.2.1 (fun e => e.elim hxx.2.2.1 (fun e => e.elim hxx.2.2.2 hnq.2.2.1)))
  · have hxq : q = x := by rw [show m + 1 - 1 = m from rfl, HQQ.out] at hx0; exact Option.some.inj hx0
    subst hxq
    have hxx := hx m q HQQ.out
    exact HQ3.out.keeps kk (fun e => e.elim hxx.1.1 (fun e => e.elim hxx.1.2.1 hxx.1.2.2)) (fun e => e.elim hxx.2.1 (fun e => e.elim hxx.2.2.1 hxx.2.2.2))
  · exact absurd (ltn _ e) (Nat.not_lt.2 h1)
  · exact absurd (ltn _ e) (Nat.not_lt.2 h2)
  · have hxx := hx (m + 1) l HLL.out
    exact e.elim hxx.1.1 (fun e => e.elim hxx.1.2.1 (fun e => e.elim hxx.1.2.2 (Ne.symm hne.1)))
  · exact absurd (ltn _ e) (Nat.not_lt.2 h3)
end Go.Proofs.YtegejfhomocloaaGreat

/- Plain laws: sorted lists of keys, and leaves that hold them in order. No program in sight. -/
namespace Go.Proofs.YtegejfhomocloaaGreat

/-- Keys ascend strictly. -/
def Srt (L : List (Int × Int)) : Prop := L.Pairwise fun a b => a.1 < b.1

theorem srt_ins {L : List (Int × Int)} {i : Nat} {k v : Int} (h : Srt L) (h1 : ∀ x ∈ L.take i, x.1 < k) (h2 : ∀ x ∈ L.drop i, k < x.1) : Srt (ins L i (k, v)) := by
  unfold Srt ins
  have h' : Srt (L.take i ++ L.drop i) := by rw [List.take_append_drop]; exact h
  obtain ⟨a, b, c⟩ := List.pairwise_append.1 h'
  refine List.pairwise_append.2 ⟨a, List.pairwise_cons.2 ⟨fun y hy => h2 y hy, b⟩, fun x hx y hy => ?_⟩
  rcases List.mem_cons.1 hy with rfl | hy
  · exact h1 x hx
  · exact c x hx y hy

theorem ins_perm {α : Type} (L : List α) (i : Nat) (x : α) : (ins L i x).Perm (x :: L) := by
  unfold ins
  have := (List.perm_middle (a := x) (l₁ := L.take i) (l₂ := L.drop i))
  rwa [List.take_append_drop] at this

theorem ins_mid {α : Type} (A L B : List α) (i : Nat) (x : α) (hi : i ≤ L.length) : ins (A ++ (L ++ B)) (A.length + i) x = A ++ (ins L i x ++ B) := by
  unfold ins
  rw [List.take_append, List.drop_append]
  have e1 : A.take (A.length + i) = A := List.take_of_length_le (by omega)
  have e2 : A.drop (A.length + i) = [] := List.drop_eq_nil_of_le (by omega)
  have e3 : A.length + i - A.length = i := by omega
  rw [e1, e2, e3, List.take_append_of_le_length hi, List.drop_append_of_le_length hi]
  simp

def flat (ls : List Leaf) : List (Int × Int) := ls.flatMap fun l => l.ks

theorem flat_append (A B : List Leaf) : flat (A ++ B) = flat A ++ flat B := by simp [flat, List.flatMap_append]
theorem flat_cons (a : Leaf) (B : List Leaf) : flat (a :: B) = a.ks ++ flat B := by simp [flat]

theorem srt_flat {ls : List Leaf} (h : Srt (flat ls)) : (∀ l ∈ ls, Srt l.ks) ∧ ls.Pairwise (fun a b => ∀ x ∈ a.ks, ∀ y ∈ b.ks, x.1 < y.1) := by
  unfold Srt flat at h
  rw [List.pairwise_flatMap] at h
  exact h

theorem srt_across {ls : List Leaf} (h : Srt (flat ls)) {i j : Nat} {a b : Leaf} (ha : ls[i]? = some a) (hb : ls[j]? = some b) (hij : i < j) {x y : Int × Int} (hx : x ∈ a.ks) (hy : y ∈ b.ks) : x.1 < y.1 := by
  have hp := (srt_flat h).2
  obtain ⟨hi, rfl⟩ := List.getElem?_eq_some_iff.1 ha
  obtain ⟨hj, rfl⟩ := List.getElem?_eq_some_iff.1 hb
  exact (List.pairwise_iff_getElem.1 hp i j hi hj hij) x hx y hy

theorem kOf_mem {ks : List (Int × Int)} {i : Nat} (h : i < ks.length) : ∃ x ∈ ks, x.1 = kOf ks i := by
  refine ⟨ks[i], List.getElem_mem h, ?_⟩
  rw [kOf, List.getD_eq_getElem?_getD, List.getElem?_eq_getElem h]; rfl

theorem srt_kOf {ks : List (Int × Int)} (h : Srt ks) : ∀ i j, i < j → j < ks.length → kOf ks i < kOf ks j := by
  intro i j hij hj
  have := List.pairwise_iff_getElem.1 h i j (by omega) hj hij
  rw [kOf, kOf, List.getD_eq_getElem?_getD, List.getD_eq_getElem?_getD, List.getElem?_eq_getElem hj, List.getElem?_eq_getElem (by omega : i < ks.length)]
  exact this

theorem mem_kOf {ks : List (Int × Int)} {x : Int × Int} (h : x ∈ ks) : ∃ i, i < ks.length ∧ kOf ks i = x.1 := by
  obtain ⟨i, hi, rfl⟩ := List.getElem_of_mem h
  exact ⟨i, hi, by rw [kOf, List.getD_eq_getElem?_getD, List.getElem?_eq_getElem hi]; rfl⟩

theorem seps_length (ls : List Leaf) : (seps ls).length = ls.length - 1 := by simp [seps]
theorem seps_kOf {ls : List Leaf} {i : Nat} {l : Leaf} (h : ls[i + 1]? = some l) : kOf (seps ls) i = kOf l.ks 0 := by
  unfold kOf seps
  rw [List.getD_eq_getElem?_getD, List.getElem?_map, List.getElem?_tail, h]
  rfl

/-- Where a key of a leaf stands among the keys between. -/
theorem sepAt_of {ls : List Leaf} {c r : Nat} {l : Leaf} (h : Srt (flat ls)) (hne : ∀ l ∈ ls, 0 < l.ks.length) (hl : ls[c]? = some l) (hr0 : 0 < r) (hr : r < l.ks.length) :
    (∀ i j, i < j → j < ls.length - 1 → kOf (seps ls) i < kOf (seps ls) j) ∧ (∀ i, i < c → kOf (seps ls) i < kOf l.ks r) ∧ (∀ i, c ≤ i → i < ls.length - 1 → kOf l.ks r < kOf (seps ls) i) := by
  have get : ∀ i, i < ls.length → ∃ a, ls[i]? = some a ∧ 0 < a.ks.length := fun i hi => ⟨ls[i], List.getElem?_eq_getElem hi, hne _ (List.getElem_mem hi)⟩
  have hc := (List.getElem?_eq_some_iff.1 hl).1
  obtain ⟨x, hx, hxk⟩ := kOf_mem hr
  refine ⟨fun i j hij hj => ?_, fun i hi => ?_, fun i hi hin => ?_⟩
  · obtain ⟨a, ha, ha0⟩ := get (i + 1) (by omega)
    obtain ⟨b, hb, hb0⟩ := get (j + 1) (by omega)
    rw [seps_kOf ha, seps_kOf hb]
    obtain ⟨y, hy, hyk⟩ := kOf_mem ha0
    obtain ⟨z, hz, hzk⟩ := kOf_mem hb0
    rw [← hyk, ← hzk]; exact srt_across h ha hb (by omega) hy hz
  · obtain ⟨a, ha, ha0⟩ := get (i + 1) (by omega)
    rw [seps_kOf ha]
    by_cases he : i + 1 = c
    · subst he
      rw [hl] at ha; obtain rfl := Option.some.inj ha
      exact srt_kOf ((srt_flat h).1 l (List.mem_of_getElem? hl)) 0 r hr0 hr
    · obtain ⟨y, hy, hyk⟩ := kOf_mem ha0
      rw [← hyk, ← hxk]; exact srt_across h ha hl (by omega) hy hx
  · obtain ⟨b, hb, hb0⟩ := get (i + 1) (by omega)
    rw [seps_kOf hb]
    obtain ⟨z, hz, hzk⟩ := kOf_mem hb0
    rw [← hzk, ← hxk]; exact srt_across h hl hb (by omega) hx hz

theorem seps_mono {ls : List Leaf} (h : Srt (flat ls)) (hne : ∀ l ∈ ls, 0 < l.ks.length) : ∀ i j, i < j → j < ls.length - 1 → kOf (seps ls) i < kOf (seps ls) j := by
  intro i j hij hj
  have h1 : i + 1 < ls.length := by omega
  have h2 : j + 1 < ls.length := by omega
  rw [seps_kOf (List.getElem?_eq_getElem h1), seps_kOf (List.getElem?_eq_getElem h2)]
  obtain ⟨y, hy, hyk⟩ := kOf_mem (hne _ (List.getElem_mem h1))
  obtain ⟨z, hz, hzk⟩ := kOf_mem (hne _ (List.getElem_mem h2))
  rw [← hyk, ← hzk]; exact srt_across h (List.getElem?_eq_getElem h1) (List.getElem?_eq_getElem h2) (by omega) hy hz

theorem flat_at {ls : List Leaf} {c : Nat} {l : Leaf} (hl : ls[c]? = some l) : flat ls = flat (ls.take c) ++ (l.ks ++ flat (ls.drop (c + 1))) := by
  obtain ⟨A, B, hls, hA, hA2, hB2⟩ := split_list hl
  rw [hA2, hB2, hls, flat_append, flat_cons]

/-- A key that a leaf takes in its place takes its place among all. -/
theorem put_flat {ls : List Leaf} {c p : Nat} {l : Leaf} {k v : Int} (h : Srt (flat ls)) (hne : ∀ l ∈ ls, 0 < l.ks.length) (hl : ls[c]? = some l) (hk : ∀ x ∈ flat ls, x.1 ≠ k)
    (hs1 : ∀ i, i < c → kOf (seps ls) i < k) (hs2 : ∀ i, c ≤ i → i < ls.length - 1 → k ≤ kOf (seps ls) i)
    (hp : p ≤ l.ks.length) (hp1 : ∀ i, i < p → kOf l.ks i < k) (hp2 : ∀ i, p ≤ i → i < l.ks.length → k < kOf l.ks i) :
    flat (ls.set c ⟨l.b, l.g, ins l.ks p (k, v)⟩) = ins (flat ls) ((flat (ls.take c)).length + p) (k, v) ∧ Srt (flat (ls.set c ⟨l.b, l.g, ins l.ks p (k, v)⟩)) := by
  have hc := (List.getElem?_eq_some_iff.1 hl).1
  have e1 : flat (ls.set c ⟨l.b, l.g, ins l.ks p (k, v)⟩) = flat (ls.take c) ++ (ins l.ks p (k, v) ++ flat (ls.drop (c + 1))) := by
    have hl2 : (ls.set c ⟨l.b, l.g, ins l.ks p (k, v)⟩)[c]? = some ⟨l.b, l.g, ins l.ks p (k, v)⟩ := by rw [List.getElem?_set_self hc]
    rw [flat_at hl2]
    congr 2
    · rw [List.take_set_of_le (Nat.le_refl _)]
    · rw [List.drop_set_of_lt (by omega)]
  have e2 : flat (ls.set c ⟨l.b, l.g, ins l.ks p (k, v)⟩) = ins (flat ls) ((flat (ls.take c)).length + p) (k, v) := by
    rw [e1, flat_at hl, ins_mid _ _ _ _ _ hp]
  refine ⟨e2, ?_⟩
  rw [e2]
  have ht : (flat ls).take ((flat (ls.take c)).length + p) = flat (ls.take c) ++ l.ks.take p := by
    rw [flat_at hl, List.take_append, List.take_of_length_le (by omega), Nat.add_sub_cancel_left, List.take_append_of_le_length hp]
  have hd : (flat ls).drop ((flat (ls.take c)).length + p) = l.ks.drop p ++ flat (ls.drop (c + 1)) := by
    rw [flat_at hl, List.drop_append, List.drop_eq_nil_of_le (by omega), Nat.add_sub_cancel_left, List.drop_append_of_le_length hp, List.nil_append]
  refine srt_ins h (fun x hx => ?_) (fun x hx => ?_)
  · rw [ht] at hx
    rcases List.mem_append.1 hx with hx | hx
    · obtain ⟨a, ha, hxa⟩ := List.mem_flatMap.1 hx
      obtain ⟨j, hj, rfl⟩ := List.getElem_of_mem ha
      rw [List.length_take] at hj
      have haj : ls[j]? = some ((ls.take c)[j]'(by rw [List.length_take]; exact hj)) := by rw [List.getElem_take, List.getElem?_eq_getElem]
      have hj1 : j + 1 < ls.length := by omega
      have hs := hs1 j (by omega)
      rw [seps_kOf (List.getElem?_eq_getElem hj1)] at hs
      obtain ⟨y, hy, hyk⟩ := kOf_mem (hne _ (List.getElem_mem hj1))
      have := srt_across h haj (List.getElem?_eq_getElem hj1) (by omega) hxa hy
      omega
    · obtain ⟨i, hi, rfl⟩ := List.getElem_of_mem hx
      rw [List.length_take] at hi
      have := hp1 i (by omega)
      rw [kOf, List.getD_eq_getElem?_getD, List.getElem?_eq_getElem (by omega)] at this
      rw [List.getElem_take]; exact this
  · rw [hd] at hx
    rcases List.mem_append.1 hx with hx | hx
    · obtain ⟨i, hi, rfl⟩ := List.getElem_of_mem hx
      rw [List.length_drop] at hi
      have := hp2 (p + i) (by omega) (by omega)
      rw [kOf, List.getD_eq_getElem?_getD, List.getElem?_eq_getElem (by omega)] at this
      rw [List.getElem_drop]; exact this
    · obtain ⟨a, ha, hxa⟩ := List.mem_flatMap.1 hx
      obtain ⟨j, hj, rfl⟩ := List.getElem_of_mem ha
      rw [List.length_drop] at hj
      have haj : ls[c + j + 1]? = some ((ls.drop (c + 1))[j]'(by rw [List.length_drop]; exact hj)) := by rw [List.getElem_drop, List.getElem?_eq_getElem (by omega)]; congr 2; omega
      have hs := hs2 (c + j) (by omega) (by omega)
      rw [seps_kOf haj] at hs
      have hsa := (srt_flat h).1 _ (List.mem_of_getElem? haj)
      obtain ⟨i, hi, hik⟩ := mem_kOf hxa
      have hxne := hk x (List.mem_flatMap.2 ⟨_, List.mem_of_getElem? haj, hxa⟩)
      rcases Nat.eq_zero_or_pos i with h0 | h0
      · subst h0; omega
      · have := srt_kOf hsa 0 i h0 hi; omega

theorem flat_cut {ls : List Leaf} {c b' g' g'' : Nat} {l : Leaf} (hl : ls[c]? = some l) : flat (cutLeaf ls c b' g' g'' l) = flat ls := by
  rw [flat_at hl, cutLeaf, flat_append, flat_cons, flat_cons]
  simp only [← List.append_assoc]
  congr 1
  rw [List.append_assoc, List.take_append_drop]
end Go.Proofs.YtegejfhomocloaaGreat

/- Leaves: one changed in place, one cut: what becomes of blocks, separators, chains. -/
namespace Go.Proofs.YtegejfhomocloaaGreat
open Go.RowKit

theorem set_split {ls : List Leaf} {p : Nat} {l : Leaf} (hl : ls[p]? = some l) (l' : Leaf) : ls.set p l' = ls.take p ++ l' :: ls.drop (p + 1) := by
  obtain ⟨hp, rfl⟩ := List.getElem?_eq_some_iff.1 hl
  exact List.set_eq_take_append_cons_drop.trans (if_pos hp)

theorem blks_set {ls : List Leaf} {p : Nat} {l : Leaf} (hl : ls[p]? = some l) (ks : List (Int × Int)) : blks (ls.set p ⟨l.b, l.g, ks⟩) = blks ls := by
  obtain ⟨A, B, hls, hA, hA2, hB2⟩ := split_list hl
  rw [set_split hl, hA2, hB2, hls, blks_append, blks_append, blks_cons, blks_cons]

theorem nodes_set {ls : List Leaf} {p : Nat} {l : Leaf} (hl : ls[p]? = some l) (ks : List (Int × Int)) : (ls.set p ⟨l.b, l.g, ks⟩).map nodeV = ls.map nodeV := by
  obtain ⟨A, B, hls, hA, hA2, hB2⟩ := split_list hl
  rw [set_split hl, hA2, hB2, hls]
  simp [nodeV]

theorem seps_set {ls : List Leaf} {p : Nat} {l : Leaf} (hl : ls[p]? = some l) (ks : List (Int × Int)) (h : 0 < p → ks.getD 0 (0, 0) = l.ks.getD 0 (0, 0)) : seps (ls.set p ⟨l.b, l.g, ks⟩) = seps ls := by
  obtain ⟨A, B, hls, hA, hA2, hB2⟩ := split_list hl
  rw [set_split hl, hA2, hB2, hls]
  cases A with
  | nil => simp [seps]
  | cons a A =>
    have := h (by rw [← hA]; simp)
    simp [seps] at this ⊢
    exact this

theorem ins_head {α : Type} (xs : List α) (q : Nat) (x d : α) (hq : 0 < q) (hl : q ≤ xs.length) : (ins xs q x).getD 0 d = xs.getD 0 d := by
  cases xs with
  | nil => simp at hl; omega
  | cons a xs =>
    obtain ⟨r, rfl⟩ : ∃ r, q = r + 1 := ⟨q - 1, by omega⟩
    simp [ins]

theorem chain_set {w : World} {ls : List Leaf} {p : Nat} {l : Leaf} {ks : List (Int × Int)} (hl : ls[p]? = some l)
    (hoth : ∀ j x, ls[j]? = some x → j ≠ p → LeafRep w ((ls[j + 1]?).map (·.b)) x) (hp : LeafRep w ((ls[p + 1]?).map (·.b)) ⟨l.b, l.g, ks⟩) : ChainRep w (ls.set p ⟨l.b, l.g, ks⟩) := by
  have hpl := (List.getElem?_eq_some_iff.1 hl).1
  have hnext : ∀ j : Nat, ((ls.set p ⟨l.b, l.g, ks⟩)[j]?).map (fun x : Leaf => x.b) = (ls[j]?).map (fun x : Leaf => x.b) := by
    intro j
    by_cases h : p = j
    · subst h; rw [List.getElem?_set_self hpl, hl]; rfl
    · rw [List.getElem?_set_ne h]
  intro j x hj
  rw [hnext (j + 1)]
  by_cases h : p = j
  · subst h
    rw [List.getElem?_set_self hpl] at hj
    obtain rfl := Option.some.inj hj
    exact hp
  · rw [List.getElem?_set_ne h] at hj
    exact hoth j x hj (Ne.symm h)

theorem blks_cut {ls : List Leaf} {c b' g' g'' : Nat} {l : Leaf} (hl : ls[c]? = some l) : ∀ x ∈ blks (cutLeaf ls c b' g' g'' l), x ∈ blks ls ∨ x = b' ∨ x = g' ∨ x = g'' := by
  obtain ⟨A, B, hls, hA, hA2, hB2⟩ := split_list hl
  intro x hx
  rw [cutLeaf, hA2, hB2, blks_append, blks_cons, blks_cons] at hx
  rw [hls, blks_append, blks_cons]
  simp only [List.mem_append, List.mem_cons] at hx ⊢
  rcases hx with h | h | h | h | h | h
  · exact .inl (.inl h)
  · exact .inr (.inl h)
  · exact .inr (.inr (.inl h))
  · exact .inl (.inr (.inl h))
  · exact .inr (.inr (.inr h))
  · exact .inl (.inr (.inr (.inr h)))

theorem blks_cut_nodup {ls : List Leaf} {c b' g' g'' : Nat} {l : Leaf} (hl : ls[c]? = some l) (hd : (blks ls).Nodup) (h1 : b' ∉ blks ls) (h2 : g' ∉ blks ls) (h3 : g'' ∉ blks ls) (h4 : b' ≠ g') (h5 : b' ≠ g'') (h6 : g' ≠ g'') :
    (blks (cutLeaf ls c b' g' g'' l)).Nodup := by
  obtain ⟨A, B, hls, hA, hA2, hB2⟩ := split_list hl
  rw [cutLeaf, hA2, hB2, blks_append, blks_cons, blks_cons]
  rw [hls, blks_append, blks_cons] at hd h1 h2 h3
  obtain ⟨n1, n2, n3⟩ := List.nodup_append.1 hd
  simp only [List.nodup_cons, List.mem_cons, not_or, List.mem_append] at n2 h1 h2 h3
  refine List.nodup_append.2 ⟨n1, ?_, fun x hx y hy => ?_⟩
  · simp only [List.nodup_cons, List.mem_cons, not_or]
    exact ⟨⟨h4, h1.2.1, h5, h1.2.2.2⟩, ⟨h2.2.1, h6, h2.2.2.2⟩, ⟨Ne.symm h3.2.1, n2.1.2⟩, h3.2.2.2, n2.2.2⟩
  · simp only [List.mem_cons] at hy
    rcases hy with rfl | rfl | rfl | rfl | hy
    · intro e; subst e; exact h1.1 hx
    · intro e; subst e; exact h2.1 hx
    · exact n3 x hx _ (by simp)
    · intro e; subst e; exact h3.1 hx
    · exact n3 x hx y (by simp [hy])

theorem mem_cutLeaf {ls : List Leaf} {c b' g' g'' : Nat} {l x : Leaf} (h : x ∈ cutLeaf ls c b' g' g'' l) : (x ∈ ls.take c ∨ x ∈ ls.drop (c + 1)) ∨ x.ks = l.ks.take 6 ∨ x.ks = l.ks.drop 6 := by
  unfold cutLeaf at h
  rcases List.mem_append.1 h with h | h
  · exact .inl (.inl h)
  · rcases List.mem_cons.1 h with rfl | h
    · exact .inr (.inl rfl)
    · rcases List.mem_cons.1 h with rfl | h
      · exact .inr (.inr rfl)
      · exact .inl (.inr h)
end Go.Proofs.YtegejfhomocloaaGreat

/- What one leaf's insertion leaves of the node above it; and the node's whole insertion, closed. -/
namespace Go.Proofs.YtegejfhomocloaaGreat
open Go.RowKit

/-- A key put under an inner node. -/
def NodeIns (ib sg ng : Nat) (ls : List Leaf) (k v : Int) (w : World) (e : Ending) (w' : World) : Prop :=
  ∃ ls', e = .returned (.bool true) ∧ NodeRep w' ib sg ng ls' ∧ ChainRep w' ls' ∧ (∃ i, i ≤ (flat ls).length ∧ flat ls' = ins (flat ls) i (k, v)) ∧ Srt (flat ls') ∧
    (∀ l ∈ ls', 6 ≤ l.ks.length ∧ l.ks.length ≤ 11) ∧ (∀ x ∈ blks ls', x ∈ blks ls ∨ w.heap.size ≤ x) ∧ (blks ls').Nodup ∧ 2 ≤ ls'.length ∧ Keeps (fun x => x = ib ∨ x = sg ∨ x = ng ∨ x ∈ blks ls) w w'

/-- The state behind the leaf's insertion. -/
structure After (t ib sg ng : Nat) (ls : List Leaf) (p q : Nat) (l : Leaf) (k v : Int) (w w3 : World) : Prop where
  node : NodeRep w3 ib sg ng (ls.set p ⟨l.b, l.g, ins l.ks q (k, v)⟩)
  chain : ChainRep w3 (ls.set p ⟨l.b, l.g, ins l.ks q (k, v)⟩)
  put : flat (ls.set p ⟨l.b, l.g, ins l.ks q (k, v)⟩) = ins (flat ls) ((flat (ls.take p)).length + q) (k, v)
  place : (flat (ls.take p)).length + q ≤ (flat ls).length
  srt : Srt (flat (ls.set p ⟨l.b, l.g, ins l.ks q (k, v)⟩))
  apart : (t :: ib :: sg :: ng :: blks (ls.set p ⟨l.b, l.g, ins l.ks q (k, v)⟩)).Nodup
  at_ : (ls.set p ⟨l.b, l.g, ins l.ks q (k, v)⟩)[p]? = some ⟨l.b, l.g, ins l.ks q (k, v)⟩
  keeps : Keeps (fun x => x = ib ∨ x = sg ∨ x = ng ∨ x ∈ blks ls) w w3
  same : blks (ls.set p ⟨l.b, l.g, ins l.ks q (k, v)⟩) = blks ls

theorem after_leaf {t ib sg ng : Nat} {ls : List Leaf} {p q : Nat} {l : Leaf} {k v : Int} {w w2 w3 : World} (hN : NodeRep w ib sg ng ls) (hC : ChainRep w ls) (hd : (t :: ib :: sg :: ng :: blks ls).Nodup)
    (hs : Srt (flat ls)) (hsz : ∀ l ∈ ls, 6 ≤ l.ks.length ∧ l.ks.length ≤ 11) (hk : ∀ x ∈ flat ls, x.1 ≠ k) (hl : ls[p]? = some l)
    (hF : (∀ i, i < p → kOf (seps ls) i < k) ∧ (∀ i, p ≤ i → i < ls.length - 1 → k ≤ kOf (seps ls) i)) (hk2 : Keeps (fun _ => False) w w2)
    (hq : q ≤ l.ks.length) (q1 : ∀ i, i < q → kOf l.ks i < k) (q2 : ∀ i, q ≤ i → i < l.ks.length → k < kOf l.ks i)
    (hL3 : LeafRep w3 ((ls[p + 1]?).map (·.b)) ⟨l.b, l.g, ins l.ks q (k, v)⟩) (hK3 : Keeps (fun x => x = l.b ∨ x = l.g) w2 w3) : After t ib sg ng ls p q l k v w w3 := by
  have hne : ∀ l ∈ ls, 0 < l.ks.length := fun l hl => by have := hsz l hl; omega
  have hpl := (List.getElem?_eq_some_iff.1 hl).1
  have hlm := blks_mem (List.mem_of_getElem? hl)
  have hd' := hd
  simp only [List.nodup_cons, List.mem_cons, not_or] at hd'
  obtain ⟨⟨d1, d2, d3, d4⟩, ⟨d5, d6, d7⟩, ⟨d8, d9⟩, d10, d11⟩ := hd'
  have hpf := put_flat (v := v) hs hne hl hk hF.1 hF.2 hq q1 q2
  have hk3 : Keeps (fun x => x = l.b ∨ x = l.g) w w3 := (hk2.mono fun _ _ f => f.elim).trans hK3 fun _ _ h => h
  have hhead : 0 < p → (ins l.ks q (k, v)).getD 0 (0, 0) = l.ks.getD 0 (0, 0) := fun h0 => by
    refine ins_head _ _ _ _ ?_ hq
    rcases Nat.eq_zero_or_pos q with h | h
    · exfalso
      subst h
      have h1 := hF.1 (p - 1) (by omega)
      have h2 : ls[p - 1 + 1]? = some l := by rw [show p - 1 + 1 = p by omega]; exact hl
      rw [seps_kOf h2] at h1
      have h3 := q2 0 (Nat.le_refl _) (hne l (List.mem_of_getElem? hl))
      omega
    · exact h
  have nb : ∀ y, y ∉ blks ls → ¬ (y = l.b ∨ y = l.g) := fun y hy e => e.elim (fun e => hy (e ▸ hlm.1)) (fun e => hy (e ▸ hlm.2))
  refine ⟨⟨?_, ?_, ?_⟩, ?_, hpf.1, ?_, hpf.2, ?_, List.getElem?_set_self hpl, hk3.mono fun x _ h => .inr (.inr (.inr (h.elim (fun e => e ▸ hlm.1) (fun e => e ▸ hlm.2)))), blks_set hl _⟩
  · rw [List.length_set]; exact hk3.heap hN.1 (nb ib d7)
  · rw [List.length_set, seps_set hl _ hhead]; exact hk3.row hN.2.1 (ownNot (nb sg d9))
  · rw [List.length_set, nodes_set hl]; exact hk3.row hN.2.2 (ownNot (nb ng d10))
  · refine chain_set hl (fun j x hj hjp => ?_) hL3
    have hne := blks_ne d11 hj hl hjp
    exact (hC j x hj).keeps hk3 (fun e => e.elim hne.1 hne.2.1) (fun e => e.elim hne.2.2.1 hne.2.2.2)
  · rw [flat_at hl]; simp only [List.length_append]; omega
  · rw [blks_set hl]; exact hd

theorem After.drew {t ib sg ng : Nat} {ls : List Leaf} {p q : Nat} {l : Leaf} {k v : Int} {w w3 : World} (h : After t ib sg ng ls p q l k v w w3) : After t ib sg ng ls p q l k v w w3.drew :=
  ⟨h.node, h.chain, h.put, h.place, h.srt, h.apart, h.at_, h.keeps.drew, h.same⟩
theorem After.pos {t ib sg ng : Nat} {ls : List Leaf} {p q : Nat} {l : Leaf} {k v : Int} {w w3 : World} (_h : After t ib sg ng ls p q l k v w w3) (hsz : ∀ l ∈ ls, 6 ≤ l.ks.length ∧ l.ks.length ≤ 11) (hn : 0 < (ins l.ks q (k, v)).length) :
    ∀ x ∈ ls.set p ⟨l.b, l.g, ins l.ks q (k, v)⟩, 0 < x.ks.length := fun x hx => by
  rcases List.mem_or_eq_of_mem_set hx with hx | rfl
  · have := hsz x hx; omega
  · exact hn
theorem blks_lt {w : World} {ls : List Leaf} (h : ChainRep w ls) : ∀ x ∈ blks ls, x < w.heap.size := fun x hx => by
  obtain ⟨l, hl, hxl⟩ := List.mem_flatMap.1 hx
  obtain ⟨j, hj⟩ := List.getElem?_of_mem hl
  have hr := h j l hj
  simp only [List.mem_cons, List.not_mem_nil, or_false] at hxl
  rcases hxl with rfl | rfl
  · exact hr.ltb
  · exact hr.ltg

theorem nodeIns_plain {t ib sg ng : Nat} {ls : List Leaf} {p q : Nat} {l : Leaf} {k v : Int} {w w3 : World} (h : After t ib sg ng ls p q l k v w w3) (hl : ls[p]? = some l) (hsz : ∀ l ∈ ls, 6 ≤ l.ks.length ∧ l.ks.length ≤ 11)
    (hlen : 2 ≤ ls.length) (hn : (ins l.ks q (k, v)).length ≤ 11) (hq : q ≤ l.ks.length) : NodeIns ib sg ng ls k v w (.returned (.bool true)) w3 := by
  refine ⟨_, rfl, h.node, h.chain, ⟨_, h.place, h.put⟩, h.srt, fun x hx => ?_, fun x hx => .inl (h.same ▸ hx), ?_, by rw [List.length_set]; exact hlen, h.keeps⟩
  · rcases List.mem_or_eq_of_mem_set hx with hx | rfl
    · exact hsz x hx
    · have h1 := hsz l (List.mem_of_getElem? hl)
      have h2 := ins_length l.ks q (k, v) hq
      simp only []
      omega
  · have := h.apart
    simp only [List.nodup_cons] at this
    exact this.2.2.2.2

theorem nodeIns_cut {t ib sg ng : Nat} {ls : List Leaf} {p q : Nat} {l : Leaf} {k v : Int} {w w3 w4 : World} {e : Ending} (h : After t ib sg ng ls p q l k v w w3) (hsz : ∀ l ∈ ls, 6 ≤ l.ks.length ∧ l.ks.length ≤ 11)
    (hlen : 2 ≤ ls.length) (hn : (ins l.ks q (k, v)).length = 12) (hbl : ∀ x ∈ blks ls, x < w.heap.size)
    (hc : ChildSplit ib sg ng (ls.set p ⟨l.b, l.g, ins l.ks q (k, v)⟩) p ⟨l.b, l.g, ins l.ks q (k, v)⟩ w3 e w4) : NodeIns ib sg ng ls k v w (.returned (.bool true)) w4 := by
  obtain ⟨b', g', g'', _, h1, h2, h3, h4, h5, h6, hN, hC, hK⟩ := hc
  have hz := h.keeps.size
  have hd := h.apart
  simp only [List.nodup_cons] at hd
  have hd := hd.2.2.2.2
  have hbl' : ∀ x ∈ blks (ls.set p ⟨l.b, l.g, ins l.ks q (k, v)⟩), x < w.heap.size := by rw [h.same]; exact hbl
  refine ⟨_, rfl, hN, hC, ⟨_, h.place, ?_⟩, ?_, fun x hx => ?_, fun x hx => ?_, ?_, ?_, ?_⟩
  · rw [flat_cut h.at_]; exact h.put
  · rw [flat_cut h.at_]; exact h.srt
  · rcases mem_cutLeaf hx with hx | hx | hx
    · rcases hx with hx | hx
      · rw [List.take_set_of_le (Nat.le_refl _)] at hx; exact hsz x (List.mem_of_mem_take hx)
      · rw [List.drop_set_of_lt (by omega)] at hx; exact hsz x (List.mem_of_mem_drop hx)
    · rw [hx, List.length_take]; simp only [hn]; omega
    · rw [hx, List.length_drop]; simp only [hn]; omega
  · rcases blks_cut h.at_ x hx with hx | hx | hx | hx
    · exact .inl (h.same ▸ hx)
    · exact .inr (by omega)
    · exact .inr (by omega)
    · exact .inr (by omega)
  · refine blks_cut_nodup h.at_ hd (fun hx => ?_) (fun hx => ?_) (fun hx => ?_) h4 h5 h6
    · have := hbl' _ hx; omega
    · have := hbl' _ hx; omega
    · have := hbl' _ hx; omega
  · rw [cutLeaf_length _ _ _ _ _ _ (List.getElem?_eq_some_iff.1 h.at_).1, List.length_set]; omega
  · refine h.keeps.trans hK fun x _ hx => ?_
    rw [h.same] at hx; exact hx
end Go.Proofs.YtegejfhomocloaaGreat
