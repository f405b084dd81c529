/- A part of the proof of FnRoadOrder: the sparse bit array: the answers. No conditions but those of the theorems. -/
import Derived.Test.YtegejfhomocloaaGreatJ8
import Derived.Test.YtegejfhomocloaaGreatJ7
import Derived.Defers
import Derived.Recover
set_option linter.all false
/- Plain laws: blocks of bits hold the numbers that were put. No program in sight. -/
namespace Go.Proofs.YtegejfhomocloaaGreat

/-- A bit of a block is set. -/
def has (P : List (Nat × Nat)) (ix r : Nat) : Prop := ∃ b, (ix, b) ∈ P ∧ b.testBit r = true

theorem pow_lt {q : Nat} (hq : q < 64) : (2 ^ q : Nat) < 18446744073709551616 := Nat.pow_lt_pow_right (by omega) hq

theorem testBit_put (b q r : Nat) : (b ||| 2 ^ q).testBit r = true ↔ b.testBit r = true ∨ r = q := by
  rw [Nat.testBit_or, Nat.testBit_two_pow]
  by_cases h : q = r
  · subst h; simp
  · have h' : r ≠ q := fun e => h e.symm
    simp [h, h']

theorem put_has {P P' : List (Nat × Nat)} {k : Nat} (h : PutP P k P') : ∀ ix r, has P' ix r ↔ has P ix r ∨ (ix = k / 64 ∧ r = k % 64) := by
  intro ix r
  obtain ⟨p, ⟨b, hp, rfl⟩ | ⟨hp, h1, h2, rfl⟩⟩ := h
  · have hpl := (List.getElem?_eq_some_iff.1 hp).1
    have hpm := List.mem_of_getElem? hp
    constructor
    · rintro ⟨b', hm, hb⟩
      rcases List.mem_or_eq_of_mem_set hm with hm | hm
      · exact .inl ⟨b', hm, hb⟩
      · injection hm with e1 e2
        subst e1 e2
        rcases (testBit_put _ _ _).1 hb with h | h
        · exact .inl ⟨b, hpm, h⟩
        · exact .inr ⟨rfl, h⟩
    · rintro (⟨b', hm, hb⟩ | ⟨rfl, rfl⟩)
      · obtain ⟨j, hj, hje⟩ := List.getElem_of_mem hm
        by_cases hjp : j = p
        · subst hjp
          rw [List.getElem?_eq_getElem hj, hje] at hp
          injection hp with hp
          injection hp with e1 e2
          subst e1 e2
          exact ⟨_, List.mem_set hpl _, (testBit_put _ _ _).2 (.inl hb)⟩
        · refine ⟨b', ?_, hb⟩
          refine List.mem_of_getElem? (i := j) ?_
          rw [List.getElem?_set_ne (fun e => hjp e.symm), List.getElem?_eq_getElem hj, hje]
      · exact ⟨_, List.mem_set hpl _, (testBit_put _ _ _).2 (.inr rfl)⟩
  · have hperm := ins_perm P p (k / 64, 2 ^ (k % 64))
    constructor
    · rintro ⟨b', hm, hb⟩
      rcases List.mem_cons.1 (hperm.mem_iff.1 hm) with e | hm
      · injection e with e1 e2
        subst e1 e2
        rw [Nat.testBit_two_pow] at hb
        exact .inr ⟨rfl, (by simpa using hb : k % 64 = r).symm⟩
      · exact .inl ⟨b', hm, hb⟩
    · rintro (⟨b', hm, hb⟩ | ⟨rfl, rfl⟩)
      · exact ⟨b', hperm.mem_iff.2 (List.mem_cons_of_mem _ hm), hb⟩
      · exact ⟨_, hperm.mem_iff.2 (List.mem_cons_self ..), by rw [Nat.testBit_two_pow]; simp⟩

theorem put_srt {P P' : List (Nat × Nat)} {k : Nat} (h : PutP P k P') (hs : PSrt P) : PSrt P' := by
  have hk : k % 64 < 64 := Nat.mod_lt _ (by omega)
  obtain ⟨p, ⟨b, hp, rfl⟩ | ⟨hp, h1, h2, rfl⟩⟩ := h
  · have hpl := (List.getElem?_eq_some_iff.1 hp).1
    have hpm := List.mem_of_getElem? hp
    refine ⟨?_, fun x hx => ?_⟩
    · have hm : (P.set p (k / 64, b ||| 2 ^ (k % 64))).map (·.1) = P.map (·.1) := by
        rw [List.map_set]
        apply List.ext_getElem?
        intro j
        rw [List.getElem?_set]
        split
        · rename_i h
          subst h
          rw [List.length_map, if_pos hpl, List.getElem?_map, hp]; rfl
        · rfl
      have := hs.1
      rw [← List.pairwise_map (f := fun x : Nat × Nat => x.1) (R := (· < ·))] at this ⊢
      rw [hm]; exact this
    · rcases List.mem_or_eq_of_mem_set hx with hm | hm
      · exact hs.2 x hm
      · subst hm
        exact Nat.or_lt_two_pow (n := 64) (hs.2 _ hpm) (pow_lt hk)
  · refine ⟨?_, fun x hx => ?_⟩
    · unfold ins
      have h' : (P.take p ++ P.drop p).Pairwise (fun a b => a.1 < b.1) := by rw [List.take_append_drop]; exact hs.1
      obtain ⟨a, b, c⟩ := List.pairwise_append.1 h'
      refine List.pairwise_append.2 ⟨a, List.pairwise_cons.2 ⟨fun y hy => h2 y hy, b⟩, fun x hx y hy => ?_⟩
      rcases List.mem_cons.1 hy with rfl | hy
      · exact h1 x hx
      · exact c x hx y hy
    · rcases List.mem_cons.1 ((ins_perm P p _).mem_iff.1 hx) with rfl | hm
      · exact pow_lt hk
      · exact hs.2 x hm

theorem put_len {P P' : List (Nat × Nat)} {k : Nat} (h : PutP P k P') : P'.length ≤ P.length + 1 := by
  obtain ⟨p, ⟨b, hp, rfl⟩ | ⟨hp, h1, h2, rfl⟩⟩ := h
  · rw [List.length_set]; omega
  · rw [ins_length _ _ _ hp]; omega
theorem put_ix {P P' : List (Nat × Nat)} {k : Nat} (h : PutP P k P') (hk : k ≤ 65535) (hP : ∀ x ∈ P, x.1 ≤ 1023) : ∀ x ∈ P', x.1 ≤ 1023 := by
  intro x hx
  obtain ⟨p, ⟨b, hp, rfl⟩ | ⟨hp, h1, h2, rfl⟩⟩ := h
  · rcases List.mem_or_eq_of_mem_set hx with hm | hm
    · exact hP x hm
    · subst hm; show k / 64 ≤ 1023; omega
  · rcases List.mem_cons.1 ((ins_perm P p _).mem_iff.1 hx) with rfl | hm
    · show k / 64 ≤ 1023; omega
    · exact hP x hm

/-- The blocks hold the numbers. -/
def BitsOf (P : List (Nat × Nat)) (ks : List Nat) : Prop :=
  PSrt P ∧ (∀ x ∈ P, x.1 ≤ 1023) ∧ P.length ≤ ks.length ∧ ∀ ix r, r < 64 → (has P ix r ↔ ix * 64 + r ∈ ks)

theorem bitsOf_nil : BitsOf [] [] := ⟨⟨List.Pairwise.nil, fun x hx => (by cases hx)⟩, fun x hx => (by cases hx), Nat.le_refl _, fun ix r _ => ⟨fun ⟨b, hb, _⟩ => (by cases hb), fun h => (by cases h)⟩⟩

theorem bitsOf_put {P P' : List (Nat × Nat)} {ks : List Nat} {k : Nat} (h : BitsOf P ks) (hp : PutP P k P') (hk : k ≤ 65535) : BitsOf P' (ks ++ [k]) := by
  obtain ⟨h1, h2, h3, h4⟩ := h
  refine ⟨put_srt hp h1, put_ix hp hk h2, by have := put_len hp; simp; omega, fun ix r hr => ?_⟩
  rw [put_has hp, h4 ix r hr, List.mem_append, List.mem_singleton]
  refine or_congr Iff.rfl ⟨fun ⟨e1, e2⟩ => by omega, fun e => ⟨by omega, by omega⟩⟩

theorem mem_bitsTo {b off : Nat} {v : Int} : v ∈ bitsTo b off 64 ↔ ∃ r, r < 64 ∧ b.testBit r = true ∧ v = ((off + r : Nat) : Int) := by
  unfold bitsTo
  rw [List.mem_map]
  constructor
  · rintro ⟨r, hr, rfl⟩
    rw [List.mem_filter, List.mem_range] at hr
    exact ⟨r, hr.1, hr.2, rfl⟩
  · rintro ⟨r, hr, hb, rfl⟩
    exact ⟨r, List.mem_filter.2 ⟨List.mem_range.2 hr, hb⟩, rfl⟩

theorem mem_nums {P : List (Nat × Nat)} {v : Int} : v ∈ numsAll P ↔ ∃ ix r, r < 64 ∧ has P ix r ∧ v = ((ix * 64 + r : Nat) : Int) := by
  unfold numsAll
  rw [List.mem_flatMap]
  constructor
  · rintro ⟨⟨ix, b⟩, hx, hv⟩
    obtain ⟨r, hr, hb, rfl⟩ := mem_bitsTo.1 hv
    exact ⟨ix, r, hr, ⟨b, hx, hb⟩, rfl⟩
  · rintro ⟨ix, r, hr, ⟨b, hx, hb⟩, rfl⟩
    exact ⟨(ix, b), hx, mem_bitsTo.2 ⟨r, hr, hb, rfl⟩⟩

theorem nums_srt {P : List (Nat × Nat)} (h : PSrt P) : (numsAll P).Pairwise (· < ·) := by
  unfold numsAll
  rw [List.pairwise_flatMap]
  refine ⟨fun x _ => ?_, ?_⟩
  · unfold bitsTo
    rw [List.pairwise_map]
    refine List.Pairwise.imp ?_ (List.Pairwise.filter _ (List.pairwise_lt_range (n := 64)))
    intro a b hab
    omega
  · refine List.Pairwise.imp ?_ h.1
    intro a b hab x hx y hy
    obtain ⟨r, hr, _, rfl⟩ := mem_bitsTo.1 hx
    obtain ⟨r', hr', _, rfl⟩ := mem_bitsTo.1 hy
    omega

theorem nums_perm {P : List (Nat × Nat)} {ks : List Nat} (h : BitsOf P ks) (hn : ks.Nodup) : (numsAll P).Perm (ks.map fun k : Nat => (k : Int)) := by
  have h1 : (numsAll P).Nodup := (nums_srt h.1).imp (fun hab e => by omega)
  have h2 : (ks.map fun k : Nat => (k : Int)).Nodup := by
    rw [List.Nodup, List.pairwise_map]
    have hn' : ks.Pairwise (fun a b => a ≠ b) := hn
    exact List.Pairwise.imp (fun {a b : Nat} (hab : a ≠ b) (e : (a : Int) = (b : Int)) => hab (by omega)) hn'
  rw [List.perm_ext_iff_of_nodup h1 h2]
  intro v
  rw [mem_nums, List.mem_map]
  constructor
  · rintro ⟨ix, r, hr, hh, rfl⟩
    exact ⟨_, (h.2.2.2 ix r hr).1 hh, rfl⟩
  · rintro ⟨k, hk, rfl⟩
    refine ⟨k / 64, k % 64, Nat.mod_lt _ (by omega), (h.2.2.2 _ _ (Nat.mod_lt _ (by omega))).2 ?_, ?_⟩
    · rwa [show k / 64 * 64 + k % 64 = k by omega]
    · rw [show k / 64 * 64 + k % 64 = k by omega]
end Go.Proofs.YtegejfhomocloaaGreat

namespace Go.Proofs.YtegejfhomocloaaGreat
open Go.RowKit

theorem catch49 (p : Addr) (w : World) : CallsD Tryz.prog 49 #[.pointer (some p)] .returning w fun e u' w' => e = .returned (.tuple #[]) ∧ u' = .returning ∧ w' = w := by
  refine callsD_of_wpS Tryz.func49 rfl fun c₀ cs hu => ?_
  apply wpS_seq
  apply wpS_region
  simp [wpOpsS, go_sem, recoverD, hu, Tryz.ntmps49, Exit.thenS]
  refine wpS_cond (t := false) (by simp [Act.eval, Array.replicate]) ?_
  simp only [Bool.false_eq_true, if_false]
  refine wpS_of_wp (wp_skip ?_)
  cases c₀
  simp_all [bodyPostS, results, Tryz.results49]

theorem info172 : (Tryz.prog.info? 172).map (fun i => (i.zero, i.size, i.bytes)) = some (some .nilIface, 1, 16) := by kernel_rfl

def arrV (t : Nat) : Value := .iface 215 (.pointer (some ⟨t, 0, none⟩))

/-- An array that is kept. -/
def Kept (w : World) (ab t : Nat) : Prop := ∃ g c, w.heap[ab]? = some (.cells #[.slice (some ⟨g, 0, none⟩) 1 c] 143 (0, 0)) ∧ w.ownsRow 0 172 1 (.slice (some ⟨g, 0, none⟩) 1 c) 1 [arrV t]

set_option maxRecDepth 100000 in
theorem new52 (w : World) : Calls Tryz.prog 52 #[] w fun e w' => e = .returned (.iface 215 (.pointer (some ⟨w.heap.size, 0, none⟩))) ∧ Sparse w' w.heap.size (.slice none 0 0) (.slice none 0 0) [] ∧ Keeps (fun _ => False) w w' := by
  go_enter Tryz.func52, Tryz.ntmps52
  go_wp2
  go_ret
  exact ⟨rfl, ⟨heap_alloc_new w _, World.ownsRow_nil _ _ _ _, World.ownsRow_nil _ _ _ _⟩, (Keeps.refl _ w).alloc _⟩

set_option maxRecDepth 100000 in
set_option maxHeartbeats 400000 in
theorem made50 (ab t : Nat) (w : World) (hA : w.heap[ab]? = some (.cells #[.slice none 0 0] 143 (0, 0))) :
    Calls Tryz.prog 50 #[.pointer (some ⟨ab, 0, none⟩), .iface 215 (.pointer (some ⟨t, 0, none⟩))] w fun e w' => e = .returned (.tuple #[]) ∧ Kept w' ab t ∧ Keeps (fun y => y = ab) w w' := by
  obtain ⟨i0, hi0, hiz, his, hib⟩ := info_parts info172
  have c0 : w.cell? ⟨ab, 0, none⟩ = some (.slice none 0 0) := cell_at hA 0
  have f0 : w.frozen? ⟨ab, 0, none⟩ = false := free_at hA 0
  have hal := lt_of_block hA
  have HA := Lib.hid hA; clear hA
  go_enter Tryz.func50, Tryz.ntmps50
  go_wp2_with (at_builtin; refine wpList_append_lies _ rfl (.tmp 8) (.tmp 10) 141 rfl w.heap.size 172 i0 _ 1 16 Tryz.underlying141 hi0 hiz his hib rfl (by omega) (.slice none 0 0) 0 [] rfl (World.ownsRow_nil _ _ _ _) ⟨w.heap.size, 0, none⟩ 1 1 [arrV t] rfl (by rfl) (cell_one_new _ _ _) (one_of rfl) (by omega) (by simp only [maxLen]; omega) (by omega) (by simp) _ rfl ?_; intro g cap w1 hO1 hg1 hat hlt; clear hat; have hA1 := grown_heap hg1 (alloc_heap _ _ HA.out) (fun e => by cases e); clear c0 f0; have c1 : w1.cell? ⟨ab, 0, none⟩ = some (.slice none 0 0) := cell_at hA1 0; have f1 : w1.frozen? ⟨ab, 0, none⟩ = false := free_at hA1 0; have HA1 := Lib.hid hA1; clear hA1; have HO1 := Lib.hid hO1; clear hO1; have HG1 := Lib.hid hg1; clear hg1)
  first | go_end0 | refine bodyPost_ret (results_none rfl _ _ _) rfl ?_
  have hga : g ≠ ab := by have := (HO1.out.lt g rfl).1; omega
  exact ⟨rfl, ⟨g, cap, heap_setCell_same w1 ab 0 _ _ _ HA1.out, ownsBase (ownsRow_setCell_other HO1.out (a := ⟨ab, 0, none⟩) (ne_row hga) _)⟩, ((Keeps.alloc (Keeps.refl _ _) _).grown HG1.out (fun b hb _ => by cases hb)).setIn ab 0 _ rfl⟩

set_option maxRecDepth 100000 in
set_option maxHeartbeats 400000 in
theorem at53 (ab t : Nat) (w : World) (hA : Kept w ab t) :
    Calls Tryz.prog 53 #[.pointer (some ⟨ab, 0, none⟩), .int .i64 0] w fun e w' => e = .returned (.iface 215 (.pointer (some ⟨t, 0, none⟩))) ∧ w' = w := by
  obtain ⟨g, c, hA, hO⟩ := hA
  have c0 : w.cell? ⟨ab, 0, none⟩ = some (.slice (some ⟨g, 0, none⟩) 1 c) := cell_at hA 0
  have c1 : w.cell? ⟨g, 0, none⟩ = some (.iface 215 (.pointer (some ⟨t, 0, none⟩))) := by rw [hO.cellAt 0 (by omega)]; rfl
  clear hA hO
  go_enter Tryz.func53, Tryz.ntmps53
  go_wp2
  go_ret
  exact ⟨rfl, rfl⟩

/-- The first step: a sparse array is made. -/
def Made (ab : Nat) (w : World) (e : Ending) (w' : World) : Prop :=
  e = .returned (.agg #[.bool false, .int .u64 0, .slice none 0 0, .bool false]) ∧ ∃ t, Kept w' ab t ∧ Sparse w' t (.slice none 0 0) (.slice none 0 0) [] ∧ w.heap.size ≤ t ∧ Keeps (fun y => y = ab) w w'

set_option maxRecDepth 100000 in
set_option maxHeartbeats 800000 in
theorem step40make (ab : Nat) (w : World) (hA : w.heap[ab]? = some (.cells #[.slice none 0 0] 143 (0, 0))) :
    Calls Tryz.prog 40 #[.pointer (some ⟨ab, 0, none⟩), .agg #[.int .i64 2, .int .i64 0, .int .i64 0, .int .u64 0, .int .i64 0, .bool false]] w (Made ab w) := by
  have hmf : ∀ (fn : Fn) (first cap : Array Value) (w : World), (Instr.makeFunc fn first cap).run Tryz.prog w = .ok (.func fn first cap) w := fun _ _ _ _ => rfl
  have HA := Lib.hid hA; clear hA
  go_enter_defers Tryz.func40, Tryz.ntmps40
  go_wp2_with fail
  have K2 := Lib.hid (((Keeps.refl (fun _ => False) w).alloc (.cells #[.int .i64 2, .int .i64 0, .int .i64 0, .int .u64 0, .int .i64 0, .bool false] 31)).alloc (.cells #[.bool false, .int .u64 0, .slice none 0 0, .bool false] 65))
  have HO2 := Lib.hid (alloc_at (w.alloc (.cells #[.int .i64 2, .int .i64 0, .int .i64 0, .int .u64 0, .int .i64 0, .bool false] 31)) (.cells #[.bool false, .int .u64 0, .slice none 0 0, .bool false] 65) (w.heap.size + 1) (by simp))
  have hz2 : ((w.alloc (.cells #[.int .i64 2, .int .i64 0, .int .i64 0, .int .u64 0, .int .i64 0, .bool false] 31)).alloc (.cells #[.bool false, .int .u64 0, .slice none 0 0, .bool false] 65)).heap.size = w.heap.size + 2 := by simp
  have hal := lt_of_block HA.out
  generalize (w.alloc (.cells #[.int .i64 2, .int .i64 0, .int .i64 0, .int .u64 0, .int .i64 0, .bool false] 31)).alloc (.cells #[.bool false, .int .u64 0, .slice none 0 0, .bool false] 65) = w2 at K2 HO2 hz2 ⊢
  have hzz : w.heap.size = w.heap.size := rfl
  generalize hz : w.heap.size = z at HO2 hz2 hal hzz ⊢
  have HZZ := Lib.hid hz; clear hz hzz
  refine (new52 _).mono ?_
  rintro e w3 ⟨rfl, hS3, hK3⟩
  have hz3 := hK3.size
  rw [hz2] at hS3
  have HA3 := (K2.out.trans hK3 (fun _ _ f => f)).heap HA.out (fun f => f)
  have HM := Lib.hid (made50 ab (z + 2) w3 HA3)
  have HS3 := Lib.hid hS3; clear hS3 HA3
  have HO3 := Lib.hid (hK3.heap HO2.out (fun f => f))
  have K3 := Lib.hid (K2.out.trans hK3 (fun _ _ f => f)); clear hK3
  go_wp2_with fail
  refine HM.out.mono ?_
  rintro e w4 ⟨rfl, hKe, hK4⟩
  have HO4 := Lib.hid (hK4.heap HO3.out (fun e => by omega))
  have HS4 : Hid (Sparse w4 (z + 2) (.slice none 0 0) (.slice none 0 0) []) := ⟨hK4.heap HS3.out.1 (fun e => by omega), World.ownsRow_nil _ _ _ _, World.ownsRow_nil _ _ _ _⟩
  have HKE := Lib.hid hKe; clear hKe
  have K4 := Lib.hid ((K3.out.mono (G := fun y => y = ab) (fun _ _ f => f.elim)).trans hK4 (fun _ _ h => h)); clear hK4 HM
  have d0 : w4.cell? ⟨z + 1, 0, none⟩ = some (.bool false) := cell_at HO4.out 0
  have f0 : w4.frozen? ⟨z + 1, 0, none⟩ = false := free_at HO4.out 0
  have d1 : w4.cell? ⟨z + 1, 1, none⟩ = some (.int .u64 0) := cell_at HO4.out 1
  have f1 : w4.frozen? ⟨z + 1, 1, none⟩ = false := free_at HO4.out 1
  have d2 : w4.cell? ⟨z + 1, 2, none⟩ = some (.slice none 0 0) := cell_at HO4.out 2
  have f2 : w4.frozen? ⟨z + 1, 2, none⟩ = false := free_at HO4.out 2
  have d3 : w4.cell? ⟨z + 1, 3, none⟩ = some (.bool false) := cell_at HO4.out 3
  have f3 : w4.frozen? ⟨z + 1, 3, none⟩ = false := free_at HO4.out 3
  go_wp2_with fail
  have A2 := heap_setCell_same _ (z + 1) 3 _ _ (.bool false) (heap_setCell_same _ (z + 1) 2 _ _ (.slice none 0 0) (heap_setCell_same _ (z + 1) 1 _ _ (.int .u64 0) (heap_setCell_same w4 (z + 1) 0 _ _ (.bool false) HO4.out)))
  have KF := ((((Keeps.refl (fun y => y = z + 1) w4).setIn (z + 1) 0 (.bool false) rfl).setIn (z + 1) 1 (.int .u64 0) rfl).setIn (z + 1) 2 (.slice none 0 0) rfl).setIn (z + 1) 3 (.bool false) rfl
  have FIN : ∀ wf, Keeps (fun y => y = z + 1) w4 wf → Made ab w (.returned (.agg #[.bool false, .int .u64 0, .slice none 0 0, .bool false])) wf := fun wf KF => by
    have HH := HO4.out
    obtain ⟨g, c, hg1, hg2⟩ := HKE.out
    refine ⟨rfl, z + 2, ⟨g, c, KF.heap hg1 (type_ne hg1 HH (by decide)), KF.row hg2 (row_type_ne HH hg2 (by decide))⟩, ⟨KF.heap HS4.out.1 (fun e => by omega), World.ownsRow_nil _ _ _ _, World.ownsRow_nil _ _ _ _⟩, by rw [HZZ.out]; omega, K4.out.trans KF (fun b hb (e : b = z + 1) => absurd hb (by rw [HZZ.out]; omega))⟩
  have FF := Lib.hid (FIN _ KF)
  have AA := Lib.hid A2
  clear FIN KF A2 hmf d0 d1 d2 d3 f0 f1 f2 f3
  refine leaves_cons (f := 49) (args := #[.pointer (some ⟨z + 1, 0, none⟩)]) (by simp) (by simp [go_sem]) ?_
  refine (catch49 ⟨z + 1, 0, none⟩ _).mono ?_
  rintro e u' w'' ⟨rfl, rfl, rfl⟩
  exact ⟨_, results_cell_row rfl _ _ (z + 1) 65 _ (0, 0) _ rfl AA.out Tryz.underlying65 rfl (by kernel_rfl), rfl, FF.out.2⟩
end Go.Proofs.YtegejfhomocloaaGreat

namespace Go.Proofs.YtegejfhomocloaaGreat
open Go.RowKit

theorem Kept.keeps {w w' : World} {ab t : Nat} {F : Nat → Prop} (h : Kept w ab t) (k : Keeps F w w') (hF : ∀ g, (g = ab ∨ ∃ B n xs, w.ownsRow B 172 1 (.slice (some ⟨g, 0, none⟩) 1 n) 1 xs) → ¬ F g) : Kept w' ab t := by
  obtain ⟨g, c, h1, h2⟩ := h
  exact ⟨g, c, k.heap h1 (hF ab (.inl rfl)), k.row h2 (ownNot (hF g (.inr ⟨_, _, _, h2⟩)))⟩
theorem Kept.other {w w' : World} {ab t b : Nat} {cs : Array Value} {ty : TypeId} {fr : Nat × Nat} (h : Kept w ab t) (k : Keeps (fun y => y = b) w w') (hb : w.heap[b]? = some (.cells cs ty fr)) (h1 : ty ≠ 143) (h2 : ty ≠ 172) : Kept w' ab t := by
  obtain ⟨g, c, a1, a2⟩ := h
  exact ⟨g, c, k.heap a1 (type_ne hb a1 h1).symm, k.row a2 (row_type_ne hb a2 h2)⟩
theorem Sparse.other {w w' : World} {t b : Nat} {bv iv : Value} {P : List (Nat × Nat)} {cs : Array Value} {ty : TypeId} {fr : Nat × Nat} (h : Sparse w t bv iv P) (k : Keeps (fun y => y = b) w w') (hb : w.heap[b]? = some (.cells cs ty fr)) (h1 : ty ≠ 241) (h2 : ty ≠ 187) (h3 : ty ≠ 25) : Sparse w' t bv iv P :=
  ⟨k.heap h.1 (type_ne hb h.1 h1).symm, k.row h.2.1 (row_type_ne hb h.2.1 h2), k.row h.2.2 (row_type_ne hb h.2.2 h3)⟩
theorem Kept.setBit {w w' : World} {ab t : Nat} {bv iv : Value} {P : List (Nat × Nat)} (h : Kept w ab t) (hS : Sparse w t bv iv P) (k : Keeps (fun y => y = t ∨ bv.ownBlock = some y ∨ iv.ownBlock = some y) w w') : Kept w' ab t := by
  obtain ⟨g, c, a1, a2⟩ := h
  refine ⟨g, c, k.heap a1 ?_, k.row a2 (ownNot ?_)⟩
  · rintro (e | e | e)
    · exact (type_ne hS.1 a1 (by decide)).symm e
    · exact row_type_ne a1 hS.2.1 (by decide) ab e rfl
    · exact row_type_ne a1 hS.2.2 (by decide) ab e rfl
  · rintro (e | e | e)
    · exact row_type_ne hS.1 a2 (by decide) g rfl e
    · exact rows_apart a2 hS.2.1 (by decide) g rfl e
    · exact rows_apart a2 hS.2.2 (by decide) g rfl e

/-- A step that puts a bit. -/
def PutStep (ab t : Nat) (bv iv : Value) (P : List (Nat × Nat)) (k : Nat) (w : World) (e : Ending) (w' : World) : Prop :=
  e = .returned (.agg #[.bool true, .int .u64 0, .slice none 0 0, .bool false]) ∧ ∃ bv' iv' P', Kept w' ab t ∧ Sparse w' t bv' iv' P' ∧ PutP P k P' ∧ (∀ y, bv'.ownBlock = some y ∨ iv'.ownBlock = some y → bv.ownBlock = some y ∨ iv.ownBlock = some y ∨ w.heap.size ≤ y) ∧
    Keeps (fun y => y = t ∨ bv.ownBlock = some y ∨ iv.ownBlock = some y) w w'

set_option maxRecDepth 100000 in
set_option maxHeartbeats 800000 in
theorem step40set (ab t k : Nat) (bv iv : Value) (P : List (Nat × Nat)) (w : World) (hA : Kept w ab t) (hS : Sparse w t bv iv P) (hP : PSrt P) (hlen : P.length ≤ 99) (hk : k ≤ 65535) :
    Calls Tryz.prog 40 #[.pointer (some ⟨ab, 0, none⟩), .agg #[.int .i64 3, .int .i64 0, .int .i64 0, .int .u64 (k : Int), .int .i64 0, .bool false]] w (PutStep ab t bv iv P k w) := by
  have hmf : ∀ (fn : Fn) (first cap : Array Value) (w : World), (Instr.makeFunc fn first cap).run Tryz.prog w = .ok (.func fn first cap) w := fun _ _ _ _ => rfl
  have HA := Lib.hid hA; clear hA
  have HS := Lib.hid hS; clear hS
  go_enter_defers Tryz.func40, Tryz.ntmps40
  go_wp2_with fail
  have K2 := Lib.hid (((Keeps.refl (fun _ => False) w).alloc (.cells #[.int .i64 3, .int .i64 0, .int .i64 0, .int .u64 (k : Int), .int .i64 0, .bool false] 31)).alloc (.cells #[.bool false, .int .u64 0, .slice none 0 0, .bool false] 65))
  have HO2 := Lib.hid (alloc_at (w.alloc (.cells #[.int .i64 3, .int .i64 0, .int .i64 0, .int .u64 (k : Int), .int .i64 0, .bool false] 31)) (.cells #[.bool false, .int .u64 0, .slice none 0 0, .bool false] 65) (w.heap.size + 1) (by simp))
  have hop := alloc_heap (w.alloc (.cells #[.int .i64 3, .int .i64 0, .int .i64 0, .int .u64 (k : Int), .int .i64 0, .bool false] 31)) (.cells #[.bool false, .int .u64 0, .slice none 0 0, .bool false] 65) (heap_alloc_new w (.cells #[.int .i64 3, .int .i64 0, .int .i64 0, .int .u64 (k : Int), .int .i64 0, .bool false] 31))
  have a0 : ((w.alloc (.cells #[.int .i64 3, .int .i64 0, .int .i64 0, .int .u64 (k : Int), .int .i64 0, .bool false] 31)).alloc (.cells #[.bool false, .int .u64 0, .slice none 0 0, .bool false] 65)).cell? ⟨w.heap.size, 0, none⟩ = some (.int .i64 3) := cell_at hop 0
  have a3 : ((w.alloc (.cells #[.int .i64 3, .int .i64 0, .int .i64 0, .int .u64 (k : Int), .int .i64 0, .bool false] 31)).alloc (.cells #[.bool false, .int .u64 0, .slice none 0 0, .bool false] 65)).cell? ⟨w.heap.size, 3, none⟩ = some (.int .u64 (k : Int)) := cell_at hop 3
  have hz2 : ((w.alloc (.cells #[.int .i64 3, .int .i64 0, .int .i64 0, .int .u64 (k : Int), .int .i64 0, .bool false] 31)).alloc (.cells #[.bool false, .int .u64 0, .slice none 0 0, .bool false] 65)).heap.size = w.heap.size + 2 := by simp
  have htl : t < w.heap.size := lt_of_block HS.out.1
  have hbl : ∀ y, bv.ownBlock = some y → y < w.heap.size := fun y hy => (HS.out.2.1.lt y hy).2
  have hil : ∀ y, iv.ownBlock = some y → y < w.heap.size := fun y hy => (HS.out.2.2.lt y hy).2
  have HA2 : Hid (Kept ((w.alloc (.cells #[.int .i64 3, .int .i64 0, .int .i64 0, .int .u64 (k : Int), .int .i64 0, .bool false] 31)).alloc (.cells #[.bool false, .int .u64 0, .slice none 0 0, .bool false] 65)) ab t) := HA.out.keeps K2.out (fun _ _ f => f)
  have HS2 : Hid (Sparse ((w.alloc (.cells #[.int .i64 3, .int .i64 0, .int .i64 0, .int .u64 (k : Int), .int .i64 0, .bool false] 31)).alloc (.cells #[.bool false, .int .u64 0, .slice none 0 0, .bool false] 65)) t bv iv P) := ⟨K2.out.heap HS.out.1 (fun f => f), K2.out.row HS.out.2.1 (fun _ _ f => f), K2.out.row HS.out.2.2 (fun _ _ f => f)⟩
  clear hop
  generalize (w.alloc (.cells #[.int .i64 3, .int .i64 0, .int .i64 0, .int .u64 (k : Int), .int .i64 0, .bool false] 31)).alloc (.cells #[.bool false, .int .u64 0, .slice none 0 0, .bool false] 65) = w2 at K2 HO2 hz2 HA2 HS2 a0 a3 ⊢
  have HBL := Lib.hid hbl; clear hbl
  have HIL := Lib.hid hil; clear hil
  have hzz : w.heap.size = w.heap.size := rfl
  generalize hz : w.heap.size = z at HO2 hz2 htl hzz HBL HIL a0 a3 ⊢
  have HZZ := Lib.hid hz; clear hz hzz
  refine (at53 ab t w2 HA2.out).mono ?_
  rintro e w3 ⟨rfl, rfl⟩
  have HB := Lib.hid (setBit228 t k bv iv P w3 hk HS2.out hP hlen)
  clear hP
  go_wp2_with fail
  refine HB.out.mono ?_
  rintro e w4 ⟨rfl, bv', iv', P', hS4, hPut, hown, hK4⟩
  have HO4 := Lib.hid (hK4.heap HO2.out (fun e => e.elim (fun e => by omega) (fun e => e.elim (fun e => by have := HBL.out _ e; omega) (fun e => by have := HIL.out _ e; omega))))
  have HKE := Lib.hid (HA2.out.setBit HS2.out hK4)
  have HS4 := Lib.hid hS4; clear hS4
  have HPUT := Lib.hid hPut; clear hPut
  have HOW := Lib.hid hown; clear hown
  have K4 := Lib.hid ((K2.out.mono (G := fun y => y = t ∨ bv.ownBlock = some y ∨ iv.ownBlock = some y) (fun _ _ f => f.elim)).trans hK4 (fun _ _ h => h)); clear hK4 HB
  have d0 : w4.cell? ⟨z + 1, 0, none⟩ = some (.bool false) := cell_at HO4.out 0
  have f0 : w4.frozen? ⟨z + 1, 0, none⟩ = false := free_at HO4.out 0
  have d1 : w4.cell? ⟨z + 1, 1, none⟩ = some (.int .u64 0) := cell_at HO4.out 1
  have f1 : w4.frozen? ⟨z + 1, 1, none⟩ = false := free_at HO4.out 1
  have d2 : w4.cell? ⟨z + 1, 2, none⟩ = some (.slice none 0 0) := cell_at HO4.out 2
  have f2 : w4.frozen? ⟨z + 1, 2, none⟩ = false := free_at HO4.out 2
  have d3 : w4.cell? ⟨z + 1, 3, none⟩ = some (.bool false) := cell_at HO4.out 3
  have f3 : w4.frozen? ⟨z + 1, 3, none⟩ = false := free_at HO4.out 3
  clear a0 a3
  go_wp2_with fail
  have A0 := heap_setCell_same w4 (z + 1) 0 _ _ (.bool true) HO4.out
  have A2 := heap_setCell_same _ (z + 1) 3 _ _ (.bool false) (heap_setCell_same _ (z + 1) 2 _ _ (.slice none 0 0) (heap_setCell_same _ (z + 1) 1 _ _ (.int .u64 0) (heap_setCell_same _ (z + 1) 0 _ _ (.bool true) A0)))
  have KF := (((((Keeps.refl (fun y => y = z + 1) w4).setIn (z + 1) 0 (.bool true) rfl).setIn (z + 1) 0 (.bool true) rfl).setIn (z + 1) 1 (.int .u64 0) rfl).setIn (z + 1) 2 (.slice none 0 0) rfl).setIn (z + 1) 3 (.bool false) rfl
  have FIN : ∀ wf, Keeps (fun y => y = z + 1) w4 wf → PutStep ab t bv iv P k w (.returned (.agg #[.bool true, .int .u64 0, .slice none 0 0, .bool false])) wf := fun wf KF =>
    ⟨rfl, bv', iv', P', HKE.out.other KF HO4.out (by decide) (by decide), HS4.out.other KF HO4.out (by decide) (by decide) (by decide), HPUT.out, fun y hy => (HOW.out y hy).imp id (fun h => h.imp id (fun h => by rw [HZZ.out]; omega)),
      K4.out.trans KF (fun b hb (e : b = z + 1) => absurd hb (by rw [HZZ.out]; omega))⟩
  have FF := Lib.hid (FIN _ KF)
  have AA := Lib.hid A2
  clear FIN KF A0 A2 hmf d0 d1 d2 d3 f0 f1 f2 f3
  refine leaves_cons (f := 49) (args := #[.pointer (some ⟨z + 1, 0, none⟩)]) (by simp) (by simp [go_sem]) ?_
  refine (catch49 ⟨z + 1, 0, none⟩ _).mono ?_
  rintro e u' w'' ⟨rfl, rfl, rfl⟩
  exact ⟨_, results_cell_row rfl _ _ (z + 1) 65 _ (0, 0) _ rfl AA.out Tryz.underlying65 rfl (by kernel_rfl), rfl, FF.out.2⟩

/-- The step that gives the numbers. -/
def NumsStep (P : List (Nat × Nat)) (w : World) (e : Ending) (w' : World) : Prop :=
  ∃ g c : Nat, e = .returned (.agg #[.bool false, .int .u64 0, .slice (some ⟨g, 0, none⟩) (numsAll P).length c, .bool false]) ∧ w.heap.size ≤ g ∧ w'.ownsRow w.heap.size 25 1 (.slice (some ⟨g, 0, none⟩) (numsAll P).length c) (numsAll P).length ((numsAll P).map u64V) ∧ Keeps (fun _ => False) w w'

set_option maxRecDepth 100000 in
set_option maxHeartbeats 800000 in
theorem step40nums (ab t : Nat) (bv iv : Value) (P : List (Nat × Nat)) (w : World) (hA : Kept w ab t) (hS : Sparse w t bv iv P) (h0 : 0 < P.length) (hlen : P.length ≤ 40) (hP : ∀ x ∈ P, x.1 ≤ 1023 ∧ x.2 < 18446744073709551616) (hne : 0 < (numsAll P).length) :
    Calls Tryz.prog 40 #[.pointer (some ⟨ab, 0, none⟩), .agg #[.int .i64 14, .int .i64 0, .int .i64 0, .int .u64 0, .int .i64 0, .bool false]] w (NumsStep P w) := by
  have hmf : ∀ (fn : Fn) (first cap : Array Value) (w : World), (Instr.makeFunc fn first cap).run Tryz.prog w = .ok (.func fn first cap) w := fun _ _ _ _ => rfl
  have HA := Lib.hid hA; clear hA
  have HS := Lib.hid hS; clear hS
  go_enter_defers Tryz.func40, Tryz.ntmps40
  go_wp2_with fail
  have K2 := Lib.hid (((Keeps.refl (fun _ => False) w).alloc (.cells #[.int .i64 14, .int .i64 0, .int .i64 0, .int .u64 0, .int .i64 0, .bool false] 31)).alloc (.cells #[.bool false, .int .u64 0, .slice none 0 0, .bool false] 65))
  have HO2 := Lib.hid (alloc_at (w.alloc (.cells #[.int .i64 14, .int .i64 0, .int .i64 0, .int .u64 0, .int .i64 0, .bool false] 31)) (.cells #[.bool false, .int .u64 0, .slice none 0 0, .bool false] 65) (w.heap.size + 1) (by simp))
  have hop := alloc_heap (w.alloc (.cells #[.int .i64 14, .int .i64 0, .int .i64 0, .int .u64 0, .int .i64 0, .bool false] 31)) (.cells #[.bool false, .int .u64 0, .slice none 0 0, .bool false] 65) (heap_alloc_new w (.cells #[.int .i64 14, .int .i64 0, .int .i64 0, .int .u64 0, .int .i64 0, .bool false] 31))
  have a0 : ((w.alloc (.cells #[.int .i64 14, .int .i64 0, .int .i64 0, .int .u64 0, .int .i64 0, .bool false] 31)).alloc (.cells #[.bool false, .int .u64 0, .slice none 0 0, .bool false] 65)).cell? ⟨w.heap.size, 0, none⟩ = some (.int .i64 14) := cell_at hop 0
  have a3 : ((w.alloc (.cells #[.int .i64 14, .int .i64 0, .int .i64 0, .int .u64 0, .int .i64 0, .bool false] 31)).alloc (.cells #[.bool false, .int .u64 0, .slice none 0 0, .bool false] 65)).cell? ⟨w.heap.size, 3, none⟩ = some (.int .u64 0) := cell_at hop 3
  have hz2 : ((w.alloc (.cells #[.int .i64 14, .int .i64 0, .int .i64 0, .int .u64 0, .int .i64 0, .bool false] 31)).alloc (.cells #[.bool false, .int .u64 0, .slice none 0 0, .bool false] 65)).heap.size = w.heap.size + 2 := by simp
  have htl : t < w.heap.size := lt_of_block HS.out.1
  have hbl : ∀ y, bv.ownBlock = some y → y < w.heap.size := fun y hy => (HS.out.2.1.lt y hy).2
  have hil : ∀ y, iv.ownBlock = some y → y < w.heap.size := fun y hy => (HS.out.2.2.lt y hy).2
  have HA2 : Hid (Kept ((w.alloc (.cells #[.int .i64 14, .int .i64 0, .int .i64 0, .int .u64 0, .int .i64 0, .bool false] 31)).alloc (.cells #[.bool false, .int .u64 0, .slice none 0 0, .bool false] 65)) ab t) := HA.out.keeps K2.out (fun _ _ f => f)
  have HS2 : Hid (Sparse ((w.alloc (.cells #[.int .i64 14, .int .i64 0, .int .i64 0, .int .u64 0, .int .i64 0, .bool false] 31)).alloc (.cells #[.bool false, .int .u64 0, .slice none 0 0, .bool false] 65)) t bv iv P) := ⟨K2.out.heap HS.out.1 (fun f => f), K2.out.row HS.out.2.1 (fun _ _ f => f), K2.out.row HS.out.2.2 (fun _ _ f => f)⟩
  clear hop
  generalize (w.alloc (.cells #[.int .i64 14, .int .i64 0, .int .i64 0, .int .u64 0, .int .i64 0, .bool false] 31)).alloc (.cells #[.bool false, .int .u64 0, .slice none 0 0, .bool false] 65) = w2 at K2 HO2 hz2 HA2 HS2 a0 a3 ⊢
  have HBL := Lib.hid hbl; clear hbl
  have HIL := Lib.hid hil; clear hil
  have hzz : w.heap.size = w.heap.size := rfl
  generalize hz : w.heap.size = z at HO2 hz2 htl hzz HBL HIL a0 a3 ⊢
  have HZZ := Lib.hid hz; clear hz hzz
  refine (at53 ab t w2 HA2.out).mono ?_
  rintro e w3 ⟨rfl, rfl⟩
  have HB := Lib.hid (toNums229 t bv iv P w3 HS2.out h0 hlen hP hne)
  have HPQ := Lib.hid hP; clear hP
  go_wp2_with fail
  refine HB.out.mono ?_
  rintro e w4 ⟨g, c, rfl, hg, hO4, hK4⟩
  have HO4 := Lib.hid (hK4.heap HO2.out (fun f => f))
  have HR4 := Lib.hid hO4; clear hO4
  have K4 := Lib.hid (K2.out.trans hK4 (fun _ _ f => f)); clear hK4 HB
  have d0 : w4.cell? ⟨z + 1, 0, none⟩ = some (.bool false) := cell_at HO4.out 0
  have f0 : w4.frozen? ⟨z + 1, 0, none⟩ = false := free_at HO4.out 0
  have d1 : w4.cell? ⟨z + 1, 1, none⟩ = some (.int .u64 0) := cell_at HO4.out 1
  have f1 : w4.frozen? ⟨z + 1, 1, none⟩ = false := free_at HO4.out 1
  have d2 : w4.cell? ⟨z + 1, 2, none⟩ = some (.slice none 0 0) := cell_at HO4.out 2
  have f2 : w4.frozen? ⟨z + 1, 2, none⟩ = false := free_at HO4.out 2
  have d3 : w4.cell? ⟨z + 1, 3, none⟩ = some (.bool false) := cell_at HO4.out 3
  have f3 : w4.frozen? ⟨z + 1, 3, none⟩ = false := free_at HO4.out 3
  clear a0 a3
  go_wp2_with fail
  have A0 := heap_setCell_same w4 (z + 1) 2 _ _ (.slice (some ⟨g, 0, none⟩) (numsAll P).length c) HO4.out
  have A2 := heap_setCell_same _ (z + 1) 3 _ _ (.bool false) (heap_setCell_same _ (z + 1) 2 _ _ (.slice (some ⟨g, 0, none⟩) (numsAll P).length c) (heap_setCell_same _ (z + 1) 1 _ _ (.int .u64 0) (heap_setCell_same _ (z + 1) 0 _ _ (.bool false) A0)))
  have KF := (((((Keeps.refl (fun y => y = z + 1) w4).setIn (z + 1) 2 (.slice (some ⟨g, 0, none⟩) (numsAll P).length c) rfl).setIn (z + 1) 0 (.bool false) rfl).setIn (z + 1) 1 (.int .u64 0) rfl).setIn (z + 1) 2 (.slice (some ⟨g, 0, none⟩) (numsAll P).length c) rfl).setIn (z + 1) 3 (.bool false) rfl
  have FIN : ∀ wf, Keeps (fun y => y = z + 1) w4 wf → NumsStep P w (.returned (.agg #[.bool false, .int .u64 0, .slice (some ⟨g, 0, none⟩) (numsAll P).length c, .bool false])) wf := fun wf KF =>
    ⟨g, c, rfl, by rw [HZZ.out]; omega, ownsUp (KF.row HR4.out (ownNot (by omega))) (fun y hy => by have h7 : g = y := Option.some.inj hy; rw [HZZ.out]; omega), K4.out.trans KF (fun b hb (e : b = z + 1) => absurd hb (by rw [HZZ.out]; omega))⟩
  have FF := Lib.hid (FIN _ KF)
  have AA := Lib.hid A2
  clear FIN KF A0 A2 hmf d0 d1 d2 d3 f0 f1 f2 f3
  refine leaves_cons (f := 49) (args := #[.pointer (some ⟨z + 1, 0, none⟩)]) (by simp) (by simp [go_sem]) ?_
  refine (catch49 ⟨z + 1, 0, none⟩ _).mono ?_
  rintro e u' w'' ⟨rfl, rfl, rfl⟩
  exact ⟨_, results_cell_row rfl _ _ (z + 1) 65 _ (0, 0) _ rfl AA.out Tryz.underlying65 rfl (by kernel_rfl), FF.out⟩
end Go.Proofs.YtegejfhomocloaaGreat

namespace Go.Proofs.YtegejfhomocloaaGreat
open Go.RowKit

theorem info65 : (Tryz.prog.info? 65).map (fun i => (i.zero, i.size, i.bytes)) = some (some (.agg #[.bool false, .int .u64 0, .slice none 0 0, .bool false]), 4, 48) := by kernel_rfl

theorem fixed_cells {α : Type} (f : α → List Value) (m : Nat) (hf : ∀ x, (f x).length = m) (xs : List α) (i r : Nat) (hi : i < xs.length) (hr : r < m) : (xs.flatMap f)[i * m + r]? = (f xs[i])[r]? := by
  induction xs generalizing i with
  | nil => simp at hi
  | cons a l ih =>
    cases i with
    | zero => rw [List.flatMap_cons, Nat.zero_mul, Nat.zero_add, List.getElem?_append_left (by rw [hf]; exact hr)]; rfl
    | succ i =>
      rw [List.flatMap_cons, List.getElem?_append_right (by rw [hf, Nat.succ_mul]; omega), hf, show (i + 1) * m + r - m = i * m + r by rw [Nat.succ_mul]; omega]
      simpa using ih i (by simpa using hi)

/-- The steps on bits: an operation and its number. -/
def bitStep (x : Int × Nat) : List Value := [.int .i64 x.1, .int .i64 0, .int .i64 0, .int .u64 (x.2 : Int), .int .i64 0, .bool false]
def bitSteps (ks : List Nat) : List (Int × Nat) := (2, 0) :: (ks.map fun k => ((3 : Int), k)) ++ [(14, 0)]
theorem bitSteps_length (ks : List Nat) : (bitSteps ks).length = ks.length + 2 := by simp [bitSteps]
theorem bitSteps_at {ks : List Nat} {j k : Nat} (h : ks[j]? = some k) : (bitSteps ks)[j + 1]? = some (3, k) := by
  have hj := (List.getElem?_eq_some_iff.1 h).1
  unfold bitSteps
  rw [List.cons_append, List.getElem?_cons_succ, List.getElem?_append_left (by simpa using hj), List.getElem?_map, h]; rfl
theorem bitSteps_last (ks : List Nat) : (bitSteps ks)[ks.length + 1]? = some (14, 0) := by
  unfold bitSteps
  rw [List.cons_append, List.getElem?_cons_succ, List.getElem?_append_right (by simp)]
  simp

theorem row_bit {w : World} {g n cap : Nat} {S : List (Int × Nat)} (h : w.ownsRow 0 31 6 (.slice (some ⟨g, 0, none⟩) n cap) n (S.flatMap bitStep)) {i : Nat} {o : Int} {k : Nat} (hs : S[i]? = some (o, k)) (hi : i < n) :
    w.cell? ⟨g, i * 6, none⟩ = some (.int .i64 o) ∧ w.cell? ⟨g, i * 6 + 1, none⟩ = some (.int .i64 0) ∧ w.cell? ⟨g, i * 6 + 2, none⟩ = some (.int .i64 0) ∧ w.cell? ⟨g, i * 6 + 3, none⟩ = some (.int .u64 (k : Int)) ∧
      w.cell? ⟨g, i * 6 + 4, none⟩ = some (.int .i64 0) ∧ w.cell? ⟨g, i * 6 + 5, none⟩ = some (.bool false) := by
  obtain ⟨hl, he⟩ := List.getElem?_eq_some_iff.1 hs
  have hf := fixed_cells bitStep 6 (fun _ => rfl) S i
  have c : ∀ r, r < 6 → w.cell? ⟨g, i * 6 + r, none⟩ = (bitStep (o, k))[r]? := fun r hr => by
    rw [h.cellAt _ (by omega), hf r hl hr, he]
  exact ⟨c 0 (by omega), c 1 (by omega), c 2 (by omega), c 3 (by omega), c 4 (by omega), c 5 (by omega)⟩

/-- What the steps on bits leave. -/
def BitsOut (ks : List Nat) (w : World) (e : Ending) (w' : World) : Prop :=
  ∃ ag acap g gc : Nat, ∃ xs : List Int, e = .returned (.slice (some ⟨ag, 0, none⟩) (ks.length + 2) acap) ∧ (∀ i, i < ks.length + 2 → w'.cell? ⟨ag, i * 4 + 3, none⟩ = some (.bool false)) ∧
    w'.cell? ⟨ag, (ks.length + 1) * 4 + 2, none⟩ = some (.slice (some ⟨g, 0, none⟩) ks.length gc) ∧
    w'.ownsRow 0 25 1 (.slice (some ⟨g, 0, none⟩) ks.length gc) ks.length (xs.map u64V) ∧ xs.Perm (ks.map fun k : Nat => (k : Int)) ∧ xs.Pairwise (· < ·) ∧ w.heap.size ≤ ag ∧ w.heap.size ≤ g ∧ Keeps (fun _ => False) w w'

/-- Answers so far, none of them a panic. -/
def Calm (B : Nat) (w : World) (v : Value) (j : Nat) : Prop := ∃ cs, w.ownsRow B 65 4 v j cs ∧ ∀ i, i < j → cs[i * 4 + 3]? = some (.bool false)

/-- Behind j steps. -/
def BitRel (ks : List Nat) (ab : Nat) (w : World) (s4 : Value) (j : Nat) (wr : World) : Prop :=
  (j = 0 ∧ s4 = .slice none 0 0 ∧ wr.heap[ab]? = some (.cells #[.slice none 0 0] 143 (0, 0)) ∧ w.heap.size ≤ ab ∧ Keeps (fun _ => False) w wr) ∨
  (1 ≤ j ∧ j ≤ ks.length + 1 ∧ Calm w.heap.size wr s4 j ∧ (∃ t bv iv P, Kept wr ab t ∧ Sparse wr t bv iv P ∧ BitsOf P (ks.take (j - 1)) ∧ w.heap.size ≤ t ∧ (∀ y, bv.ownBlock = some y ∨ iv.ownBlock = some y → w.heap.size ≤ y)) ∧ Keeps (fun _ => False) w wr) ∨
  (j = ks.length + 2 ∧ BitsOut ks w (.returned s4) wr)

theorem calm_next {B j : Nat} {w w' : World} {v v' : Value} {cs : List Value} {a b c : Value} (h : w.ownsRow B 65 4 v j cs) (hc : ∀ i, i < j → cs[i * 4 + 3]? = some (.bool false)) (h' : w'.ownsRow B 65 4 v' (j + 1) (cs ++ [a, b, c, .bool false])) : Calm B w' v' (j + 1) := by
  refine ⟨_, h', fun i hi => ?_⟩
  have hl := h.1
  rcases Nat.lt_or_ge i j with hlt | hge
  · rw [List.getElem?_append_left (by omega)]; exact hc i hlt
  · obtain rfl : i = j := by omega
    rw [List.getElem?_append_right (by omega), hl, Nat.add_sub_cancel_left]; rfl
end Go.Proofs.YtegejfhomocloaaGreat

namespace Go.Proofs.YtegejfhomocloaaGreat
open Go.RowKit

theorem Kept.row {w w' : World} {ab t B n : Nat} {v : Value} {xs : List Value} (h : Kept w ab t) (ho : w.ownsRow B 65 4 v n xs) (k : Keeps (fun y => v.ownBlock = some y) w w') : Kept w' ab t := by
  obtain ⟨g, c, a1, a2⟩ := h
  exact ⟨g, c, k.heap a1 (fun e => row_type_ne a1 ho (by decide) ab e rfl), k.row a2 (fun y hy e => rows_apart ho a2 (by decide) y e hy)⟩
theorem Sparse.row {w w' : World} {t B n : Nat} {bv iv v : Value} {P : List (Nat × Nat)} {xs : List Value} (h : Sparse w t bv iv P) (ho : w.ownsRow B 65 4 v n xs) (k : Keeps (fun y => v.ownBlock = some y) w w') : Sparse w' t bv iv P :=
  ⟨k.heap h.1 (fun e => row_type_ne h.1 ho (by decide) t e rfl), k.row h.2.1 (fun y hy e => rows_apart ho h.2.1 (by decide) y e hy), k.row h.2.2 (fun y hy e => rows_apart ho h.2.2 (by decide) y e hy)⟩

theorem out_calm {ks : List Nat} {w w' : World} {e : Ending} (h : BitsOut ks w e w') : ∃ ag acap, e = .returned (.slice (some ⟨ag, 0, none⟩) (ks.length + 2) acap) := by
  obtain ⟨ag, acap, g, gc, xs, rfl, _⟩ := h
  exact ⟨ag, acap, rfl⟩

set_option maxRecDepth 100000 in
set_option maxHeartbeats 1600000 in
theorem baRun23 (sg sc n : Nat) (ks : List Nat) (w : World) (hn : ks.length = n) (h0 : 0 < n) (hlen : n ≤ 40) (hx : ks.Nodup) (hr : ∀ k ∈ ks, k ≤ 65535)
    (hS : w.ownsRow 0 31 6 (.slice (some ⟨sg, 0, none⟩) (n + 2) sc) (n + 2) ((bitSteps ks).flatMap bitStep)) :
    Calls Tryz.prog 23 #[.slice (some ⟨sg, 0, none⟩) (n + 2) sc] w (BitsOut ks w) := by
  obtain ⟨i0, hi0, hiz, his, hib⟩ := info_parts info65
  have HN := Lib.hid hn; clear hn
  have HX := Lib.hid hx; clear hx
  have HR := Lib.hid hr; clear hr
  have HS := Lib.hid hS; clear hS
  go_enter Tryz.func23, Tryz.ntmps23
  go_wp2_with fail
  have HB0 := Lib.hid (heap_alloc_new w (.cells #[.slice none 0 0] 143))
  have HK0 := Lib.hid ((Keeps.refl (fun _ => False) w).alloc (.cells #[.slice none 0 0] 143))
  generalize w.alloc (.cells #[.slice none 0 0] 143) = w1 at HB0 HK0 ⊢
  obtain ⟨ab, hab⟩ : ∃ ab, ab = w.heap.size := ⟨_, rfl⟩
  rw [← hab] at HB0 ⊢
  have hab2 : w.heap.size ≤ ab := by omega
  clear hab
  go_loopg [4, 11] (n + 2) (fun kx s4 s11 wr => ∃ j : Nat, s11 = .int .i64 j ∧ j ≤ n + 2 ∧ n + 2 - j ≤ kx ∧ Hid (BitRel ks ab w s4 j wr))
  case atStart => exact ⟨0, rfl, Nat.zero_le _, by omega, .inl ⟨rfl, rfl, HB0.out, hab2, HK0.out⟩⟩
  case round =>
    obtain ⟨j, rfl, hj, hgk, hrel⟩ := hrel
    by_cases hlt : j < n + 2
    · rcases hrel.out with ⟨hj0, e4, hab3, _, hK⟩ | ⟨hj1, hj2, ⟨cs, hO, hcs⟩, ⟨t, bv, iv, P, hKe, hSp, hBi, ht, hown⟩, hK⟩ | ⟨hj3, _⟩
      · subst hj0 e4
        have hrow := hK.row HS.out (ownNot fun f => f)
        have hst : (bitSteps ks)[0]? = some (2, 0) := rfl
        obtain ⟨a0, a1, a2, a3, a4, a5⟩ := row_bit hrow hst hlt
        rw [Nat.zero_mul] at a0
        simp only [Nat.zero_mul, Nat.zero_add] at a1 a2 a3 a4 a5
        have a3 : wr.cell? ⟨sg, 3, none⟩ = some (.int .u64 0) := a3
        have HK := Lib.hid hK; clear hK hrow hst
        have HA := Lib.hid (alloc_heap wr (.cells #[.int .i64 2, .int .i64 0, .int .i64 0, .int .u64 0, .int .i64 0, .bool false] 31) hab3)
        have HM := Lib.hid (step40make ab (wr.alloc (.cells #[.int .i64 2, .int .i64 0, .int .i64 0, .int .u64 0, .int .i64 0, .bool false] 31)) HA.out)
        clear hab3 hrel
        go_wp2_with fail
        refine HM.out.mono ?_
        rintro e w3 ⟨rfl, t, hKe, hSp, ht, hK3⟩
        have hza : (wr.alloc (.cells #[.int .i64 2, .int .i64 0, .int .i64 0, .int .u64 0, .int .i64 0, .bool false] 31)).heap.size = wr.heap.size + 1 := by simp
        have hzk := HK.out.size
        have HK3 := Lib.hid ((HK.out.alloc (.cells #[.int .i64 2, .int .i64 0, .int .i64 0, .int .u64 0, .int .i64 0, .bool false] 31)).trans hK3 (fun b hb (e : b = ab) => by omega))
        have hz3 := HK3.out.size
        have HKE := Lib.hid hKe
        have HSP := Lib.hid hSp
        clear hKe hSp hK3 HM a0 a1 a2 a3 a4 a5
        go_wp2_with (at_builtin; refine wpList_append_lies _ rfl (.tmp 15) (.tmp 19) 54 rfl w.heap.size 65 i0 _ 4 48 Tryz.underlying54 hi0 hiz his hib rfl (by omega) (.slice none 0 0) 0 [] rfl (World.ownsRow_nil _ _ _ _) ⟨w3.heap.size, 0, none⟩ 1 1 [.bool false, .int .u64 0, .slice none 0 0, .bool false] rfl (by rfl) (news4 (heap_alloc_new w3 _)) (four_of rfl rfl rfl rfl) (by omega) (by simp only [maxLen]; omega) (by omega) (by simp; omega) _ rfl ?_; intro ag acap w4 hO4 hg4 hat4 hlt4; have HO4 := Lib.hid hO4; have HG4 := Lib.hid hg4; clear hO4 hg4 hat4)
        go_roundg (n + 2 - 1)
        case measure => omega
        case rel =>
          have KG : Keeps (fun _ => False) w3 w4 := ((Keeps.refl _ w3).alloc _).grown HG4.out (fun b hb _ => by cases hb)
          refine ⟨1, by go_num, by omega, by omega, .inr (.inl ⟨Nat.le_refl _, by omega, calm_next (World.ownsRow_nil w3 w.heap.size 65 4) (fun i hi => absurd hi (Nat.not_lt_zero _)) HO4.out, ⟨t, _, _, [], HKE.out.keeps KG (fun _ _ f => f), ⟨KG.heap HSP.out.1 (fun f => f), World.ownsRow_nil _ _ _ _, World.ownsRow_nil _ _ _ _⟩, bitsOf_nil, by omega, fun y hy => hy.elim (fun h => by cases h) (fun h => by cases h)⟩, HK3.out.trans KG (fun _ _ f => f)⟩)⟩
      · have hrow := hK.row HS.out (ownNot fun f => f)
        have hn2 := HN.out
        have hzk := hK.size
        obtain ⟨m, rfl⟩ : ∃ m, j = m + 1 := ⟨j - 1, by omega⟩
        rw [Nat.add_sub_cancel] at hBi
        rcases Nat.lt_or_ge m n with hmn | hmn
        · obtain ⟨k, hk⟩ : ∃ k, ks[m]? = some k := ⟨ks[m]'(by omega), List.getElem?_eq_getElem (by omega)⟩
          have hkr := HR.out k (List.mem_of_getElem? hk)
          obtain ⟨a0, a1, a2, a3, a4, a5⟩ := row_bit hrow (bitSteps_at hk) hlt
          have hpl : P.length ≤ 40 := Nat.le_trans hBi.2.2.1 (by rw [List.length_take]; omega)
          have KA := (Keeps.refl (fun _ => False) wr).alloc (.cells #[.int .i64 3, .int .i64 0, .int .i64 0, .int .u64 (k : Int), .int .i64 0, .bool false] 31)
          have hSa : Sparse (wr.alloc (.cells #[.int .i64 3, .int .i64 0, .int .i64 0, .int .u64 (k : Int), .int .i64 0, .bool false] 31)) t bv iv P := ⟨KA.heap hSp.1 (fun f => f), KA.row hSp.2.1 (fun _ _ f => f), KA.row hSp.2.2 (fun _ _ f => f)⟩
          have hOa := hO.alloc (.cells #[.int .i64 3, .int .i64 0, .int .i64 0, .int .u64 (k : Int), .int .i64 0, .bool false] 31)
          have HM := Lib.hid (step40set ab t k bv iv P (wr.alloc (.cells #[.int .i64 3, .int .i64 0, .int .i64 0, .int .u64 (k : Int), .int .i64 0, .bool false] 31)) (hKe.keeps KA (fun _ _ f => f)) hSa hBi.1 (by omega) hkr)
          have hza : (wr.alloc (.cells #[.int .i64 3, .int .i64 0, .int .i64 0, .int .u64 (k : Int), .int .i64 0, .bool false] 31)).heap.size = wr.heap.size + 1 := by simp
          have HKA := Lib.hid (hK.trans KA (fun _ _ f => f))
          have HSA := Lib.hid hSa
          have HOA := Lib.hid hOa
          have HCS := Lib.hid hcs
          have HBI := Lib.hid hBi
          have HOWN := Lib.hid hown
          have HKK := Lib.hid hk
          clear hSa hOa hcs hBi hown hk hrow hK hO hKe hSp KA hrel
          go_wp2_with fail
          generalize wr.alloc (.cells #[.int .i64 3, .int .i64 0, .int .i64 0, .int .u64 (k : Int), .int .i64 0, .bool false] 31) = wa at HM hza HKA HSA HOA ⊢
          refine HM.out.mono ?_
          rintro e w3 ⟨rfl, bv', iv', P', hKe3, hSp3, hPut, hown3, hK3⟩
          have HO3 := Lib.hid (hK3.row HOA.out (fun y hy h => h.elim (fun e => row_type_ne HSA.out.1 HOA.out (by decide) y hy e) (fun h => h.elim (fun e => rows_apart HOA.out HSA.out.2.1 (by decide) y hy e) (fun e => rows_apart HOA.out HSA.out.2.2 (by decide) y hy e))))
          have HK3 := Lib.hid (HKA.out.trans hK3 (fun b hb h => by
            have : w.heap.size ≤ b := h.elim (fun e => by omega) (fun h => HOWN.out b h)
            omega))
          have hz3 := HK3.out.size
          have HKE := Lib.hid hKe3
          have HSP := Lib.hid hSp3
          have HPUT := Lib.hid hPut
          have HOW3 := Lib.hid hown3
          clear hKe3 hSp3 hPut hown3 hK3 HM a0 a1 a2 a3 a4 a5
          go_wp2_with (at_builtin; refine wpList_append_lies _ rfl (.tmp 15) (.tmp 19) 54 rfl w.heap.size 65 i0 _ 4 48 Tryz.underlying54 hi0 hiz his hib rfl (by omega) u4 (m + 1) cs rfl (HO3.out.alloc _) ⟨w3.heap.size, 0, none⟩ 1 1 [.bool true, .int .u64 0, .slice none 0 0, .bool false] rfl (by rfl) (news4 (heap_alloc_new w3 _)) (four_of rfl rfl rfl rfl) (by omega) (by simp only [maxLen]; omega) (by omega) (by simp; omega) _ rfl ?_; intro ag acap w4 hO4 hg4 hat4 hlt4; have HO4 := Lib.hid hO4; have HG4 := Lib.hid hg4; clear hO4 hg4 hat4)
          go_roundg (n + 2 - (m + 1 + 1))
          case measure => omega
          case rel =>
            have KG : Keeps (fun y => u4.ownBlock = some y) w3 w4 := ((Keeps.refl _ w3).alloc _).grown HG4.out (fun b hb _ => hb)
            have hbb := bitsOf_put HBI.out HPUT.out hkr
            have htk : ks.take m ++ [k] = ks.take (m + 1) := by
              obtain ⟨hl, rfl⟩ := List.getElem?_eq_some_iff.1 HKK.out
              rw [List.take_succ_eq_append_getElem hl]
            rw [htk] at hbb
            refine ⟨m + 1 + 1, by go_num, by omega, Nat.le_refl _, .inr (.inl ⟨by omega, by omega, calm_next HO3.out HCS.out HO4.out, ⟨t, bv', iv', P', HKE.out.row HO3.out KG, HSP.out.row HO3.out KG, by rw [Nat.add_sub_cancel]; exact hbb, ht, fun y hy => ?_⟩, HK3.out.trans KG (fun b hb h => by have := (HO3.out.lt b h).1; omega)⟩)⟩
            rcases HOW3.out y hy with h | h | h
            · exact HOWN.out y (.inl h)
            · exact HOWN.out y (.inr h)
            · omega
        · obtain rfl : m = n := by omega
          have hnp := nums_perm (by rw [List.take_of_length_le (by omega)] at hBi; exact hBi) HX.out
          have hnl : (numsAll P).length = m := by rw [hnp.length_eq, List.length_map]; exact hn2
          have hp0 : 0 < P.length := by
            rcases Nat.eq_zero_or_pos P.length with h | h
            · rw [List.length_eq_zero_iff] at h
              subst h
              simp [numsAll] at hnl
              omega
            · exact h
          have hst : (bitSteps ks)[m + 1]? = some (14, 0) := by rw [← hn2]; exact bitSteps_last ks
          obtain ⟨a0, a1, a2, a3, a4, a5⟩ := row_bit hrow hst hlt
          have a3 : wr.cell? ⟨sg, (m + 1) * 6 + 3, none⟩ = some (.int .u64 0) := a3
          have hpl : P.length ≤ 40 := Nat.le_trans hBi.2.2.1 (by rw [List.length_take]; omega)
          have KA := (Keeps.refl (fun _ => False) wr).alloc (.cells #[.int .i64 14, .int .i64 0, .int .i64 0, .int .u64 0, .int .i64 0, .bool false] 31)
          have hSa : Sparse (wr.alloc (.cells #[.int .i64 14, .int .i64 0, .int .i64 0, .int .u64 0, .int .i64 0, .bool false] 31)) t bv iv P := ⟨KA.heap hSp.1 (fun f => f), KA.row hSp.2.1 (fun _ _ f => f), KA.row hSp.2.2 (fun _ _ f => f)⟩
          have hOa := hO.alloc (.cells #[.int .i64 14, .int .i64 0, .int .i64 0, .int .u64 0, .int .i64 0, .bool false] 31)
          have HM := Lib.hid (step40nums ab t bv iv P (wr.alloc (.cells #[.int .i64 14, .int .i64 0, .int .i64 0, .int .u64 0, .int .i64 0, .bool false] 31)) (hKe.keeps KA (fun _ _ f => f)) hSa hp0 hpl (fun x hx => ⟨hBi.2.1 x hx, hBi.1.2 x hx⟩) (by omega))
          have hza : (wr.alloc (.cells #[.int .i64 14, .int .i64 0, .int .i64 0, .int .u64 0, .int .i64 0, .bool false] 31)).heap.size = wr.heap.size + 1 := by simp
          have HKA := Lib.hid (hK.trans KA (fun _ _ f => f))
          have HOA := Lib.hid hOa
          have HCS := Lib.hid hcs
          have HNP := Lib.hid hnp
          have HNL := Lib.hid hnl
          have HNS := Lib.hid (nums_srt hBi.1)
          clear hSa hOa hcs hBi hown hst hrow hK hO hKe hSp KA hrel hnp hnl
          go_wp2_with fail
          generalize wr.alloc (.cells #[.int .i64 14, .int .i64 0, .int .i64 0, .int .u64 0, .int .i64 0, .bool false] 31) = wa at HM hza HKA HOA ⊢
          refine HM.out.mono ?_
          rintro e w3 ⟨g, c, rfl, hg, hR3, hK3⟩
          have HO3 := Lib.hid (hK3.row HOA.out (fun _ _ f => f))
          have HK3 := Lib.hid (HKA.out.trans hK3 (fun _ _ f => f))
          have HR3 := Lib.hid hR3
          have hz3 := HK3.out.size
          clear hR3 hK3 HM a0 a1 a2 a3 a4 a5
          go_wp2_with (at_builtin; refine wpList_append_lies _ rfl (.tmp 15) (.tmp 19) 54 rfl w.heap.size 65 i0 _ 4 48 Tryz.underlying54 hi0 hiz his hib rfl (by omega) u4 (m + 1) cs rfl (HO3.out.alloc _) ⟨w3.heap.size, 0, none⟩ 1 1 [.bool false, .int .u64 0, .slice (some ⟨g, 0, none⟩) (numsAll P).length c, .bool false] rfl (by rfl) (news4 (heap_alloc_new w3 _)) (four_of rfl rfl rfl rfl) (by omega) (by simp only [maxLen]; omega) (by omega) (by simp; omega) _ rfl ?_; intro ag acap w4 hO4 hg4 hat4 hlt4; have HO4 := Lib.hid hO4; have HG4 := Lib.hid hg4; clear hO4 hg4 hat4)
          go_roundg (0)
          case measure => omega
          case rel =>
            have KG : Keeps (fun y => u4.ownBlock = some y) w3 w4 := ((Keeps.refl _ w3).alloc _).grown HG4.out (fun b hb _ => hb)
            have hR4 := KG.row HR3.out (fun y hy e => rows_apart HO3.out HR3.out (by decide) y e hy)
            have hnn : (numsAll P).length = ks.length := HNL.out.trans hn2.symm
            obtain ⟨cs', hr', hc'⟩ := calm_next HO3.out HCS.out HO4.out
            have hcl := HO3.out.1
            have hin2 : (cs ++ [.bool false, .int .u64 0, .slice (some ⟨g, 0, none⟩) (numsAll P).length c, .bool false])[(m + 1) * 4 + 2]? = some (.slice (some ⟨g, 0, none⟩) ks.length c) := by
              rw [List.getElem?_append_right (by omega), hcl, Nat.add_sub_cancel_left, hnn]; rfl
            refine ⟨m + 1 + 1, by go_num, by omega, by omega, .inr (.inr ⟨by omega, ag, acap, g, c, numsAll P, by rw [hn2], fun i hi => ?_, ?_, ?_, HNP.out, HNS.out, (HO4.out.lt ag rfl).1, by omega, HK3.out.trans KG (fun b hb h => by have := (HO3.out.lt b h).1; omega)⟩)⟩
            · rw [hr'.cellAt (i * 4 + 3) (by omega)]; exact hc' i (by omega)
            · rw [hn2, HO4.out.cellAt ((m + 1) * 4 + 2) (by omega), ← hn2]; rw [hn2]; exact (hin2.trans (by rw [hn2]))
            · rw [← hnn]; exact ownsBase hR4
      · exfalso; rw [HN.out] at hj3; omega
    · obtain rfl : j = n + 2 := by omega
      rcases hrel.out with ⟨hj0, _⟩ | ⟨_, hj2, _⟩ | ⟨_, hout⟩
      · omega
      · exfalso; rw [HN.out] at hj2; omega
      · obtain ⟨ag, acap, he⟩ := out_calm hout
        injection he with he
        subst he
        have HOUT := Lib.hid hout; clear hout hrel
        go_wp2_with fail
        go_ret
        exact HOUT.out
end Go.Proofs.YtegejfhomocloaaGreat

namespace Go.Proofs.YtegejfhomocloaaGreat
open Go.RowKit

set_option maxRecDepth 100000 in
set_option maxHeartbeats 800000 in
theorem answers8 (sg sc n : Nat) (ks : List Nat) (w : World) (hn : ks.length = n) (h0 : 0 < n) (hlen : n ≤ 40) (hx : ks.Nodup) (hr : ∀ k ∈ ks, k ≤ 65535)
    (hS : w.ownsRow 0 31 6 (.slice (some ⟨sg, 0, none⟩) (n + 2) sc) (n + 2) ((bitSteps ks).flatMap bitStep)) :
    Calls Tryz.prog 8 #[.slice (some ⟨sg, 0, none⟩) (n + 2) sc] w (BitsOut ks w) := by
  have HB := Lib.hid (baRun23 sg sc n ks w hn h0 hlen hx hr hS)
  have HN := Lib.hid hn
  clear hn hx hr hS
  go_enter Tryz.func8, Tryz.ntmps8
  go_wp2_with fail
  refine HB.out.mono ?_
  rintro e w1 hout
  obtain ⟨ag, acap, he⟩ := out_calm hout
  subst he
  have HO := Lib.hid hout; clear hout HB
  rw [HN.out]
  have hnn : ((n : Int) + 2 == (n : Int) + 2) = true := by simp
  go_wp2_with fail
  go_loopg [4] (n + 2) (fun kx s4 wr => ∃ j : Nat, s4 = .int .i64 j ∧ j ≤ n + 2 ∧ n + 2 - j ≤ kx ∧ wr = w1)
  case atStart => exact ⟨0, rfl, Nat.zero_le _, by omega, rfl⟩
  case round =>
    obtain ⟨j, rfl, hj, hgk, rfl⟩ := hrel
    by_cases hlt : j < n + 2
    · have cj : wr.cell? ⟨ag, j * 4 + 3, none⟩ = some (.bool false) := by
        obtain ⟨a, b, g, gc, xs, he, hc, _⟩ := HO.out
        injection he with he
        injection he with he
        injection he with he
        injection he with he
        subst he
        exact hc j (by rw [HN.out]; exact hlt)
      go_wp2_with fail
      go_roundg (n + 2 - (j + 1))
      case measure => omega
      case rel => exact ⟨j + 1, by go_num, by omega, Nat.le_refl _, rfl⟩
    · obtain rfl : j = n + 2 := by omega
      go_wp2_with fail
      go_ret
      rw [← HN.out]
      exact HO.out
end Go.Proofs.YtegejfhomocloaaGreat
