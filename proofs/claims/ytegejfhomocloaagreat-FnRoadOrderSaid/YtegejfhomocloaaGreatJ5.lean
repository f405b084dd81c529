/- A part of the proof of FnRoadOrder: the sorted slice; the run over the plus tree. No conditions but those of the theorems. -/
import Derived.Shelf.GgSortMore.SortSort
import Derived.Test.YtegejfhomocloaaGreatProg
import Derived.Test.YtegejfhomocloaaGreatJ1
import Derived.Sort.OwnSortedInts
import Derived.Deep.AppendSrc
import Derived.Shelf.GgSortMore.Iface
import Derived.RegionTactic
import Derived.Test.YtegejfhomocloaaGreatJ4
set_option linter.all false
/-
  DERIVED: THE SHELF's CONTRACTS AT THIS DUMP, IN PLAIN WORDS (tools/lay-plain.mjs out of 'TryzShelf.lean', which tools/lay-shelf.mjs wrote): THE SAME DECLARATIONS UNDER THE SAME NAMES: 'import', 'namespace', 'open', 'def', 'theorem' AND NOTHING ELSE: no command of the shelf's: FOR A HAND-IN. Each laying: the table of numbers ('.._ren') and one theorem, a field a fact of the dump's own or the kernel's comparison; each contract: ONE APPLICATION.
-/
namespace Go.Proofs
open Go.Shelf
def Tryz.sl11_ren : Go.Shelf.Ren := ⟨fun | 11 => 41 | 17 => 55 | 18 => 56 | 31 => 64 | 32 => 65 | 33 => 66 | 34 => 67 | 35 => 68 | 36 => 69 | 37 => 70 | 38 => 71 | 39 => 72 | 40 => 73 | 43 => 76 | 44 => 77 | 45 => 78 | 46 => 79 | 47 => 80 | 50 => 81 | n => n, fun | 45 => 193 | 3 => 3 | 4 => 4 | 47 => 195 | 0 => 0 | 56 => 220 | 58 => 25 | 61 => 224 | 60 => 223 | 65 => 229 | 5 => 5 | 9 => 9 | 67 => 243 | 71 => 246 | 73 => 248 | 74 => 249 | 43 => 181 | 26 => 227 | 38 => 242 | n => n, fun | n => n⟩
theorem Tryz.sl11 : Go.Proofs.LaysGt.n11 Tryz.prog Tryz.sl11_ren := {
  mixed := by kernel_rfl
  f11 := Tryz.func41.trans (congrArg some (by kernel_rfl))
  f17 := Tryz.func55.trans (congrArg some (by kernel_rfl))
  f18 := Tryz.func56.trans (congrArg some (by kernel_rfl))
  f31 := Tryz.func64.trans (congrArg some (by kernel_rfl))
  f32 := Tryz.func65.trans (congrArg some (by kernel_rfl))
  f33 := Tryz.func66.trans (congrArg some (by kernel_rfl))
  f34 := Tryz.func67.trans (congrArg some (by kernel_rfl))
  f35 := Tryz.func68.trans (congrArg some (by kernel_rfl))
  f36 := Tryz.func69.trans (congrArg some (by kernel_rfl))
  f37 := Tryz.func70.trans (congrArg some (by kernel_rfl))
  f38 := Tryz.func71.trans (congrArg some (by kernel_rfl))
  f39 := Tryz.func72.trans (congrArg some (by kernel_rfl))
  f40 := Tryz.func73.trans (congrArg some (by kernel_rfl))
  f43 := Tryz.func76.trans (congrArg some (by kernel_rfl))
  f44 := Tryz.func77.trans (congrArg some (by kernel_rfl))
  f45 := Tryz.func78.trans (congrArg some (by kernel_rfl))
  f46 := Tryz.func79.trans (congrArg some (by kernel_rfl))
  f47 := Tryz.func80.trans (congrArg some (by kernel_rfl))
  f50 := Tryz.func81.trans (congrArg some (by kernel_rfl))
  t0 := Tryz.underlying0
  a0 := Tryz.isAgg0
  z0 := Tryz.sizeOf0
  v0 := Tryz.zeroValue0
  i0 := by kernel_rfl
  t3 := Tryz.underlying3
  a3 := Tryz.isAgg3
  z3 := Tryz.sizeOf3
  v3 := Tryz.zeroValue3
  i3 := by kernel_rfl
  t4 := Tryz.underlying4
  a4 := Tryz.isAgg4
  z4 := Tryz.sizeOf4
  v4 := Tryz.zeroValue4
  i4 := by kernel_rfl
  t5 := Tryz.underlying5
  a5 := Tryz.isAgg5
  z5 := Tryz.sizeOf5
  v5 := Tryz.zeroValue5
  i5 := by kernel_rfl
  t9 := Tryz.underlying9
  a9 := Tryz.isAgg9
  z9 := Tryz.sizeOf9
  v9 := Tryz.zeroValue9
  i9 := by kernel_rfl
  t26 := Tryz.underlying227
  a26 := Tryz.isAgg227
  z26 := Tryz.sizeOf227
  v26 := Tryz.zeroValue227
  i26 := by kernel_rfl
  t38 := Tryz.underlying242
  a38 := Tryz.isAgg242
  z38 := Tryz.sizeOf242
  v38 := Tryz.zeroValue242
  i38 := by kernel_rfl
  t43 := Tryz.underlying181
  a43 := Tryz.isAgg181
  z43 := Tryz.sizeOf181
  v43 := Tryz.zeroValue181
  i43 := by kernel_rfl
  t45 := Tryz.underlying193
  a45 := Tryz.isAgg193
  z45 := Tryz.sizeOf193
  v45 := Tryz.zeroValue193
  i45 := by kernel_rfl
  t47 := Tryz.underlying195
  a47 := Tryz.isAgg195
  z47 := Tryz.sizeOf195
  v47 := Tryz.zeroValue195
  i47 := by kernel_rfl
  t56 := Tryz.underlying220
  a56 := Tryz.isAgg220
  z56 := Tryz.sizeOf220
  v56 := Tryz.zeroValue220
  i56 := by kernel_rfl
  t58 := Tryz.underlying25
  a58 := Tryz.isAgg25
  z58 := Tryz.sizeOf25
  v58 := Tryz.zeroValue25
  i58 := by kernel_rfl
  t60 := Tryz.underlying223
  a60 := Tryz.isAgg223
  z60 := Tryz.sizeOf223
  v60 := Tryz.zeroValue223
  i60 := by kernel_rfl
  t61 := Tryz.underlying224
  a61 := Tryz.isAgg224
  z61 := Tryz.sizeOf224
  v61 := Tryz.zeroValue224
  i61 := by kernel_rfl
  t65 := Tryz.underlying229
  a65 := Tryz.isAgg229
  z65 := Tryz.sizeOf229
  v65 := Tryz.zeroValue229
  i65 := by kernel_rfl
  t67 := Tryz.underlying243
  a67 := Tryz.isAgg243
  z67 := Tryz.sizeOf243
  v67 := Tryz.zeroValue243
  i67 := by kernel_rfl
  t71 := Tryz.underlying246
  a71 := Tryz.isAgg246
  z71 := Tryz.sizeOf246
  v71 := Tryz.zeroValue246
  i71 := by kernel_rfl
  t73 := Tryz.underlying248
  a73 := Tryz.isAgg248
  z73 := Tryz.sizeOf248
  v73 := Tryz.zeroValue248
  i73 := by kernel_rfl
  t74 := Tryz.underlying249
  a74 := Tryz.isAgg249
  z74 := Tryz.sizeOf249
  v74 := Tryz.zeroValue249
  i74 := by kernel_rfl }
end Go.Proofs

namespace Go.Proofs.YtegejfhomocloaaGreat
open Go.RowKit Go.Sort

section
variable {P : Program}
theorem run_clone (w : World) (t tx ty e e' : TypeId) (ht : P.underlying t = some (.slice e)) (hk : P.underlying tx = some (.slice e')) (hinfo : ∃ z, (P.info? e).map (fun i => (i.zero, i.size, i.bytes)) = some (some z, 1, 8) ∧ z.cells.size = 1)
    (a : Addr) (n c : Nat) (news : List Value) (hl : news.length = n) (hnews : ∀ j u, news[j]? = some u → w.cell? (a.add j) = some u) (h1 : ∀ u ∈ news, u.oneCell' = true) (hn0 : 0 < n) (hn : n ≤ 1000) :
    ∃ cap w', (Builtin.append_ #[t, tx] ty #[.slice none 0 0, .slice (some a) n c]).run P w = .ok (.slice (some ⟨w.heap.size, 0, none⟩) n cap) w' ∧
      w'.ownsRow w.heap.size e 1 (.slice (some ⟨w.heap.size, 0, none⟩) n cap) n news ∧ Keeps (fun _ => False) w w' := by
  obtain ⟨z, hinfo, hzc⟩ := hinfo
  obtain ⟨i, hi, hzi⟩ := Option.map_eq_some_iff.1 hinfo
  simp only [Prod.mk.injEq] at hzi
  obtain ⟨hz, hs, hb⟩ := hzi
  have hsrc : Src P i.size tx (.slice (some a) n c) n news w := Src.ofSlice w hk a n c news (by rw [hs, hl]; omega) hnews h1
  have hr := run_append_grow_src (P := P) w t tx ty e i z ht hi hz none 0 0 [] (run_firstCells_none _ _ _ _ _) _ n news hsrc (by omega) (by omega) (by
    rw [hb]
    have : Builtin.nextslicecap (0 + n) 0 = n := by simp [Builtin.nextslicecap]; omega
    rw [this]; omega)
  simp only [Nat.zero_add, List.nil_append] at hr
  have hge := grownCap_ge w n 0 e
  have hcm : grownCap w n 0 e ≤ maxLen := grownCap_le_maxLen w n 0 e (by simp only [maxLen]; omega)
  refine ⟨_, _, hr, ⟨by rw [hl]; omega, .inr ⟨_, _, _, rfl, Nat.le_refl _, heap_alloc_new w.drew _, hge, hcm, ?_, ?_⟩⟩, ((Keeps.refl _ w).drew).alloc _⟩
  · simp only [Array.size_append, List.size_toArray, size_zeroCells, hzc, hl]; omega
  · simp only [Array.toList_append]
    rw [show n * 1 = news.length by omega]
    exact List.take_left

theorem wpList_clone {w : World} {ops : Array Oper} {rest : List Oper} {o : Oper} {a : Act} {Q : Exit → Act → World → Prop} (hgd : o.guard = none) (x s : Operand) (t tx : TypeId)
    (ho : o.op = .call { callee := .builtin .append, args := #[x, s], argTypes := #[t, tx] }) (e e' : TypeId) (ht : P.underlying t = some (.slice e)) (hk : P.underlying tx = some (.slice e')) (hinfo : ∃ z, (P.info? e).map (fun i => (i.zero, i.size, i.bytes)) = some (some z, 1, 8) ∧ z.cells.size = 1)
    (ad : Addr) (n c : Nat) (news : List Value) (hx : a.eval x = .slice none 0 0) (hs : a.eval s = .slice (some ad) n c) (hl : news.length = n) (hnews : ∀ j u, news[j]? = some u → w.cell? (ad.add j) = some u) (h1 : ∀ u ∈ news, u.oneCell' = true) (hn0 : 0 < n) (hn : n ≤ 1000)
    (h : ∀ cap w', w'.ownsRow w.heap.size e 1 (.slice (some ⟨w.heap.size, 0, none⟩) n cap) n news → Keeps (fun _ => False) w w' → wpList P ops Q rest (a.put o.dst (.slice (some ⟨w.heap.size, 0, none⟩) n cap)) w') :
    wpList P ops Q (o :: rest) a w := by
  refine wpList_plain hgd fun K hK => ?_
  obtain ⟨cap, w', hr, h2, h3⟩ := run_clone (P := P) w t tx o.type e e' ht hk hinfo ad n c news hl hnews h1 hn0 hn
  unfold Oper.wp
  simp only [execOp, ho, resolve, invoke, builtin, Sem.run_bind, Sem.run_pure, Result.andThen_ok, List.map_toArray, List.map_cons, List.map_nil, hx, hs, hr]
  exact hK _ _ (h cap w' h2 h3)
end

theorem info2 : (Tryz.prog.info? 2).map (fun i => (i.zero, i.size, i.bytes)) = some (some (.int .i64 0), 1, 8) := by kernel_rfl

def longV (k : Int) : Value := .int .i64 k
theorem longV_one (ks : List Int) : ∀ u ∈ ks.map longV, u.oneCell' = true := by
  intro u hu
  obtain ⟨x, _, rfl⟩ := List.mem_map.1 hu
  rfl

/-- A copy of a slice of numbers. -/
def Copied (ks : List Int) (w : World) (e : Ending) (w' : World) : Prop :=
  ∃ g cap : Nat, e = .returned (.slice (some ⟨g, 0, none⟩) ks.length cap) ∧ w.heap.size ≤ g ∧ w'.ownsRow w.heap.size 2 1 (.slice (some ⟨g, 0, none⟩) ks.length cap) ks.length (ks.map longV) ∧ Keeps (fun _ => False) w w'

set_option maxRecDepth 100000 in
set_option maxHeartbeats 400000 in
theorem ints24 (g n cap : Nat) (ks : List Int) (w : World) (hn : ks.length = n) (h0 : 0 < n) (hlen : n ≤ 100) (hrow : w.ownsRow 0 2 1 (.slice (some ⟨g, 0, none⟩) n cap) n (ks.map longV)) :
    Calls Tryz.prog 24 #[.slice (some ⟨g, 0, none⟩) n cap] w (Copied ks w) := by
  have hnews := Lib.hid (row_part hrow 0 (ks.map longV) (fun j v h => by rw [Nat.zero_add]; exact h))
  have hl : (ks.map longV).length = n := by simp [hn]
  have HL := Lib.hid hl; clear hl hrow
  have HN := Lib.hid hn; clear hn
  go_enter Tryz.func24, Tryz.ntmps24
  go_wp2_with (at_builtin; refine wpList_clone rfl _ _ 96 29 rfl 2 2 Tryz.underlying96 Tryz.underlying29 ⟨_, info2, rfl⟩ ⟨g, 0, none⟩ n cap (ks.map longV) rfl rfl HL.out hnews.out (longV_one ks) h0 (by omega) ?_; intro cap' w1 hO hK; have HO := Lib.hid hO; clear hO; have HK := Lib.hid hK; clear hK)
  go_ret
  exact ⟨w.heap.size, cap', by rw [HN.out]; rfl, Nat.le_refl _, by rw [HN.out]; exact HO.out, HK.out⟩
end Go.Proofs.YtegejfhomocloaaGreat

namespace Go.Proofs.YtegejfhomocloaaGreat
open Go.RowKit Go.Sort Go.Shelf Go.Lib

theorem len_reached (p : Option Addr) (n c : Nat) : Reaches Tryz.prog 96 (.slice p n c) "Len" 99 := ⟨fun _ => by kernel_rfl, enters_of Tryz.func99 (by kernel_rfl) rfl⟩
theorem less_reached (p : Option Addr) (n c : Nat) : Reaches Tryz.prog 96 (.slice p n c) "Less" 100 := ⟨fun _ => by kernel_rfl, enters_of Tryz.func100 (by kernel_rfl) rfl⟩
theorem swap_reached (p : Option Addr) (n c : Nat) : Reaches Tryz.prog 96 (.slice p n c) "Swap" 101 := ⟨fun _ => by kernel_rfl, enters_of Tryz.func101 (by kernel_rfl) rfl⟩

theorem short_sorted {ks : List Int} (h : ks.length < 2) : ks.Pairwise (· ≤ ·) := by
  match ks, h with
  | [], _ => exact List.Pairwise.nil
  | [a], _ => exact List.pairwise_singleton _ _

theorem ren41 : Tryz.sl11_ren.f 11 = 41 := rfl

theorem len99 (p : Option Addr) (n c : Nat) (W : World) : LenM Tryz.prog 99 (.slice p n c) n W := by
  unfold LenM
  go_enter Tryz.func99, Tryz.ntmps99
  go_wp2
  go_ret
  exact ⟨rfl, 0, rfl⟩

set_option maxHeartbeats 2000000 in
theorem less100 (blk off c size : Nat) (W : World) (G : Nat → Int) (hc : ∀ t, t < size → W.cell? ⟨blk, off + t, none⟩ = some (.int .i64 (G t))) (i j : Nat) (hi : i < size) (hj : j < size) (_hsz : size < 4611686018427387904) :
    Calls Tryz.prog 100 #[.slice (some ⟨blk, off, none⟩) size c, .int .i64 i, .int .i64 j] W fun e w' => e = .returned (.bool (decide (G i < G j))) ∧ ∃ q, w' = W.drewN q := by
  have ci := hc i hi
  have cj := hc j hj
  clear hc
  go_enter Tryz.func100, Tryz.ntmps100
  go_wp2
  go_quiet (fail)
  go_wp2
  go_ret
  exact ⟨rfl, nq, rfl⟩

set_option maxHeartbeats 2000000 in
theorem swap101 (blk off c size : Nat) (W : World) (x y : Int) (i j : Nat) (hi : i < size) (hj : j < size) (_hsz : size < 4611686018427387904)
    (ci : W.cell? ⟨blk, off + i, none⟩ = some (.int .i64 x)) (cj : W.cell? ⟨blk, off + j, none⟩ = some (.int .i64 y)) (fi : W.frozen? ⟨blk, off + i, none⟩ = false) (fj : W.frozen? ⟨blk, off + j, none⟩ = false) :
    Calls Tryz.prog 101 #[.slice (some ⟨blk, off, none⟩) size c, .int .i64 i, .int .i64 j] W fun e w' => e = .returned (.tuple #[]) ∧ ∃ q, w' = ((W.setCell ⟨blk, off + i, none⟩ (.int .i64 y)).setCell ⟨blk, off + j, none⟩ (.int .i64 x)).drewN q := by
  obtain ⟨v', hy'⟩ := cell?_setCell_some (w := W) (p := ⟨blk, off + i, none⟩) (x := .int .i64 y) (q := ⟨blk, off + j, none⟩) cj
  go_enter Tryz.func101, Tryz.ntmps101
  go_wp2
  go_region
  all_goals (try go_wp2)
  all_goals go_end0
  all_goals exact ⟨rfl, 1, rfl⟩

theorem lessM (blk off c : Nat) (d : Array Int) (w : World) (hH : Holds (Value.int .i64) w blk off d) (hblk : blk < w.heap.size) (hsz : d.size < 4611686018427387904) :
    LessM Tryz.prog 100 (.slice (some ⟨blk, off, none⟩) d.size c) (Value.int .i64) ltInt blk off d.size w := fun m os dk hs i j hi hj =>
  less100 blk off c d.size _ (fun t => dk[t]!) (fun t ht => ((holds_sortWorld (Value.int .i64) w blk off m d dk os hblk hH hs) t (by omega)).1) i j hi hj hsz
theorem swapM (blk off c size : Nat) (hsz : size < 4611686018427387904) : SwapM Tryz.prog 101 (.slice (some ⟨blk, off, none⟩) size c) (Value.int .i64) blk off size := fun W dk hH hs i j hi hj =>
  swap101 blk off c size W dk[i]! dk[j]! i j hi hj hsz (hH i (by omega)).1 (hH j (by omega)).1 (hH i (by omega)).2 (hH j (by omega)).2

/-- Numbers sorted where they lie. -/
def SortedHere (g n cap : Nat) (ks : List Int) (w : World) (e : Ending) (w' : World) : Prop :=
  e = .returned (.tuple #[]) ∧ ∃ ts : List Int, ts.Perm ks ∧ ts.Pairwise (· ≤ ·) ∧ w'.ownsRow 0 2 1 (.slice (some ⟨g, 0, none⟩) n cap) n (ts.map longV) ∧ Keeps (fun x => x = g) w w'

set_option maxRecDepth 100000 in
set_option maxHeartbeats 800000 in
theorem sort41 (g n cap : Nat) (ks : List Int) (w : World) (hn : ks.length = n) (hlen : n ≤ 100) (hrow : w.ownsRow 0 2 1 (.slice (some ⟨g, 0, none⟩) n cap) n (ks.map longV)) :
    Calls Tryz.prog 41 #[.iface 96 (.slice (some ⟨g, 0, none⟩) n cap)] w (SortedHere g n cap ks w) := by
  subst hn
  rcases Nat.lt_or_ge ks.length 2 with h2 | h2
  · have hS := Any.sort_Sort_tiny Tryz.sl11 96 (.slice (some ⟨g, 0, none⟩) ks.length cap) 99 (len_reached _ _ _) ks.length (by omega) w (len99 _ _ _ _)
    rw [ren41] at hS
    refine hS.mono ?_
    rintro e w' ⟨rfl, q, rfl⟩
    exact ⟨rfl, ks, List.Perm.refl _, short_sorted h2, hrow, (Keeps.refl _ w).drewN q⟩
  · rcases hrow.2 with ⟨h', _⟩ | ⟨g', cap', cur, h', hb, hg, hnc, hcm, hcs, htake⟩
    · simp at h'
    · simp only [Value.slice.injEq, Option.some.injEq, Addr.mk.injEq, and_true, true_and] at h'
      obtain ⟨rfl, rfl⟩ := h'
      have hH : Holds (Value.int .i64) w g 0 ks.toArray := holds_of_blockI hg (by rw [← Nat.mul_one ks.length]; exact htake)
      have hblk := (hrow.lt g rfl).2
      have hsz : ks.toArray.size < 4611686018427387904 := by simp; omega
      have hS := Any.sort_Sort_sorted Tryz.sl11 96 (.slice (some ⟨g, 0, none⟩) ks.toArray.size cap) 99 100 101 (len_reached _ _ _) (less_reached _ _ _) (swap_reached _ _ _) (Value.int .i64) ltInt swo_ltInt
        g 0 ks.toArray (by simpa using h2) hsz w (len99 _ _ _ _) (lessM g 0 cap ks.toArray w hH hblk hsz) (swapM g 0 cap ks.toArray.size hsz) hH hblk
      rw [ren41] at hS
      rw [show ks.toArray.size = ks.length by simp] at hS
      refine hS.mono ?_
      rintro e w' ⟨rfl, d', m, os, ⟨hd1, hd2, hd3⟩, hSo, rfl⟩
      have hd1' : d'.size = ks.length := by simpa using hd1
      have hl : d'.toList.length = ks.length := by simpa using hd1'
      have hp : d'.toList.Perm ks := by
        have := hd3
        simpa [Array.extract_eq_self_of_le, hd1'] using this
      refine ⟨rfl, d'.toList, hp, ?_, ?_, Keeps.of_grown (grownBy_sortedI _) (fun k hk _ => (Option.some.inj hk).symm)⟩
      · rw [List.pairwise_iff_getElem]
        intro i j hi hj hij
        have := hSo i j (Nat.zero_le _) hij (by simpa [hd1'] using hj)
        simp only [ltInt, decide_eq_false_iff_not, Int.not_lt] at this
        simp only [Array.length_toList] at hi hj
        rw [getElem!_pos d' i hi, getElem!_pos d' j hj] at this
        simpa using this
      · have := ownsRow_sortedI (n := m) (os := os) (ts := d'.toList) hl (Nat.zero_le g) hg hnc hcm hcs
        exact (show World.ownsRow _ 0 2 1 (.slice (some ⟨g, 0, none⟩) ks.length cap) ks.length (d'.toList.map (Value.int .i64)) by simpa using this)

/-- The numbers come out sorted, in new memory. -/
def LongsOut (ks : List Int) (w : World) (e : Ending) (w' : World) : Prop :=
  ∃ g cap : Nat, ∃ ts : List Int, e = .returned (.slice (some ⟨g, 0, none⟩) ks.length cap) ∧ ts.Perm ks ∧ ts.Pairwise (· ≤ ·) ∧ w.heap.size ≤ g ∧ w'.ownsRow 0 2 1 (.slice (some ⟨g, 0, none⟩) ks.length cap) ks.length (ts.map longV) ∧ Keeps (fun _ => False) w w'

set_option maxRecDepth 100000 in
set_option maxHeartbeats 400000 in
theorem sort25 (g n cap : Nat) (ks : List Int) (w : World) (hn : ks.length = n) (hlen : n ≤ 100) (hrow : w.ownsRow 0 2 1 (.slice (some ⟨g, 0, none⟩) n cap) n (ks.map longV)) :
    Calls Tryz.prog 25 #[.slice (some ⟨g, 0, none⟩) n cap] w (SortedHere g n cap ks w) := by
  have HS := Lib.hid (sort41 g n cap ks w hn hlen hrow)
  clear hrow hn
  go_enter Tryz.func25, Tryz.ntmps25
  go_wp2_with (go_at_call 41; refine HS.out.mono ?_; rintro e w' ⟨rfl, h⟩; have H := Lib.hid h; clear h)
  go_end0
  exact ⟨rfl, H.out⟩

theorem ownsBase {w : World} {base : Nat} {e : TypeId} {size : Nat} {v : Value} {n : Nat} {xs : List Value} (h : w.ownsRow base e size v n xs) : w.ownsRow 0 e size v n xs := by
  refine ⟨h.1, ?_⟩
  rcases h.2 with h2 | ⟨g, cap, cur, h', hb, r⟩
  · exact .inl h2
  · exact .inr ⟨g, cap, cur, h', Nat.zero_le _, r⟩

set_option maxRecDepth 100000 in
set_option maxHeartbeats 400000 in
theorem isSort9 (g n cap : Nat) (ks : List Int) (w : World) (hn : ks.length = n) (h0 : 0 < n) (hlen : n ≤ 100) (hrow : w.ownsRow 0 2 1 (.slice (some ⟨g, 0, none⟩) n cap) n (ks.map longV)) :
    Calls Tryz.prog 9 #[.slice (some ⟨g, 0, none⟩) n cap] w (LongsOut ks w) := by
  have HC := Lib.hid (ints24 g n cap ks w hn h0 hlen hrow)
  have HN := Lib.hid hn
  clear hrow hn
  go_enter Tryz.func9, Tryz.ntmps9
  go_wp2_with fail
  refine HC.out.mono ?_
  rintro e w1 ⟨g', cap', rfl, hg, hO, hK⟩
  have HS := Lib.hid (sort25 g' ks.length cap' ks w1 rfl (by rw [HN.out]; exact hlen) (ownsBase hO))
  have HK := Lib.hid hK; clear hK hO HC
  go_wp2_with fail
  refine HS.out.mono ?_
  rintro e w2 ⟨rfl, ts, hp, hs, hO2, hK2⟩
  have HP := Lib.hid hp; clear hp
  have HSS := Lib.hid hs; clear hs
  have HO2 := Lib.hid hO2; clear hO2
  have HK2 := Lib.hid hK2; clear hK2 HS
  go_wp2_with fail
  go_ret
  exact ⟨g', cap', ts, rfl, HP.out, HSS.out, hg, HO2.out, HK.out.trans HK2.out fun b hb e => by omega⟩
end Go.Proofs.YtegejfhomocloaaGreat

namespace Go.Proofs.YtegejfhomocloaaGreat
open Go.RowKit

/-- An iterator stands at leaf c, at place q (-1: ahead of the first), m keys behind it or under it. -/
def Place (ls : List Leaf) (c : Nat) (q : Int) (m : Nat) : Prop :=
  ∃ l, ls[c]? = some l ∧ -1 ≤ q ∧ q < (l.ks.length : Int) ∧ (m : Int) = (flat (ls.take c)).length + q + 1

theorem Place.start {ls : List Leaf} {l : Leaf} (h : ls[0]? = some l) (_h0 : 0 < l.ks.length) : Place ls 0 (-1) 0 := ⟨l, h, by omega, by omega, by simp [flat]⟩

theorem flat_get {ls : List Leaf} {c q m : Nat} {l : Leaf} (h : ls[c]? = some l) (hq : q < l.ks.length) (hm : m = (flat (ls.take c)).length + q) : (flat ls)[m]? = l.ks[q]? := by
  rw [flat_at h, hm, List.getElem?_append_right (by omega), Nat.add_sub_cancel_left, List.getElem?_append_left hq]

theorem flat_take_next {ls : List Leaf} {c : Nat} {l : Leaf} (h : ls[c]? = some l) : (flat (ls.take (c + 1))).length = (flat (ls.take c)).length + l.ks.length := by
  have hc := (List.getElem?_eq_some_iff.1 h).1
  have e : ls[c] = l := (List.getElem?_eq_some_iff.1 h).2
  rw [List.take_succ_eq_append_getElem hc, flat_append, List.length_append, e]
  simp [flat]

theorem kv_get {ks : List (Int × Int)} {q : Nat} (hq : q < ks.length) : ks[q]? = some (kOf ks q, vOf ks q) := by
  rw [kOf, vOf, List.getD_eq_getElem?_getD, List.getElem?_eq_getElem hq]; rfl

/-- Within the leaf. -/
theorem Place.within {ls : List Leaf} {c m : Nat} {q : Int} {l : Leaf} (h : Place ls c q m) (hl : ls[c]? = some l) (hq : q + 1 < (l.ks.length : Int)) :
    ∃ p : Nat, q + 1 = (p : Int) ∧ p < l.ks.length ∧ Place ls c p (m + 1) ∧ m < (flat ls).length ∧ (kOf (flat ls) m, vOf (flat ls) m) = (kOf l.ks p, vOf l.ks p) := by
  obtain ⟨l', hl', h1, h2, h3⟩ := h
  obtain rfl : l' = l := Option.some.inj (hl'.symm.trans hl)
  obtain ⟨p, hp⟩ : ∃ p : Nat, q + 1 = (p : Int) := ⟨(q + 1).toNat, by omega⟩
  have hpl : p < l'.ks.length := by omega
  have hg := flat_get hl hpl (m := m) (by omega)
  rw [kv_get hpl] at hg
  have hm : m < (flat ls).length := (List.getElem?_eq_some_iff.1 hg).1
  rw [kv_get hm] at hg
  exact ⟨p, hp, hpl, ⟨l', hl, by omega, by omega, by omega⟩, hm, Option.some.inj hg⟩

/-- Into the next leaf. -/
theorem Place.beyond {ls : List Leaf} {c m : Nat} {q : Int} {l l' : Leaf} (h : Place ls c q m) (hl : ls[c]? = some l) (hq : ¬ q + 1 < (l.ks.length : Int)) (hl' : ls[c + 1]? = some l') (h0 : 0 < l'.ks.length) :
    Place ls (c + 1) ((0 : Nat) : Int) (m + 1) ∧ m < (flat ls).length ∧ (kOf (flat ls) m, vOf (flat ls) m) = (kOf l'.ks 0, vOf l'.ks 0) := by
  obtain ⟨x, hx, h1, h2, h3⟩ := h
  obtain rfl : x = l := Option.some.inj (hx.symm.trans hl)
  have hf := flat_take_next hl
  have hg := flat_get hl' h0 (m := m) (by omega)
  rw [kv_get h0] at hg
  have hm : m < (flat ls).length := (List.getElem?_eq_some_iff.1 hg).1
  rw [kv_get hm] at hg
  exact ⟨⟨l', hl', by omega, by omega, by omega⟩, hm, Option.some.inj hg⟩

/-- At the end. -/
theorem Place.ended {ls : List Leaf} {c m : Nat} {q : Int} {l : Leaf} (h : Place ls c q m) (hl : ls[c]? = some l) (hq : ¬ q + 1 < (l.ks.length : Int)) (hl' : ls[c + 1]? = none) : m = (flat ls).length := by
  obtain ⟨x, hx, h1, h2, h3⟩ := h
  obtain rfl : x = l := Option.some.inj (hx.symm.trans hl)
  have hf := flat_take_next hl
  have hc := List.getElem?_eq_none_iff.1 hl'
  rw [List.take_of_length_le hc] at hf
  omega

/-- What the iterating asks of a tree. -/
theorem PTree.chain {w : World} {t : Nat} {fp : List Nat} {ls : List Leaf} (h : PTree w t fp ls) (h0 : flat ls ≠ []) :
    ChainRep w ls ∧ (∀ l ∈ ls, 0 < l.ks.length ∧ l.ks.length ≤ 12) ∧ (∀ l ∈ ls, l.b ∈ fp ∧ l.g ∈ fp) := by
  rcases h with ⟨l, rfl, rfl, num, ht, hl, hd, hn, hs⟩ | ⟨ib, sg, ng, rfl, num, ht, hN, hC, hd, hlen, hsz, hs⟩
  · refine ⟨fun j x hj => ?_, fun x hx => ?_, fun x hx => ?_⟩
    · match j, hj with
      | 0, hj => obtain rfl := Option.some.inj hj; exact hl
    · rw [List.mem_singleton] at hx; subst hx
      rw [flat_one] at h0
      exact ⟨List.length_pos_iff.2 h0, by omega⟩
    · rw [List.mem_singleton] at hx; subst hx; simp
  · refine ⟨hC, fun x hx => ?_, fun x hx => ?_⟩
    · have := hsz x hx; omega
    · have h1 : x.b ∈ blks ls := List.mem_flatMap.2 ⟨x, hx, by simp⟩
      have h2 : x.g ∈ blks ls := List.mem_flatMap.2 ⟨x, hx, by simp⟩
      simp [h1, h2]
theorem PTree.lt {w : World} {t : Nat} {fp : List Nat} {ls : List Leaf} (h : PTree w t fp ls) : ∀ x ∈ fp, x < w.heap.size := by
  rcases h with ⟨l, rfl, rfl, num, ht, hl, hd, hn, hs⟩ | ⟨ib, sg, ng, rfl, num, ht, hN, hC, hd, hlen, hsz, hs⟩
  · intro x hx
    simp only [List.mem_cons, List.not_mem_nil, or_false] at hx
    rcases hx with rfl | rfl | rfl
    · exact lt_of_block ht
    · exact hl.ltb
    · exact hl.ltg
  · intro x hx
    simp only [List.mem_cons] at hx
    rcases hx with rfl | rfl | rfl | rfl | hx
    · exact lt_of_block ht
    · exact lt_of_block hN.1
    · exact (hN.2.1.lt _ rfl).2
    · exact (hN.2.2.lt _ rfl).2
    · obtain ⟨l, hl, hxl⟩ := List.mem_flatMap.1 hx
      obtain ⟨j, hj, rfl⟩ := List.getElem_of_mem hl
      have := hC j _ (List.getElem?_eq_getElem hj)
      simp only [List.mem_cons, List.not_mem_nil, or_false] at hxl
      rcases hxl with rfl | rfl
      · exact this.ltb
      · exact this.ltg
end Go.Proofs.YtegejfhomocloaaGreat

namespace Go.Proofs.YtegejfhomocloaaGreat
open Go.RowKit

theorem ownsSlice {w : World} {base : Nat} {e : TypeId} {size : Nat} {v : Value} {n : Nat} {xs : List Value} (h : w.ownsRow base e size v n xs) : ∃ p c, v = .slice p n c := by
  rcases h.2 with ⟨h1, h2⟩ | ⟨g, cap, cur, h1, _⟩
  · exact ⟨none, 0, by rw [h1, h2]⟩
  · exact ⟨_, _, h1⟩

/-- A step of an iterator over a chain of leaves, m keys behind it. -/
def NextAt (it : Nat) (ls : List Leaf) (m : Nat) (w : World) (e : Ending) (w' : World) : Prop :=
  Keeps (fun x => x = it) w w' ∧
    ((∃ (c : Nat) (l : Leaf) (p : Nat), ls[c]? = some l ∧ p < l.ks.length ∧ Place ls c p (m + 1) ∧ m < (flat ls).length ∧ (kOf (flat ls) m, vOf (flat ls) m) = (kOf l.ks p, vOf l.ks p) ∧ e = .returned (.bool true) ∧
      w'.heap[it]? = some (.cells #[.pointer (some ⟨l.b, 0, none⟩), .int .i64 p] 153 (0, 0))) ∨ (m = (flat ls).length ∧ e = .returned (.bool false)))

theorem nextAt (it c m : Nat) (q : Int) (ls : List Leaf) (l : Leaf) (w : World) (hC : ChainRep w ls) (hl : ls[c]? = some l) (hsz : ∀ l ∈ ls, 0 < l.ks.length ∧ l.ks.length ≤ 12) (hP : Place ls c q m)
    (hI : w.heap[it]? = some (.cells #[.pointer (some ⟨l.b, 0, none⟩), .int .i64 q] 153 (0, 0))) (hne : it ≠ l.b) : Calls Tryz.prog 45 #[.pointer (some ⟨it, 0, none⟩)] w (NextAt it ls m w) := by
  have hL := hC c l hl
  have hq : -1 ≤ q ∧ q < (l.ks.length : Int) := by
    obtain ⟨x, hx, h1, h2, _⟩ := hP
    obtain rfl : x = l := Option.some.inj (hx.symm.trans hl)
    exact ⟨h1, h2⟩
  have hsl := hsz l (List.mem_of_getElem? hl)
  refine (next45 it l.b l.g _ l.ks.length q w hI hL.1 hne hq.1 hq.2 hsl.2).mono ?_
  rintro e w' ⟨rfl, hI', hK⟩
  refine ⟨hK, ?_⟩
  by_cases h1 : q + 1 < (l.ks.length : Int)
  · obtain ⟨p, hp, hpl, hP', hm, hkv⟩ := hP.within hl h1
    refine .inl ⟨c, l, p, hl, hpl, hP', hm, hkv, by simp [h1], ?_⟩
    rw [hI', if_pos h1, hp]
  · cases hx : ls[c + 1]? with
    | some l' =>
      have h0 := (hsz l' (List.mem_of_getElem? hx)).1
      obtain ⟨hP', hm, hkv⟩ := hP.beyond hl h1 hx h0
      refine .inl ⟨c + 1, l', 0, hx, h0, hP', hm, hkv, by simp, ?_⟩
      rw [hI', if_neg h1, hx]
      rfl
    | none =>
      refine .inr ⟨hP.ended hl h1 hx, ?_⟩
      simp
      omega
theorem Answer.keeps {B a : Nat} {N : Value} {xs : List (Int × Int)} {w w' : World} {v h : Value} {hs : List Value} {F : Nat → Prop} (hA : Answer B a N xs w v h hs) (k : Keeps F w w') (ha : ¬ F a) (hF : ∀ y, B ≤ y → ¬ F y) : Answer B a N xs w' v h hs :=
  ⟨k.heap hA.blk ha, k.row hA.words (fun b hb => hF b (hA.words.lt b hb).1), k.row hA.haves (fun b hb => hF b (hA.haves.lt b hb).1), hA.apart⟩
end Go.Proofs.YtegejfhomocloaaGreat

namespace Go.Proofs.YtegejfhomocloaaGreat
open Go.RowKit

theorem info59 : (Tryz.prog.info? 59).map (fun i => (i.zero, i.size, i.bytes)) = some (some (.agg #[.slice none 0 0, .slice none 0 0, .int .u64 0]), 3, 56) := by kernel_rfl

theorem PTree.keeps {w w' : World} {t : Nat} {fp : List Nat} {ls : List Leaf} {F : Nat → Prop} (h : PTree w t fp ls) (k : Keeps F w w') (hF : ∀ x ∈ fp, ¬ F x) : PTree w' t fp ls := by
  rcases h with ⟨l, rfl, rfl, num, ht, hl, hd, hn, hs⟩ | ⟨ib, sg, ng, rfl, num, ht, hN, hC, hd, hlen, hsz, hs⟩
  · exact .inl ⟨l, rfl, rfl, num, k.heap ht (hF _ (by simp)), hl.keeps k (hF _ (by simp)) (hF _ (by simp)), hd, hn, hs⟩
  · refine .inr ⟨ib, sg, ng, rfl, num, k.heap ht (hF _ (by simp)), ⟨k.heap hN.1 (hF _ (by simp)), k.row hN.2.1 (ownNot (hF _ (by simp))), k.row hN.2.2 (ownNot (hF _ (by simp)))⟩, fun j l hj => ?_, hd, hlen, hsz, hs⟩
    have hm := List.mem_of_getElem? hj
    have h1 : l.b ∈ blks ls := List.mem_flatMap.2 ⟨l, hm, by simp⟩
    have h2 : l.g ∈ blks ls := List.mem_flatMap.2 ⟨l, hm, by simp⟩
    exact (hC j l hj).keeps k (hF _ (by simp [h1])) (hF _ (by simp [h2]))
theorem news3 {w : World} {b : Nat} {x y z : Value} {t : TypeId} {fr : Nat × Nat} (h : w.heap[b]? = some (.cells #[x, y, z] t fr)) : ∀ j u, [x, y, z][j]? = some u → w.cell? ((⟨b, 0, none⟩ : Addr).add j) = some u := World.news_of_block h
theorem three_of {x y z : Value} (h : x.oneCell' = true) (h' : y.oneCell' = true) (h'' : z.oneCell' = true) : ∀ u ∈ [x, y, z], u.oneCell' = true := fun u hu => by
  simp only [List.mem_cons, List.not_mem_nil, or_false] at hu
  rcases hu with rfl | rfl | rfl <;> assumption

/-- What the two steps leave: the second answer's words are the keys in order. -/
def TreeOut (xs : List (Int × Int)) (w : World) (e : Ending) (w' : World) : Prop :=
  ∃ ag acap g gc : Nat, ∃ ys : List (Int × Int), e = .returned (.slice (some ⟨ag, 0, none⟩) 2 acap) ∧ w'.cell? ⟨ag, 3, none⟩ = some (.slice (some ⟨g, 0, none⟩) xs.length gc) ∧
    w'.ownsRow 0 34 2 (.slice (some ⟨g, 0, none⟩) xs.length gc) xs.length (wordCells ys) ∧ ys.Perm xs ∧ Srt ys ∧ w.heap.size ≤ ag ∧ w.heap.size ≤ g ∧ Keeps (fun _ => False) w w'

/-- Between the steps. -/
def StepRel (xs : List (Int × Int)) (t : Nat) (w : World) (kx : Nat) (s6 s17 : Value) (wr : World) : Prop :=
  (s17 = .int .i64 0 ∧ s6 = .slice none 0 0 ∧ 2 ≤ kx ∧ (∃ fp ls, PTree wr t fp ls ∧ flat ls = [] ∧ ∀ x ∈ fp, w.heap.size ≤ x) ∧ Keeps (fun _ => False) w wr) ∨
  (s17 = .int .i64 1 ∧ 1 ≤ kx ∧ (∃ og oc, s6 = .slice (some ⟨og, 0, none⟩) 1 oc ∧ ∃ cs, wr.ownsRow w.heap.size 59 3 s6 1 cs) ∧ (∃ fp ls, PTree wr t fp ls ∧ (flat ls).Perm xs ∧ ∀ x ∈ fp, w.heap.size ≤ x) ∧ Keeps (fun _ => False) w wr) ∨
  (s17 = .int .i64 2 ∧ TreeOut xs w (.returned s6) wr)

set_option maxRecDepth 100000 in
set_option maxHeartbeats 800000 in
theorem ptRun5 (sg sc wg n wcap qg : Nat) (xs : List (Int × Int)) (w : World) (hn : xs.length = n) (h0 : 0 < n) (hlen : n ≤ 40) (hx : (xs.map (·.1)).Nodup) (hpos : ∀ x ∈ xs, 0 ≤ x.1)
    (hS : w.heap[sg]? = some (.cells #[.int .i64 1, .slice (some ⟨wg, 0, none⟩) n wcap, .int .i64 0, .int .i64 3, .slice (some ⟨qg, 0, none⟩) 1 1, .int .i64 100] 42 (0, 0)))
    (hW : w.ownsRow 0 34 2 (.slice (some ⟨wg, 0, none⟩) n wcap) n (wordCells xs)) (hQ : w.heap[qg]? = some (.cells #[.int .i64 (-1), .int .i64 0] 34 (0, 0))) :
    Calls Tryz.prog 5 #[.int .u64 12, .slice (some ⟨sg, 0, none⟩) 2 sc] w (TreeOut xs w) := by
  obtain ⟨i0, hi0, hiz, his, hib⟩ := info_parts info59
  have HN := Lib.hid hn; clear hn
  have HX := Lib.hid hx; clear hx
  have HPOS := Lib.hid hpos; clear hpos
  have HS := Lib.hid hS; clear hS
  have HW := Lib.hid hW; clear hW
  have HQ := Lib.hid hQ; clear hQ
  go_enter Tryz.func5, Tryz.ntmps5
  go_wp2_with fail
  refine (newTree12 w).mono ?_
  rintro e w1 ⟨t, b, g, rfl, hT, hfp, hK⟩
  have HT := Lib.hid hT; clear hT
  have HF := Lib.hid hfp; clear hfp
  have HK := Lib.hid hK; clear hK
  go_wp2_with fail
  go_loopg [6, 17] 2 (fun kx s6 s17 wr => Hid (StepRel xs t w kx s6 s17 wr))
  case atStart => exact .inl ⟨rfl, rfl, Nat.le_refl _, ⟨_, _, HT.out, by simp [flat], HF.out⟩, HK.out⟩
  case round =>
    rcases hrel.out with ⟨e17, e6, hk, ⟨fp, ls, hT, hfl, hfp⟩, hK⟩ | ⟨e17, hk, ⟨og, oc, e6, cs, hO⟩, ⟨fp, ls, hT, hfl, hfp⟩, hK⟩ | ⟨e17, hout⟩
    · subst e17 e6
      have HT1 := Lib.hid hT; clear hT
      have HFL := Lib.hid hfl; clear hfl
      have HFP := Lib.hid hfp; clear hfp
      have HK1 := Lib.hid hK; clear hK
      clear hrel
      have hs1 := HK1.out.heap HS.out (fun f => f)
      have a0 : wr.cell? ⟨sg, 0, none⟩ = some (.int .i64 1) := cell_at hs1 0
      have a1 : wr.cell? ⟨sg, 1, none⟩ = some (.slice (some ⟨wg, 0, none⟩) n wcap) := cell_at hs1 1
      have a2 : wr.cell? ⟨sg, 2, none⟩ = some (.int .i64 0) := cell_at hs1 2
      have HW1 := Lib.hid (HK1.out.row HW.out (ownNot fun f => f))
      clear hs1
      go_wp2_with fail
      have HW2 := Lib.hid ((HW1.out.alloc (.cells #[.int .i64 1, .slice (some ⟨wg, 0, none⟩) n wcap, .int .i64 0] 42)).alloc (.cells #[.slice none 0 0, .slice none 0 0, .int .u64 0] 59))
      have HK2 := Lib.hid ((HK1.out.alloc (.cells #[.int .i64 1, .slice (some ⟨wg, 0, none⟩) n wcap, .int .i64 0] 42)).alloc (.cells #[.slice none 0 0, .slice none 0 0, .int .u64 0] 59))
      have HT2 := Lib.hid (HT1.out.keeps (((Keeps.refl (fun _ => False) wr).alloc (.cells #[.int .i64 1, .slice (some ⟨wg, 0, none⟩) n wcap, .int .i64 0] 42)).alloc (.cells #[.slice none 0 0, .slice none 0 0, .int .u64 0] 59)) (fun _ _ f => f))
      have HA2 := Lib.hid (alloc_at (wr.alloc (.cells #[.int .i64 1, .slice (some ⟨wg, 0, none⟩) n wcap, .int .i64 0] 42)) (.cells #[.slice none 0 0, .slice none 0 0, .int .u64 0] 59) (wr.heap.size + 1) (by simp))
      have HL2 := Lib.hid HT1.out.lt
      have hz2 : ((wr.alloc (.cells #[.int .i64 1, .slice (some ⟨wg, 0, none⟩) n wcap, .int .i64 0] 42)).alloc (.cells #[.slice none 0 0, .slice none 0 0, .int .u64 0] 59)).heap.size = wr.heap.size + 2 := by simp
      have hwz := HK1.out.size
      clear a0 a1 a2 HW1 HT1
      generalize (wr.alloc (.cells #[.int .i64 1, .slice (some ⟨wg, 0, none⟩) n wcap, .int .i64 0] 42)).alloc (.cells #[.slice none 0 0, .slice none 0 0, .int .u64 0] 59) = w2 at HW2 HK2 HT2 HA2 hz2 ⊢
      refine (keys14 wg n wcap xs w2 HN.out h0 hlen HW2.out).mono ?_
      rintro e w3 ⟨kg, kc, rfl, hkg, hKO, hK3⟩
      have hz3 := hK3.size
      have hnot : kg ∉ fp := fun hm => by have := HL2.out kg hm; omega
      have HM := Lib.hid (treeInsertMany t kg xs.length kc fp ls xs w3 (HT2.out.keeps hK3 (fun _ _ f => f)) HFL.out HX.out (by rw [HN.out]; exact hlen) rfl (ownsBase hKO) hnot)
      have HK3 := Lib.hid (HK2.out.trans hK3 (fun _ _ f => f))
      have HA3 := Lib.hid (hK3.heap HA2.out (fun f => f))
      clear hKO hK3 hnot hkg
      go_wp2_with fail
      refine HM.out.mono ?_
      rintro e w4 ⟨rfl, fp', ls', hT4, hP4, hF4, hK4⟩
      have hz4 := hK4.size
      have hna : wr.heap.size + 1 ∉ fp := fun hm => by have := HL2.out _ hm; omega
      have HA4 := Lib.hid (hK4.heap HA3.out hna)
      have HK4 := Lib.hid (HK3.out.trans hK4 (fun b hb hm => absurd hb (Nat.not_lt.2 (HFP.out b hm))))
      have HT4 := Lib.hid hT4
      have HP4 := Lib.hid hP4
      have HF4 : Hid (∀ x ∈ fp', w.heap.size ≤ x) := fun x hx => (hF4 x hx).elim (HFP.out x) (fun h => by omega)
      have e0 : w4.cell? ⟨wr.heap.size + 1, 0, none⟩ = some (.slice none 0 0) := cell_at HA4.out 0
      have e1 : w4.cell? ⟨wr.heap.size + 1, 1, none⟩ = some (.slice none 0 0) := cell_at HA4.out 1
      have e2 : w4.cell? ⟨wr.heap.size + 1, 2, none⟩ = some (.int .u64 0) := cell_at HA4.out 2
      clear hT4 hP4 hF4 hK4 hna HM
      go_wp2_with (at_builtin; refine wpList_append_lies _ rfl (.tmp 77) (.tmp 79) 39 rfl w.heap.size 59 i0 _ 3 56 Tryz.underlying39 hi0 hiz his hib rfl (by omega) (.slice none 0 0) 0 [] rfl (World.ownsRow_nil _ _ _ _) ⟨w4.heap.size, 0, none⟩ 1 1 [.slice none 0 0, .slice none 0 0, .int .u64 0] rfl (by rfl) (news3 (heap_alloc_new w4 _)) (three_of rfl rfl rfl) (by omega) (by simp only [maxLen]; omega) (by omega) (by simp; omega) _ rfl ?_; intro og oc w5 hO hg hat hlt; clear hat; have HO5 := Lib.hid hO; have HK5 := Lib.hid ((HK4.out.alloc _).grown hg (fun b hb _ => by cases hb)); have HT5 := Lib.hid (HT4.out.keeps (((Keeps.refl (fun _ => False) w4).alloc _).grown hg (fun b hb _ => by cases hb)) (fun _ _ f => f)); clear hO hg e0 e1 e2)
      go_roundg (1)
      case measure => omega
      case rel => exact .inr (.inl ⟨rfl, by omega, ⟨og, oc, rfl, _, HO5.out⟩, ⟨fp', ls', HT5.out, HP4.out, HF4.out⟩, HK5.out⟩)
    · subst e17
      obtain ⟨OV, hOV⟩ : ∃ OV, OV = (Value.slice (some ⟨og, 0, none⟩) 1 oc) := ⟨_, rfl⟩
      subst e6
      have HO1 := Lib.hid hO; clear hO
      have hne : flat ls ≠ [] := fun h => by rw [h] at hfl; have := hfl.length_eq; rw [HN.out] at this; simp at this; omega
      have hcnt : (flat ls).length = n := by rw [hfl.length_eq]; exact HN.out
      have hgt : ∀ x ∈ flat ls, (-1 : Int) < x.1 := fun x hx => by have := HPOS.out x (hfl.mem_iff.1 hx); omega
      have HT1 := Lib.hid hT; clear hT
      have HSR := Lib.hid HT1.out.srt
      have HFL := Lib.hid hfl; clear hfl
      have HFP := Lib.hid hfp; clear hfp
      have HK1 := Lib.hid hK; clear hK
      have HNE := Lib.hid hne; clear hne
      have HGT := Lib.hid hgt; clear hgt
      clear hrel
      have hs1 := HK1.out.heap HS.out (fun f => f)
      have hq1 := HK1.out.heap HQ.out (fun f => f)
      have a0 : wr.cell? ⟨sg, 3, none⟩ = some (.int .i64 3) := cell_at hs1 3
      have a1 : wr.cell? ⟨sg, 4, none⟩ = some (.slice (some ⟨qg, 0, none⟩) 1 1) := cell_at hs1 4
      have a2 : wr.cell? ⟨sg, 5, none⟩ = some (.int .i64 100) := cell_at hs1 5
      have hq2 := alloc_heap (wr.alloc (.cells #[.int .i64 3, .slice (some ⟨qg, 0, none⟩) 1 1, .int .i64 100] 42)) (.cells #[.slice none 0 0, .slice none 0 0, .int .u64 0] 59) (alloc_heap wr (.cells #[.int .i64 3, .slice (some ⟨qg, 0, none⟩) 1 1, .int .i64 100] 42) hq1)
      have b0 : ((wr.alloc (.cells #[.int .i64 3, .slice (some ⟨qg, 0, none⟩) 1 1, .int .i64 100] 42)).alloc (.cells #[.slice none 0 0, .slice none 0 0, .int .u64 0] 59)).cell? ⟨qg, 0, none⟩ = some (.int .i64 (-1)) := cell_at hq2 0
      have b1 : ((wr.alloc (.cells #[.int .i64 3, .slice (some ⟨qg, 0, none⟩) 1 1, .int .i64 100] 42)).alloc (.cells #[.slice none 0 0, .slice none 0 0, .int .u64 0] 59)).cell? ⟨qg, 1, none⟩ = some (.int .i64 0) := cell_at hq2 1
      have HK2 := Lib.hid ((HK1.out.alloc (.cells #[.int .i64 3, .slice (some ⟨qg, 0, none⟩) 1 1, .int .i64 100] 42)).alloc (.cells #[.slice none 0 0, .slice none 0 0, .int .u64 0] 59))
      have HO2 := Lib.hid ((HO1.out.alloc (.cells #[.int .i64 3, .slice (some ⟨qg, 0, none⟩) 1 1, .int .i64 100] 42)).alloc (.cells #[.slice none 0 0, .slice none 0 0, .int .u64 0] 59))
      have HT2 := Lib.hid (HT1.out.keeps (((Keeps.refl (fun _ => False) wr).alloc (.cells #[.int .i64 3, .slice (some ⟨qg, 0, none⟩) 1 1, .int .i64 100] 42)).alloc (.cells #[.slice none 0 0, .slice none 0 0, .int .u64 0] 59)) (fun _ _ f => f))
      have HA2 := Lib.hid (alloc_at (wr.alloc (.cells #[.int .i64 3, .slice (some ⟨qg, 0, none⟩) 1 1, .int .i64 100] 42)) (.cells #[.slice none 0 0, .slice none 0 0, .int .u64 0] 59) (wr.heap.size + 1) (by simp))
      have HB2 := Lib.hid (alloc_heap (wr.alloc (.cells #[.int .i64 3, .slice (some ⟨qg, 0, none⟩) 1 1, .int .i64 100] 42)) (.cells #[.slice none 0 0, .slice none 0 0, .int .u64 0] 59) (heap_alloc_new wr (.cells #[.int .i64 3, .slice (some ⟨qg, 0, none⟩) 1 1, .int .i64 100] 42)))
      have HL2 := Lib.hid HT1.out.lt
      have hz2 : ((wr.alloc (.cells #[.int .i64 3, .slice (some ⟨qg, 0, none⟩) 1 1, .int .i64 100] 42)).alloc (.cells #[.slice none 0 0, .slice none 0 0, .int .u64 0] 59)).heap.size = wr.heap.size + 2 := by simp
      have hwz := HK1.out.size
      have HOG := Lib.hid (HO1.out.lt og rfl)
      clear hs1 hq1 hq2 HO1 HT1
      go_wp2_with fail
      clear a0 a1 a2 b0 b1
      generalize (wr.alloc (.cells #[.int .i64 3, .slice (some ⟨qg, 0, none⟩) 1 1, .int .i64 100] 42)).alloc (.cells #[.slice none 0 0, .slice none 0 0, .int .u64 0] 59) = w2 at HK2 HO2 HT2 HA2 HB2 hz2 ⊢
      obtain ⟨l0, hl0, hit⟩ := iter17 t fp ls (-1) 0 w2 HT2.out HNE.out (by rw [hcnt]; exact hlen) HGT.out
      refine hit.mono ?_
      rintro e w3 ⟨it, rfl, hiz2, hI3, hK3⟩
      clear hit
      have hz3 := hK3.size
      have hitl := lt_of_block hI3
      have HC3 : Hid (ChainRep w3 ls ∧ (∀ l ∈ ls, 0 < l.ks.length ∧ l.ks.length ≤ 12) ∧ (∀ l ∈ ls, l.b ∈ fp ∧ l.g ∈ fp)) := (HT2.out.keeps hK3 (fun _ _ f => f)).chain HNE.out
      have HK3 := Lib.hid (HK2.out.trans hK3 (fun _ _ f => f))
      have HO3 := Lib.hid (hK3.row HO2.out (ownNot fun f => f))
      have HA3 := Lib.hid (hK3.heap HA2.out (fun f => f))
      have HB3 := Lib.hid (hK3.heap HB2.out (fun f => f))
      have HI3 := Lib.hid hI3; clear hI3 hK3 HO2 HK2 HA2 HB2
      have HP3 := Lib.hid (Place.start hl0 (HC3.out.2.1 l0 (List.mem_of_getElem? hl0)).1)
      have HL0 := Lib.hid hl0; clear hl0
      have HFPL : Hid (∀ l ∈ ls, l.b < wr.heap.size ∧ l.g < wr.heap.size) := fun l hl => ⟨HL2.out _ (HC3.out.2.2 l hl).1, HL2.out _ (HC3.out.2.2 l hl).2⟩
      go_wp2_with fail
      generalize wr.heap.size = z at HFPL hz2 hiz2 hz3 hitl HA3 HB3 hwz HOG ⊢
      have hzl : w.heap.size ≤ z := hwz
      go_loopg [] n (fun kx wv => ∃ m : Nat, m ≤ n ∧ n - m ≤ kx ∧ Hid (∃ (c : Nat) (q : Int) (l : Leaf), ls[c]? = some l ∧ Place ls c q m ∧ wv.heap[it]? = some (.cells #[.pointer (some ⟨l.b, 0, none⟩), .int .i64 q] 153 (0, 0)) ∧
        (∃ v h hs, Answer w3.heap.size (z + 1) (.int .u64 0) ((flat ls).take m) wv v h hs) ∧ Keeps (fun y => y = z + 1 ∨ y = it ∨ w3.heap.size ≤ y) w3 wv))
      case atStart => exact ⟨0, Nat.zero_le _, by omega, 0, -1, l0, HL0.out, HP3.out, HI3.out, ⟨_, _, [], HA3.out, World.ownsRow_nil _ _ _ _, World.ownsRow_nil _ _ _ _, fun x hx => by cases hx⟩, Keeps.refl _ _⟩
      case round =>
        obtain ⟨m, hm, hgk, hrel⟩ := hrel
        obtain ⟨c, q, l, hl, hP, hI, ⟨v, h, hs, hA⟩, hK⟩ := hrel.out
        have hlm : ((flat ls).take m).length = m := by rw [List.length_take, hcnt]; omega
        obtain ⟨vp, vc, hv⟩ := ownsSlice hA.words
        rw [hlm] at hv
        subst hv
        have hC4 := fun j x hj => (HC3.out.1 j x hj).keeps hK (fun e => by have := HFPL.out x (List.mem_of_getElem? hj); omega) (fun e => by have := HFPL.out x (List.mem_of_getElem? hj); omega)
        have hB4 := hK.heap HB3.out (fun e => by omega)
        have r0 : wr.cell? ⟨z + 1, 0, none⟩ = some (.slice vp m vc) := cell_at hA.blk 0
        have r1 : wr.cell? ⟨z, 2, none⟩ = some (.int .i64 100) := cell_at hB4 2
        have hN := nextAt it c m q ls l wr hC4 hl HC3.out.2.1 hP hI (fun e => by have := HFPL.out l (List.mem_of_getElem? hl); omega)
        have hdec : decide ((m : Int) < 100) = true := by simp; omega
        have HNX := Lib.hid hN; clear hN
        have HK4 := Lib.hid hK; clear hK
        have HA4 := Lib.hid hA; clear hA hC4 hB4 hl hP hI
        clear hrel
        go_wp2_with fail
        refine HNX.out.mono ?_
        rintro e w5 ⟨hK5, (⟨c', l', p, hl', hp, hP', hmn, hkv, rfl, hI'⟩ | ⟨hend, rfl⟩)⟩
        · have hlt' := HFPL.out l' (List.mem_of_getElem? hl')
          have hL5 := ((HC3.out.1 c' l' hl').keeps HK4.out (fun e => by omega) (fun e => by omega)).keeps hK5 (fun e => by omega) (fun e => by omega)
          have HV := Lib.hid (value46 it l' _ p w5 hI' hL5 hp (HC3.out.2.1 l' (List.mem_of_getElem? hl')).2)
          have HA5 := Lib.hid (HA4.out.keeps hK5 (fun e => by omega) (fun y hy e => by omega))
          have HK5 := Lib.hid (HK4.out.trans hK5 (fun b hb e => .inr (.inl e)))
          have HI5 := Lib.hid hI'; clear hI' hK5 hL5
          have HPL := Lib.hid hP'; clear hP'
          have HKV := Lib.hid hkv; clear hkv
          have HLL := Lib.hid hl'; clear hl' HA4 HK4 HNX r0 r1
          go_wp2_with fail
          refine HV.out.mono ?_
          rintro e w6 ⟨rfl, hB6⟩
          have HK6 := Lib.hid (HK5.out.new hB6)
          have HA6 := Lib.hid (HA5.out.keeps (Keeps.of_new (F := fun _ => False) hB6) (fun f => f) (fun _ _ f => f))
          have HI6 := Lib.hid ((Keeps.of_new (F := fun _ => False) hB6).heap HI5.out (fun f => f))
          have hz6 := HK6.out.size
          clear hB6 HA5 HK5 HI5 HV
          have HKP := Lib.hid (keep16 w3.heap.size (z + 1) m (.int .u64 0) ((flat ls).take m) (.slice vp m vc) h hs (kOf l'.ks p) (vOf l'.ks p) w6 (by omega) hz6 hlm (by omega) HA6.out)
          go_wp2_with fail
          refine HKP.out.mono ?_
          rintro e w7 ⟨rfl, hA7, hK7⟩
          have HA7 := Lib.hid hA7; clear hA7
          have HK7 := Lib.hid hK7; clear hK7 HKP
          go_wp2_with fail
          go_roundg (n - (m + 1))
          case measure => omega
          case rel =>
            refine ⟨m + 1, by omega, Nat.le_refl _, c', p, l', HLL.out, HPL.out, HK7.out.heap HI6.out (fun e => by omega), ?_, HK6.out.trans HK7.out (fun b hb e => by omega)⟩
            rw [take_next hmn, HKV.out]
            exact HA7.out
        · have HA5 := Lib.hid (HA4.out.keeps hK5 (fun e => by omega) (fun y hy e => by omega))
          have HK5 := Lib.hid (HK4.out.trans (G := fun x => x = it) hK5 (fun b hb e => .inr (.inl e)))
          clear hK5 HA4 HK4 HNX r0 r1
          have hmn : m = n := hend.trans hcnt
          obtain ⟨vg, vcap, hvv, hvb, hvl⟩ := HA5.out.words.form (by rw [hlm]; omega)
          rw [hlm] at hvv
          injection hvv with hv1 _ hv2
          subst hv1 hv2
          have HO5 := Lib.hid (HK5.out.row HO3.out (ownNot (fun e => by have := HOG.out; omega)))
          have s0 : w5.cell? ⟨z + 1, 0, none⟩ = some (.slice (some ⟨vg, 0, none⟩) m vc) := cell_at HA5.out.blk 0
          have s1 : w5.cell? ⟨z + 1, 1, none⟩ = some h := cell_at HA5.out.blk 1
          have s2 : w5.cell? ⟨z + 1, 2, none⟩ = some (.int .u64 0) := cell_at HA5.out.blk 2
          have hone : h.oneCell' = true := by
            obtain ⟨hp, hc, rfl⟩ := ownsSlice HA5.out.haves
            rfl
          have hz5 := HK5.out.size
          have hog := HOG.out.1
          have hw5 : w.heap.size ≤ w5.heap.size := by omega
          have hng : some vg ≠ (Value.slice (some ⟨og, 0, none⟩) 1 oc).ownBlock := fun e => by
            have h7 : vg = og := Option.some.inj e
            have := HOG.out.2
            omega
          have HNG := Lib.hid hng; clear hng
          have HMN := Lib.hid hmn
          clear hend hmn
          go_wp2_with (at_builtin; refine wpList_append_lies _ rfl (.tmp 77) (.tmp 79) 39 rfl w.heap.size 59 i0 _ 3 56 Tryz.underlying39 hi0 hiz his hib rfl (by omega) (.slice (some ⟨og, 0, none⟩) 1 oc) 1 cs rfl (HO5.out.alloc _) ⟨w5.heap.size, 0, none⟩ 1 1 [.slice (some ⟨vg, 0, none⟩) m vc, h, .int .u64 0] rfl (by rfl) (news3 (heap_alloc_new w5 _)) (three_of rfl hone rfl) (by omega) (by simp only [maxLen]; omega) (by omega) (by simp; omega) _ rfl ?_; intro ag acap w6 hO hg hat hlt; clear hat; have HO6 := Lib.hid hO; have HV6 := Lib.hid ((HA5.out.words.alloc _).kept hg (.inr HNG.out)); have HG6 := Lib.hid hg; clear hO hg s0 s1 s2)
          go_roundg (0)
          case measure => omega
          case rel =>
            have hmx : m = xs.length := HMN.out.trans HN.out.symm
            have htk : (flat ls).take m = flat ls := List.take_of_length_le (by rw [hcnt, HMN.out]; exact Nat.le_refl _)
            have hcl := HO5.out.1
            have hV := HV6.out
            rw [htk, hcnt, ← HN.out, hmx] at hV
            refine .inr (.inr ⟨rfl, ag, acap, vg, vc, flat ls, rfl, ?_, ownsBase hV, HFL.out, HSR.out, (HO6.out.lt ag rfl).1, by omega, ?_⟩)
            · rw [HO6.out.cellAt 3 (by omega), List.getElem?_append_right (by omega), hcl, ← hmx]; rfl
            · exact ((HK3.out.trans HK5.out (fun b hb e => by omega)).alloc _).grown HG6.out (fun b hb hlt => by have : og = b := Option.some.inj hb; omega)
    · obtain ⟨ag, acap, g', gc, ys, he, hr⟩ := hout
      injection he with he
      subst e17 he
      have HR := Lib.hid hr; clear hr hrel
      go_wp2_with fail
      go_ret
      exact ⟨ag, acap, g', gc, ys, rfl, HR.out⟩
end Go.Proofs.YtegejfhomocloaaGreat
