/- A part of the proof of FnRoadOrder: the range tree: nodes and insertion. No conditions but those of the theorems. -/
import Derived.Test.YtegejfhomocloaaGreatJ1
import Derived.Test.YtegejfhomocloaaGreatJ5
set_option linter.all false
namespace Go.Proofs.YtegejfhomocloaaGreat
open Go.RowKit

set_option maxRecDepth 100000 in
set_option maxHeartbeats 400000 in
theorem placeR159 (a c : Nat) (k : Int) (w : World) (ck : w.cell? ⟨a, 0, none⟩ = some (.int .i64 k)) :
    Calls Tryz.prog 159 #[.slice (some ⟨a, 0, none⟩) 1 c, .int .u64 1] w fun e w' => e = .returned (.int .i64 k) ∧ Below w.heap.size w w' := by
  go_enter Tryz.func159, Tryz.ntmps159
  go_wp2
  go_ret
  exact ⟨rfl, by go_grown⟩

/-- A dot: where its place lies, the place, its value. -/
structure Dot where
  a : Nat
  k : Int
  v : Int
def dotV (d : Dot) : Value := .iface 162 (.agg #[.slice (some ⟨d.a, 0, none⟩) 1 1, .int .i64 d.v])

set_option maxRecDepth 100000 in
set_option maxHeartbeats 400000 in
theorem value164 (d : Dot) (w : World) (ck : w.cell? ⟨d.a, 0, none⟩ = some (.int .i64 d.k)) :
    Calls Tryz.prog 164 #[.agg #[.slice (some ⟨d.a, 0, none⟩) 1 1, .int .i64 d.v], .int .u64 1] w fun e w' => e = .returned (.int .i64 d.k) ∧ Below w.heap.size w w' := by
  have hal := World.block_lt_of_cell? w _ ck
  have HP := Lib.hid (fun (o : Obj) => placeR159 d.a 1 d.k (w.alloc o) ((Keeps.alloc (Keeps.refl (fun _ => False) w) o).cell ck (fun f => f)))
  go_enter Tryz.func164, Tryz.ntmps164
  go_wp2_with fail
  refine (HP.out _).mono ?_
  rintro e w1 ⟨rfl, hB⟩
  have hk := Lib.hid ((Keeps.alloc (Keeps.refl (fun _ => False) w) _).new hB)
  clear hB HP
  go_wp2_with fail
  go_ret
  exact ⟨rfl, hk.out.below (Nat.le_refl _) (fun _ _ f => f)⟩

set_option maxRecDepth 100000 in
set_option maxHeartbeats 400000 in
theorem lowR157 (la ha : Nat) (lk : Int) (v3 : Value) (w : World) (ck : w.cell? ⟨la, 0, none⟩ = some (.int .i64 lk)) :
    Calls Tryz.prog 157 #[.agg #[.slice (some ⟨la, 0, none⟩) 1 1, .slice (some ⟨ha, 0, none⟩) 1 1, v3], .int .u64 1] w fun e w' => e = .returned (.int .i64 lk) ∧ Below w.heap.size w w' := by
  have hal := World.block_lt_of_cell? w _ ck
  have HP := Lib.hid (fun (o : Obj) => placeR159 la 1 lk (w.alloc o) ((Keeps.alloc (Keeps.refl (fun _ => False) w) o).cell ck (fun f => f)))
  go_enter Tryz.func157, Tryz.ntmps157
  go_wp2_with fail
  refine (HP.out _).mono ?_
  rintro e w1 ⟨rfl, hB⟩
  have hk := Lib.hid ((Keeps.alloc (Keeps.refl (fun _ => False) w) _).new hB)
  clear hB HP
  go_wp2_with fail
  go_ret
  exact ⟨rfl, hk.out.below (Nat.le_refl _) (fun _ _ f => f)⟩

set_option maxRecDepth 100000 in
set_option maxHeartbeats 400000 in
theorem highR155 (la ha : Nat) (hk : Int) (v3 : Value) (w : World) (ck : w.cell? ⟨ha, 0, none⟩ = some (.int .i64 hk)) :
    Calls Tryz.prog 155 #[.agg #[.slice (some ⟨la, 0, none⟩) 1 1, .slice (some ⟨ha, 0, none⟩) 1 1, v3], .int .u64 1] w fun e w' => e = .returned (.int .i64 hk) ∧ Below w.heap.size w w' := by
  have hal := World.block_lt_of_cell? w _ ck
  have HP := Lib.hid (fun (o : Obj) => placeR159 ha 1 hk (w.alloc o) ((Keeps.alloc (Keeps.refl (fun _ => False) w) o).cell ck (fun f => f)))
  go_enter Tryz.func155, Tryz.ntmps155
  go_wp2_with fail
  refine (HP.out _).mono ?_
  rintro e w1 ⟨rfl, hB⟩
  have hk := Lib.hid ((Keeps.alloc (Keeps.refl (fun _ => False) w) _).new hB)
  clear hB HP
  go_wp2_with fail
  go_ret
  exact ⟨rfl, hk.out.below (Nat.le_refl _) (fun _ _ f => f)⟩

set_option maxRecDepth 100000 in
set_option maxHeartbeats 400000 in
theorem over131 (ps pv g n cap b i : Nat) (K k : Int) (w : World) (hi : i < n) (cs : w.cell? ⟨ps, 0, none⟩ = some (.slice (some ⟨g, 0, none⟩) n cap)) (cv : w.cell? ⟨pv, 0, none⟩ = some (.int .i64 k))
    (cg : w.cell? ⟨g, i, none⟩ = some (.pointer (some ⟨b, 0, none⟩))) (cb : w.cell? ⟨b, 0, none⟩ = some (.int .i64 K)) :
    Calls Tryz.prog 131 #[.int .i64 i, .pointer (some ⟨ps, 0, none⟩), .pointer (some ⟨pv, 0, none⟩)] w fun e w' => e = .returned (.bool (decide (k ≤ K))) ∧ Below w.heap.size w w' := by
  have hk := Keeps.refl (fun _ => False) w
  go_enter Tryz.func131, Tryz.ntmps131
  go_wp2_with fail
  go_quiet (fail)
  go_wp2_with fail
  go_ret
  exact ⟨rfl, (hk.drewN _).below (Nat.le_refl _) (fun _ _ f => f)⟩

/-- How far a search has come. -/
def SInv (n : Nat) (K : Nat → Int) (k : Int) (lo hi : Nat) : Prop :=
  lo ≤ hi ∧ hi ≤ n ∧ (∀ i, i < lo → K i < k) ∧ (∀ i, hi ≤ i → i < n → k ≤ K i)

set_option maxRecDepth 100000 in
set_option maxHeartbeats 400000 in
theorem search130 (ps pv n cap : Nat) (vp : Option Addr) (B : Nat → Nat) (K : Nat → Int) (k : Int) (w : World) (hn : n ≤ 100) (cs : w.cell? ⟨ps, 0, none⟩ = some (.slice vp n cap)) (cv : w.cell? ⟨pv, 0, none⟩ = some (.int .i64 k))
    (hc : ∀ i, i < n → ∃ g, vp = some ⟨g, 0, none⟩ ∧ w.cell? ⟨g, i, none⟩ = some (.pointer (some ⟨B i, 0, none⟩)) ∧ w.cell? ⟨B i, 0, none⟩ = some (.int .i64 (K i))) (hmono : ∀ i j, i < j → j < n → K i < K j) :
    Calls Tryz.prog 130 #[.int .i64 n, .func (.func 131) #[] #[.pointer (some ⟨ps, 0, none⟩), .pointer (some ⟨pv, 0, none⟩)]] w (FoundAt n K k w) := by
  have HC := Lib.hid hc; clear hc
  have HM := Lib.hid hmono; clear hmono
  have HS := Lib.hid cs; clear cs
  have HV := Lib.hid cv; clear cv
  go_enter Tryz.func130, Tryz.ntmps130
  go_wp2_with fail
  go_loopg [5, 6] n (fun kx s5 s6 wr => ∃ lo hi : Nat, s5 = .int .i64 lo ∧ s6 = .int .i64 hi ∧ lo ≤ hi ∧ hi ≤ n ∧ hi - lo ≤ kx ∧ Hid (SInv n K k lo hi) ∧ Hid (Keeps (fun _ => False) w wr))
  case atStart => exact ⟨0, n, rfl, rfl, by omega, by omega, by omega, ⟨by omega, by omega, fun i hi => by omega, fun i hi hin => by omega⟩, Keeps.refl _ _⟩
  case round =>
    obtain ⟨lo, hi, rfl, rfl, hle, hhn, hg, I, hK⟩ := hrel
    by_cases hlt : lo < hi
    · obtain ⟨m, hm⟩ : ∃ m : Nat, (lo + hi) / 2 = m := ⟨_, rfl⟩
      have hm1 : lo ≤ m := by omega
      have hm2 : m < hi := by omega
      obtain ⟨g, hg', hc1, hc2⟩ := HC.out m (by omega)
      subst hg'
      have hov := over131 ps pv g n cap (B m) m (K m) k wr (by omega) (hK.out.cell HS.out (fun f => f)) (hK.out.cell HV.out (fun f => f)) (hK.out.cell hc1 (fun f => f)) (hK.out.cell hc2 (fun f => f))
      clear hc1 hc2
      have hmi : ((lo : Int) + (hi : Int)) / 2 = (m : Int) := by omega
      go_wp2_with fail
      refine hov.mono ?_
      rintro e w2 ⟨rfl, hB⟩
      clear hov
      have HK2 := Lib.hid (hK.out.new hB); clear hB
      by_cases hc : k ≤ K m
      · have hd : decide (k ≤ K m) = true := by simp [hc]
        have I2 : Hid (SInv n K k lo m) := ⟨by omega, by omega, I.out.2.2.1, fun i hi' hin => by
          rcases Nat.lt_or_ge m i with h | h
          · have := HM.out m i h hin; omega
          · obtain rfl : i = m := by omega
            exact hc⟩
        clear hc
        go_wp2_with fail
        go_roundg (m - lo)
        case measure => omega
        case rel => exact ⟨lo, m, rfl, rfl, by omega, by omega, Nat.le_refl _, I2, HK2⟩
      · have hd : decide (k ≤ K m) = false := by simp; omega
        have I2 : Hid (SInv n K k (m + 1) hi) := ⟨by omega, by omega, fun i hi' => by
          rcases Nat.lt_or_ge i m with h | h
          · have := HM.out i m h (by omega); omega
          · obtain rfl : i = m := by omega
            omega, I.out.2.2.2⟩
        clear hc
        go_wp2_with fail
        go_roundg (hi - (m + 1))
        case measure => omega
        case rel => exact ⟨m + 1, hi, rfl, rfl, by omega, by omega, Nat.le_refl _, I2, HK2⟩
    · obtain rfl : lo = hi := by omega
      go_wp2_with fail
      go_ret
      exact ⟨lo, hhn, I.out.2.2.1, I.out.2.2.2, rfl, hK.out.below (Nat.le_refl _) (fun _ _ f => f)⟩

set_option maxRecDepth 100000 in
set_option maxHeartbeats 400000 in
theorem search127 (n cap : Nat) (vp : Option Addr) (B : Nat → Nat) (K : Nat → Int) (k : Int) (w : World) (hn : n ≤ 100)
    (hc : ∀ i, i < n → ∃ g, vp = some ⟨g, 0, none⟩ ∧ w.cell? ⟨g, i, none⟩ = some (.pointer (some ⟨B i, 0, none⟩)) ∧ w.cell? ⟨B i, 0, none⟩ = some (.int .i64 (K i))) (hmono : ∀ i j, i < j → j < n → K i < K j) :
    Calls Tryz.prog 127 #[.slice vp n cap, .int .i64 k] w (FoundAt n K k w) := by
  have HK := Lib.hid (((Keeps.refl (fun _ => False) w).alloc (.cells #[.slice vp n cap] 156)).alloc (.cells #[.int .i64 k] 2))
  have HS := Lib.hid (search130 w.heap.size (w.heap.size + 1) n cap vp B K k ((w.alloc (.cells #[.slice vp n cap] 156)).alloc (.cells #[.int .i64 k] 2)) hn
    (cell_at (alloc_heap _ _ (heap_alloc_new w _)) 0) (cell_at (alloc_at (w.alloc _) _ (w.heap.size + 1) (by simp)) 0) (fun i hi => (hc i hi).imp fun g h => ⟨h.1, HK.out.cell h.2.1 (fun f => f), HK.out.cell h.2.2 (fun f => f)⟩) hmono)
  clear hc hmono
  go_enter Tryz.func127, Tryz.ntmps127
  go_wp2_with fail
  refine HS.out.mono ?_
  rintro e w1 ⟨p, hp, h1, h2, rfl, hB⟩
  have H := Lib.hid (⟨h1, h2⟩ : (∀ i, i < p → K i < k) ∧ (∀ i, p ≤ i → i < n → k ≤ K i)); clear h1 h2 HS
  have HK1 := Lib.hid (HK.out.new hB); clear hB
  go_wp2_with fail
  go_ret
  exact ⟨p, hp, H.out.1, H.out.2, rfl, HK1.out.below (Nat.le_refl _) (fun _ _ f => f)⟩
end Go.Proofs.YtegejfhomocloaaGreat

namespace Go.Proofs.YtegejfhomocloaaGreat
open Go.RowKit

theorem info266 : (Tryz.prog.info? 266).map (fun i => (i.zero, i.size, i.bytes)) = some (some (.pointer none), 1, 8) := by kernel_rfl

theorem ownsCap {w : World} {base : Nat} {e : TypeId} {size g n cap : Nat} {xs : List Value} (h : w.ownsRow base e size (.slice (some ⟨g, 0, none⟩) n cap) n xs) : n ≤ cap ∧ cap ≤ maxLen := by
  rcases h.2 with ⟨h', _⟩ | ⟨g', cap', cur, h', hb, hg, hnc, hcm, hcs, htake⟩
  · simp at h'
  · simp only [Value.slice.injEq, Option.some.injEq, Addr.mk.injEq, and_true, true_and] at h'
    obtain ⟨rfl, rfl⟩ := h'
    exact ⟨hnc, hcm⟩

def ptrV (b : Nat) : Value := .pointer (some ⟨b, 0, none⟩)
theorem ptrV_one (bs : List Nat) : ∀ u ∈ bs.map ptrV, u.oneCell' = true := by
  intro u hu
  obtain ⟨x, _, rfl⟩ := List.mem_map.1 hu
  rfl

/-- What an insertion among pointers leaves. -/
def PtrIns (t : Nat) (cs : Array Value) (v : Value) (n : Nat) (bs : List Nat) (i b : Nat) (w : World) (e : Ending) (w' : World) : Prop :=
  e = .returned (.pointer none) ∧ ∃ v', w'.heap[t]? = some (.cells (cs.setIfInBounds 0 v') 158 (0, 0)) ∧ w'.ownsRow 0 266 1 v' (n + 1) ((ins bs i b).map ptrV) ∧
    (∀ y, v'.ownBlock = some y → v.ownBlock = some y ∨ w.heap.size ≤ y) ∧ Keeps (fun y => y = t ∨ v.ownBlock = some y) w w'

set_option maxRecDepth 100000 in
set_option maxHeartbeats 400000 in
theorem addAtEnd (t b n : Nat) (bs : List Nat) (cs : Array Value) (v : Value) (w : World) (ht : w.heap[t]? = some (.cells cs 158 (0, 0))) (hv : cs[0]? = some v) (hO : w.ownsRow 0 266 1 v n (bs.map ptrV)) (hlen : n ≤ 100)
    (hne : v.ownBlock ≠ some t) : Calls Tryz.prog 129 #[.pointer (some ⟨t, 0, none⟩), .int .i64 n, .pointer (some ⟨b, 0, none⟩)] w (PtrIns t cs v n bs n b w) := by
  obtain ⟨i0, hi0, hiz, his, hib⟩ := info_parts info266
  have c0 : w.cell? ⟨t, 0, none⟩ = some v := (cell_at ht 0).trans hv
  have f0 : w.frozen? ⟨t, 0, none⟩ = false := free_at ht 0
  obtain ⟨vp, vc, rfl⟩ := ownsSlice hO
  have htl := lt_of_block ht
  have HT := Lib.hid ht; clear ht
  have HO := Lib.hid hO; clear hO
  have HNE := Lib.hid hne; clear hne
  have HV := Lib.hid hv; clear hv
  go_enter Tryz.func129, Tryz.ntmps129
  go_wp2_with (at_builtin; refine wpList_append_lies _ rfl (.tmp 17) (.tmp 19) 156 rfl 0 266 i0 _ 1 8 Tryz.underlying156 hi0 hiz his hib rfl (by omega) (.slice vp n vc) n _ rfl (HO.out.alloc _) ⟨w.heap.size, 0, none⟩ 1 1 [.pointer (some ⟨b, 0, none⟩)] rfl (by rfl) (cell_one_new _ _ _) (one_of rfl) (by omega) (by simp only [maxLen]; omega) (by omega) (by omega) _ rfl ?_; intro g cap w1 hO1 hg1 hat hlt; have HAT := Lib.hid hat; clear hat; have hT1 := grown_heap hg1 (alloc_heap _ _ HT.out) (Ne.symm HNE.out); clear c0 f0; have c1 : w1.cell? ⟨t, 0, none⟩ = some (.slice vp n vc) := (cell_at hT1 0).trans HV.out; have f1 : w1.frozen? ⟨t, 0, none⟩ = false := free_at hT1 0; have HT1 := Lib.hid hT1; clear hT1; have HO1 := Lib.hid hO1; clear hO1; have HG1 := Lib.hid hg1; clear hg1)
  go_ret
  have hl := HO.out.1
  rw [List.length_map] at hl
  have hgt : g ≠ t := by
    rcases HAT.out with h | h
    · intro e; exact HNE.out (e ▸ h)
    · simp at h; omega
  refine ⟨rfl, _, heap_setCell_same w1 t 0 _ _ _ HT1.out, ?_, fun y hy => ?_, ((Keeps.alloc (Keeps.refl _ _) _).grown HG1.out (fun b hb _ => .inr hb)).setIn t 0 _ (.inl rfl)⟩
  · have : ins bs n b = bs ++ [b] := by simp [ins, List.take_of_length_le (show bs.length ≤ n by omega), List.drop_eq_nil_of_le (show bs.length ≤ n by omega)]
    rw [this, List.map_append]
    exact ownsRow_setCell_other HO1.out (a := ⟨t, 0, none⟩) (ne_row hgt) _
  · have hy' : g = y := Option.some.inj hy
    subst hy'
    rcases HAT.out with h | h
    · exact .inl h
    · simp at h; right; omega

set_option maxRecDepth 100000 in
set_option maxHeartbeats 400000 in
theorem addAtMid (t b n i b1 : Nat) (k1 k : Int) (bs : List Nat) (cs : Array Value) (v : Value) (w : World) (ht : w.heap[t]? = some (.cells cs 158 (0, 0))) (hv : cs[0]? = some v) (hO : w.ownsRow 0 266 1 v n (bs.map ptrV)) (hlen : n ≤ 100)
    (hne : v.ownBlock ≠ some t) (hi : i < n) (hb1 : bs[i]? = some b1) (ck1 : w.cell? ⟨b1, 0, none⟩ = some (.int .i64 k1)) (ck : w.cell? ⟨b, 0, none⟩ = some (.int .i64 k)) (hk : k1 ≠ k) :
    Calls Tryz.prog 129 #[.pointer (some ⟨t, 0, none⟩), .int .i64 i, .pointer (some ⟨b, 0, none⟩)] w (PtrIns t cs v n bs i b w) := by
  obtain ⟨i0, hi0, hiz, his, hib⟩ := info_parts info266
  have c0 : w.cell? ⟨t, 0, none⟩ = some v := (cell_at ht 0).trans hv
  have f0 : w.frozen? ⟨t, 0, none⟩ = false := free_at ht 0
  obtain ⟨g0, vc, rfl, hg0, hg0l⟩ := hO.form (by omega)
  have cg : w.cell? ⟨g0, i, none⟩ = some (.pointer (some ⟨b1, 0, none⟩)) := by
    rw [hO.cellAt i (by omega), List.getElem?_map, hb1]; rfl
  have htl := lt_of_block ht
  have hin : ((i : Int) == (n : Int)) = false := by simp; omega
  have hkk : (k1 == k) = false := by simpa using hk
  have HT := Lib.hid ht; clear ht
  have HO := Lib.hid hO; clear hO
  have HNE := Lib.hid hne; clear hne
  have HV := Lib.hid hv; clear hv
  have HB1 := Lib.hid hb1; clear hb1
  clear hk
  go_enter Tryz.func129, Tryz.ntmps129
  go_wp2_with fail
  go_quiet (fail)
  go_wp2_with (at_builtin; refine wpList_append_lies _ rfl (.tmp 52) (.tmp 53) 156 rfl 0 266 i0 _ 1 8 Tryz.underlying156 hi0 hiz his hib rfl (by omega) (.slice (some ⟨g0, 0, none⟩) n vc) n _ rfl (HO.out.alloc _) ⟨w.heap.size, 0, none⟩ 1 1 [.pointer none] rfl (by rfl) (cell_new_at (by simp)) (one_of rfl) (by omega) (by simp only [maxLen]; omega) (by omega) (by omega) _ rfl ?_; intro g cap w1 hO1 hg1 hat hlt; have HAT := Lib.hid hat; clear hat; have hT1 := grown_heap hg1 (alloc_heap _ _ HT.out) (Ne.symm HNE.out); clear c0 f0 cg ck ck1; have c1 : w1.cell? ⟨t, 0, none⟩ = some (.slice (some ⟨g0, 0, none⟩) n vc) := (cell_at hT1 0).trans HV.out; have f1 : w1.frozen? ⟨t, 0, none⟩ = false := free_at hT1 0; have HT1 := Lib.hid hT1; clear hT1; have HO1 := Lib.hid hO1; clear hO1; have HG1 := Lib.hid hg1; clear hg1)
  have hgt : g ≠ t := by
    rcases HAT.out with h | h
    · intro e; exact HNE.out (e ▸ h)
    · simp at h; omega
  have hK1 : Keeps (fun y => y = t ∨ g0 = y) w w1 := Keeps.grown (((Keeps.refl _ w).drewN nq).alloc _) HG1.out (fun b hb _ => .inr (Option.some.inj hb))
  have k2 := hK1.setIn t 0 (.slice (some ⟨g, 0, none⟩) (n + 1) cap) (.inl rfl)
  have hT2 := heap_setCell_same w1 t 0 _ _ (.slice (some ⟨g, 0, none⟩) (n + 1) cap) HT1.out
  have hO2 := ownsRow_setCell_other HO1.out (a := ⟨t, 0, none⟩) (ne_row hgt) (.slice (some ⟨g, 0, none⟩) (n + 1) cap)
  generalize w1.setCell ⟨t, 0, none⟩ (.slice (some ⟨g, 0, none⟩) (n + 1) cap) = W2 at k2 hT2 hO2 ⊢
  have hpo2 : (cs.setIfInBounds 0 (.slice (some ⟨g, 0, none⟩) (n + 1) cap))[0]? = some (.slice (some ⟨g, 0, none⟩) (n + 1) cap) := by
    have := (Array.getElem?_eq_some_iff.1 HV.out).1
    simp [this]
  have c2 : W2.cell? ⟨t, 0, none⟩ = some (.slice (some ⟨g, 0, none⟩) (n + 1) cap) := (cell_at hT2 0).trans hpo2
  have hcap := ownsCap HO1.out
  have q1 : ¬ cap = i := by omega
  have q2 : ¬ cap = i + 1 := by omega
  have HK2 := Lib.hid k2; clear k2
  have HT2 := Lib.hid hT2; clear hT2
  have HO2 := Lib.hid hO2; clear hO2
  have HPO2 := Lib.hid hpo2; clear hpo2
  clear c1 f1 HT1 HO1
  have e1 : IntKind.i64.wrap ((i : Int) + 1) = (i : Int) + 1 := IntWalk.i64_in _ (by omega)
  have e2 : (0 : Int) ≤ (i : Int) + 1 := by omega
  have e3 : (i : Int) + 1 ≤ (n : Int) + 1 := by omega
  have e4 : (n : Int) + 1 ≤ (cap : Int) := by omega
  have e5 : (i : Int) ≤ (n : Int) + 1 := by omega
  have e6 : ((i : Int) + 1).toNat = i + 1 := by omega
  have e7 : (0 : Int) ≤ (i : Int) := by omega
  have hsz : (Tryz.prog.info? 266).map (·.size) = some 1 := by rw [hi0]; exact congrArg some his
  have hxl : (bs.map ptrV).length = n := by have := HO.out.1; omega
  have hmin : Nat.min (n + 1 - i) (n - i) = n - i := Nat.min_eq_right (by omega)
  have HMIN := Lib.hid hmin; clear hmin
  have HSZ := Lib.hid hsz; clear hsz
  have HXL := Lib.hid hxl; clear hxl
  have hK1 := Lib.hid hK1
  go_region_held3 (fun w' => w'.cell? ⟨t, 0, none⟩ = some (.slice (some ⟨g, 0, none⟩) (n + 1) cap)) (first | go_keep | exact (hg3.cell c2 (by simp; omega))) ((refine step_copy_ins rfl (.tmp 61) (.tmp 66) 156 156 rfl 266 0 266 g n cap i (bs.map ptrV) (.pointer none) (n - i) (cap - (i + 1)) (n + 1 - i) (cap - i) Tryz.underlying156 HSZ.out HXL.out hi (by rfl) (by rfl) HO2.out.drew (ptrV_one bs) HMIN.out ?_; intro w3 hO3 hg3))
  have hT3 := grown_heap hg3 HT2.out (ne_row (Ne.symm hgt))
  have c3 : w3.cell? ⟨t, 0, none⟩ = some (.slice (some ⟨g, 0, none⟩) (n + 1) cap) := (cell_at hT3 0).trans HPO2.out
  obtain ⟨u4, c4⟩ := row_some hO3 i (by omega)
  have f4 := hO3.frozenAt i
  have HT3 := Lib.hid hT3; clear hT3
  have HO3 := Lib.hid hO3; clear hO3
  have HG3 := Lib.hid hg3; clear hg3
  go_wp2_with fail
  go_ret
  have hgF : g < w.heap.size → g = t ∨ g0 = g := fun hlt => by
    rcases HAT.out with h | h
    · exact .inr (Option.some.inj h)
    · simp at h; omega
  refine ⟨rfl, _, set_heap _ ⟨g, i, none⟩ _ HT3.out (Ne.symm hgt), ?_, fun y hy => ?_, ?_⟩
  · have h9 := (HO3.out.stored i (ptrV b)).1
    rw [ins_set (bs.map ptrV) i (ptrV b) (by rw [HXL.out]; exact hi), ins_map] at h9
    exact h9
  · have hy' : g = y := Option.some.inj hy
    subst hy'
    rcases HAT.out with h | h
    · exact .inl h
    · simp at h; right; omega
  · exact ((HK2.out.drew.grown HG3.out (fun b hb hlt => by have h7 : g = b := Option.some.inj hb; subst h7; exact hgF hlt)).setCell _ _ (fun hlt => hgF hlt)).mono (fun b _ h => h.imp id (congrArg some))
end Go.Proofs.YtegejfhomocloaaGreat

namespace Go.Proofs.YtegejfhomocloaaGreat
open Go.RowKit

structure Nd where
  b : Nat
  d : Dot
/-- A node of a range tree of one dimension. -/
def NdRep (w : World) (x : Nd) : Prop := w.heap[x.b]? = some (.cells #[.int .i64 x.d.k, dotV x.d, .slice none 0 0] 269 (0, 0))

/-- What a new node is. -/
def NdNew (d : Dot) (w : World) (e : Ending) (w' : World) : Prop :=
  ∃ b : Nat, e = .returned (.pointer (some ⟨b, 0, none⟩)) ∧ w.heap.size ≤ b ∧ NdRep w' ⟨b, d⟩ ∧ Keeps (fun _ => False) w w'

set_option maxRecDepth 100000 in
set_option maxHeartbeats 400000 in
theorem newNd (d : Dot) (w : World) : Calls Tryz.prog 121 #[.int .i64 d.k, dotV d, .bool false] w (NdNew d w) := by
  show Calls Tryz.prog 121 #[.int .i64 d.k, .iface 162 (.agg #[.slice (some ⟨d.a, 0, none⟩) 1 1, .int .i64 d.v]), .bool false] w (NdNew d w)
  go_enter Tryz.func121, Tryz.ntmps121
  go_wp2
  go_ret
  exact ⟨w.heap.size, rfl, Nat.le_refl _, heap_alloc_new w _, ((Keeps.refl _ w).alloc _)⟩

theorem last119 (w : World) : Calls Tryz.prog 119 #[.int .u64 1, .int .u64 1] w fun e w' => e = .returned (.bool true) ∧ w' = w := by
  go_enter Tryz.func119, Tryz.ntmps119
  go_wp2
  go_ret
  exact ⟨rfl, rfl⟩

/-- Dots in order. -/
def DSrt (L : List Dot) : Prop := L.Pairwise fun a b => a.k < b.k
/-- A range tree of one dimension in memory, all of it from block B on. -/
def RTree (B : Nat) (w : World) (t : Nat) (v : Value) (ns : List Nd) : Prop :=
  ∃ (num : Int) (pv : Value), w.heap[t]? = some (.cells #[v, .int .u64 num, .int .u64 1, pv] 158 (0, 0)) ∧ w.ownsRow B 266 1 v ns.length ((ns.map (·.b)).map ptrV) ∧ (∀ x ∈ ns, NdRep w x ∧ B ≤ x.b) ∧ DSrt (ns.map (·.d)) ∧ B ≤ t

theorem NdRep.keeps {w w' : World} {x : Nd} {F : Nat → Prop} (h : NdRep w x) (k : Keeps F w w') (hF : ¬ F x.b) : NdRep w' x := k.heap h hF
theorem NdRep.ne_row {w : World} {x : Nd} {B n : Nat} {v : Value} {bs : List Value} (h : NdRep w x) (ho : w.ownsRow B 266 1 v n bs) : v.ownBlock ≠ some x.b := fun e => by
  rcases ho.2 with ⟨h', _⟩ | ⟨g, cap, cur, h', hb, hg, _⟩
  · rw [h'] at e; cases e
  · rw [h'] at e
    have : g = x.b := Option.some.inj e
    subst this
    rw [h] at hg
    injection hg with hg
    injection hg with _ h2
    cases h2
theorem row_ne_tree {w : World} {t B n : Nat} {v : Value} {bs : List Value} {cs : Array Value} (h : w.heap[t]? = some (.cells cs 158 (0, 0))) (ho : w.ownsRow B 266 1 v n bs) : v.ownBlock ≠ some t := fun e => by
  rcases ho.2 with ⟨h', _⟩ | ⟨g, cap, cur, h', hb, hg, _⟩
  · rw [h'] at e; cases e
  · rw [h'] at e
    have : g = t := Option.some.inj e
    subst this
    rw [h] at hg
    injection hg with hg
    injection hg with _ h2
    cases h2
theorem nd_ne_tree {w : World} {t : Nat} {x : Nd} {cs : Array Value} (h : w.heap[t]? = some (.cells cs 158 (0, 0))) (hx : NdRep w x) : x.b ≠ t := fun e => by
  subst e
  rw [NdRep] at hx
  rw [h] at hx
  injection hx with hg
  injection hg with _ h2
  cases h2

/-- A new range tree. -/
def RNew (w : World) (e : Ending) (w' : World) : Prop :=
  ∃ t : Nat, e = .returned (.pointer (some ⟨t, 0, none⟩)) ∧ RTree w.heap.size w' t (.slice none 0 0) [] ∧ Keeps (fun _ => False) w w'

theorem makePath (w : World) : (Instr.makeSlice 154 (.int .i64 0) (.int .u64 1)).run Tryz.prog w = .ok (.slice (some ⟨w.heap.size, 0, none⟩) 0 1) (w.alloc (.cells (Array.replicate 1 (.pointer none)) 286)) := by kernel_rfl

set_option maxRecDepth 100000 in
set_option maxHeartbeats 400000 in
theorem rnew31 (w : World) : Calls Tryz.prog 31 #[.int .u64 1] w (RNew w) := by
  have mk := makePath
  go_enter Tryz.func31, Tryz.ntmps31
  go_wp2
  go_ret
  refine ⟨w.heap.size + 1, rfl, ⟨0, _, alloc_at _ _ _ (by simp), World.ownsRow_nil _ _ _ _, (fun x hx => by cases hx), List.Pairwise.nil, by omega⟩, ((Keeps.refl _ w).alloc _).alloc _⟩

set_option maxRecDepth 100000 in
set_option maxHeartbeats 400000 in
theorem rnew19 (w : World) : Calls Tryz.prog 19 #[.int .u64 1] w fun e w' => ∃ t : Nat, e = .returned (.iface 109 (.pointer (some ⟨t, 0, none⟩))) ∧ RTree w.heap.size w' t (.slice none 0 0) [] ∧ Keeps (fun _ => False) w w' := by
  go_enter Tryz.func19, Tryz.ntmps19
  go_wp2_with fail
  refine (rnew31 w).mono ?_
  rintro e w1 ⟨t, rfl, hT, hK⟩
  have HT := Lib.hid hT; clear hT
  have HK := Lib.hid hK; clear hK
  go_wp2_with fail
  go_ret
  exact ⟨t, rfl, HT.out, HK.out⟩

def nkOf (ns : List Nd) (i : Nat) : Int := ((ns[i]?).map (·.d.k)).getD 0
def nbOf (ns : List Nd) (i : Nat) : Nat := ((ns[i]?).map (·.b)).getD 0

theorem nodes_cells {B : Nat} {w : World} {v : Value} {ns : List Nd} (ho : w.ownsRow B 266 1 v ns.length ((ns.map (·.b)).map ptrV)) (hn : ∀ x ∈ ns, NdRep w x ∧ B ≤ x.b) :
    ∃ vp vc, v = .slice vp ns.length vc ∧ ∀ i, i < ns.length → ∃ g, vp = some ⟨g, 0, none⟩ ∧ w.cell? ⟨g, i, none⟩ = some (.pointer (some ⟨nbOf ns i, 0, none⟩)) ∧ w.cell? ⟨nbOf ns i, 0, none⟩ = some (.int .i64 (nkOf ns i)) := by
  obtain ⟨vp, vc, rfl⟩ := ownsSlice ho
  refine ⟨vp, vc, rfl, fun i hi => ?_⟩
  obtain ⟨g, gc, hg, _, _⟩ := ho.form (by omega)
  injection hg with h1 _ h3
  subst h1 h3
  have hx := List.getElem?_eq_getElem hi
  refine ⟨g, rfl, ?_, ?_⟩
  · rw [ho.cellAt i (by omega), List.getElem?_map, List.getElem?_map, hx, nbOf, hx]; rfl
  · rw [nbOf, nkOf, hx]
    exact cell_at (hn _ (List.getElem_mem hi)).1 0

theorem dsrt_keys {ns : List Nd} (h : DSrt (ns.map (·.d))) : ∀ i j, i < j → j < ns.length → nkOf ns i < nkOf ns j := by
  intro i j hij hj
  have := List.pairwise_iff_getElem.1 h i j (by simp; omega) (by simpa using hj) hij
  rw [nkOf, nkOf, List.getElem?_eq_getElem hj, List.getElem?_eq_getElem (by omega : i < ns.length)]
  simpa using this

theorem dsrt_ins {L : List Dot} {i : Nat} {d : Dot} (h : DSrt L) (h1 : ∀ x ∈ L.take i, x.k < d.k) (h2 : ∀ x ∈ L.drop i, d.k < x.k) : DSrt (ins L i d) := by
  unfold DSrt ins
  have h' : DSrt (L.take i ++ L.drop i) := by rw [List.take_append_drop]; exact h
  obtain ⟨a, b, c⟩ := List.pairwise_append.1 h'
  refine List.pairwise_append.2 ⟨a, List.pairwise_cons.2 ⟨fun y hy => h2 y hy, b⟩, fun x hx y hy => ?_⟩
  rcases List.mem_cons.1 hy with rfl | hy
  · exact h1 x hx
  · exact c x hx y hy

/-- A node put among the nodes. -/
def NodesAdd (B t : Nat) (v : Value) (ns : List Nd) (x : Nd) (w : World) (e : Ending) (w' : World) : Prop :=
  e = .returned (.pointer none) ∧ ∃ v' p, p ≤ ns.length ∧ RTree B w' t v' (ins ns p x) ∧ (∀ y, v'.ownBlock = some y → v.ownBlock = some y ∨ w.heap.size ≤ y) ∧ Keeps (fun y => y = t ∨ v.ownBlock = some y) w w'

theorem ptrIns_any (t b n i : Nat) (k : Int) (B : Nat) (ns : List Nd) (cs : Array Value) (v : Value) (w : World) (ht : w.heap[t]? = some (.cells cs 158 (0, 0))) (hv : cs[0]? = some v)
    (hO : w.ownsRow B 266 1 v ns.length ((ns.map (·.b)).map ptrV)) (hlen : ns.length ≤ 100) (hi : i ≤ ns.length) (hn : ∀ x ∈ ns, NdRep w x ∧ B ≤ x.b) (ck : w.cell? ⟨b, 0, none⟩ = some (.int .i64 k)) (hk : ∀ x ∈ ns, x.d.k ≠ k) (_h : n = n) :
    Calls Tryz.prog 129 #[.pointer (some ⟨t, 0, none⟩), .int .i64 i, .pointer (some ⟨b, 0, none⟩)] w (PtrIns t cs v ns.length (ns.map (·.b)) i b w) := by
  have hne := row_ne_tree ht hO
  rcases Nat.lt_or_ge i ns.length with h | h
  · have hx := List.getElem?_eq_getElem h
    exact addAtMid t b ns.length i (ns[i]).b (ns[i]).d.k k _ cs v w ht hv (ownsBase hO) hlen hne h (by rw [List.getElem?_map, hx]; rfl) (cell_at (hn _ (List.getElem_mem h)).1 0) ck (hk _ (List.getElem_mem h))
  · obtain rfl : i = ns.length := by omega
    exact addAtEnd t b ns.length _ cs v w ht hv (ownsBase hO) hlen hne

/-- The base of a row that is known to lie high. -/
theorem ownsUp {w : World} {B B' : Nat} {e : TypeId} {size : Nat} {v : Value} {n : Nat} {xs : List Value} (h : w.ownsRow B e size v n xs) (hb : ∀ y, v.ownBlock = some y → B' ≤ y) : w.ownsRow B' e size v n xs := by
  refine ⟨h.1, ?_⟩
  rcases h.2 with h2 | ⟨g, cap, cur, h', _, r⟩
  · exact .inl h2
  · exact .inr ⟨g, cap, cur, h', hb g (by rw [h']; rfl), r⟩
theorem ins_mem {α : Type} {xs : List α} {i : Nat} {x y : α} (h : y ∈ ins xs i x) : y = x ∨ y ∈ xs := by
  have := (ins_perm xs i x).mem_iff.1 h
  simpa using this

theorem nodesAdd_close {B t b p : Nat} {d : Dot} {v : Value} {ns : List Nd} {w w1 w2 : World} {e : Ending} {num : Int} {pv : Value} (hp : p ≤ ns.length) (ht : w.heap[t]? = some (.cells #[v, .int .u64 num, .int .u64 1, pv] 158 (0, 0)))
    (hO : w.ownsRow B 266 1 v ns.length ((ns.map (·.b)).map ptrV)) (hn : ∀ x ∈ ns, NdRep w x ∧ B ≤ x.b) (hs : DSrt (ns.map (·.d))) (hB : B ≤ t) (hb : NdRep w ⟨b, d⟩ ∧ B ≤ b) (h1 : ∀ i, i < p → nkOf ns i < d.k) (h2 : ∀ i, p ≤ i → i < ns.length → d.k ≤ nkOf ns i) (hk : ∀ x ∈ ns, x.d.k ≠ d.k)
    (hK : Keeps (fun _ => False) w w1) (hi : PtrIns t #[v, .int .u64 num, .int .u64 1, pv] v ns.length (ns.map (·.b)) p b w1 e w2) : NodesAdd B t v ns ⟨b, d⟩ w e w2 := by
  obtain ⟨rfl, v', hT2, hO2, hv', hK2⟩ := hi
  have hz := hK.size
  have htl := lt_of_block ht
  have K2 : Keeps (fun y => y = t ∨ v.ownBlock = some y) w w2 := (hK.mono (fun _ _ f => f.elim)).trans hK2 (fun b hb h => h)
  refine ⟨rfl, v', p, hp, ⟨num, pv, hT2, ?_, fun x hx => ?_, ?_, hB⟩, fun y hy => ?_, K2⟩
  · rw [ins_length _ _ _ hp, ← ins_map (fun x : Nd => x.b) ns p ⟨b, d⟩]
    refine ownsUp hO2 (fun y hy => ?_)
    rcases hv' y hy with h | h
    · exact (hO.lt y h).1
    · omega
  · have hx' : NdRep w x ∧ B ≤ x.b := by
      rcases ins_mem hx with rfl | h
      · exact hb
      · exact hn x h
    exact ⟨hx'.1.keeps K2 (fun h => h.elim (fun e => nd_ne_tree ht hx'.1 e) (fun e => hx'.1.ne_row hO e)), hx'.2⟩
  · rw [← ins_map (fun x : Nd => x.d) ns p ⟨b, d⟩]
    refine dsrt_ins hs (fun x hx => ?_) (fun x hx => ?_)
    · obtain ⟨i, hi, rfl⟩ := List.getElem_of_mem hx
      rw [List.length_take, List.length_map] at hi
      have := h1 i (by omega)
      rw [nkOf, List.getElem?_eq_getElem (by omega)] at this
      rw [List.getElem_take, List.getElem_map]; exact this
    · obtain ⟨i, hi, rfl⟩ := List.getElem_of_mem hx
      rw [List.length_drop, List.length_map] at hi
      have h3 := h2 (p + i) (by omega) (by omega)
      rw [nkOf, List.getElem?_eq_getElem (by omega)] at h3
      have h4 := hk _ (List.getElem_mem (show p + i < ns.length by omega))
      rw [List.getElem_drop, List.getElem_map]
      simp only [Option.map_some, Option.getD_some] at h3
      show d.k < _
      omega
  · rcases hv' y hy with h | h
    · exact .inl h
    · exact .inr (by omega)

set_option maxRecDepth 100000 in
set_option maxHeartbeats 400000 in
theorem nodesAdd120 (B t b : Nat) (d : Dot) (v : Value) (ns : List Nd) (w : World) (hT : RTree B w t v ns) (hb : NdRep w ⟨b, d⟩ ∧ B ≤ b) (hlen : ns.length ≤ 100) (hk : ∀ x ∈ ns, x.d.k ≠ d.k) :
    Calls Tryz.prog 120 #[.pointer (some ⟨t, 0, none⟩), .pointer (some ⟨b, 0, none⟩)] w (NodesAdd B t v ns ⟨b, d⟩ w) := by
  obtain ⟨num, pv, ht, hO, hn, hs, hB⟩ := hT
  obtain ⟨vp, vc, rfl, hc⟩ := nodes_cells hO hn
  have hS := search127 ns.length vc vp (nbOf ns) (nkOf ns) d.k w hlen hc (dsrt_keys hs)
  have ct : w.cell? ⟨t, 0, none⟩ = some (.slice vp ns.length vc) := cell_at ht 0
  have cb : w.cell? ⟨b, 0, none⟩ = some (.int .i64 d.k) := cell_at hb.1 0
  have HCL := Lib.hid (fun (p : Nat) (w1 w2 : World) (e : Ending) (hp : p ≤ ns.length) (h1 : ∀ i, i < p → nkOf ns i < d.k) (h2 : ∀ i, p ≤ i → i < ns.length → d.k ≤ nkOf ns i) (hK : Keeps (fun _ => False) w w1) => nodesAdd_close (e := e) (w2 := w2) hp ht hO hn hs hB hb h1 h2 hk hK)
  have HPI := Lib.hid (fun (p : Nat) (w1 : World) (hp : p ≤ ns.length) (hK : Keeps (fun _ => False) w w1) => ptrIns_any t b 0 p d.k B ns _ _ w1 (hK.heap ht (fun f => f)) rfl (hK.row hO (fun _ _ f => f)) hlen hp (fun x hx => ⟨(hn x hx).1.keeps hK (fun f => f), (hn x hx).2⟩) (hK.cell cb (fun f => f)) hk rfl)
  have hkr := Lib.hid (Keeps.refl (fun _ => False) w)
  have HS : Hid (Calls Tryz.prog 127 #[.slice vp ns.length vc, .int .i64 d.k] w.drew (FoundAt ns.length (nkOf ns) d.k w.drew)) := search127 ns.length vc vp (nbOf ns) (nkOf ns) d.k w.drew hlen hc (dsrt_keys hs)
  clear hS ht hO hn hs hb hk hc
  go_enter Tryz.func120, Tryz.ntmps120
  go_wp2_with fail
  go_region_held3 (fun w' => w'.cell? ⟨t, 0, none⟩ = some (.slice vp ns.length vc) ∧ w'.cell? ⟨b, 0, none⟩ = some (.int .i64 d.k)) (first | go_keep | exact ⟨hk1.out.cell ct (fun f => f), hk1.out.cell cb (fun f => f)⟩)
    (first | (go_at_call 127; refine HS.out.mono ?_; rintro e w1 ⟨p, hp, h1, h2, rfl, hB1⟩; have hk1 : Hid (Keeps (fun _ => False) w w1) := Keeps.ofDrew (Keeps.of_new hB1); have H1 := Lib.hid h1; clear h1; have H2 := Lib.hid h2; clear h2 hB1))
  have HPP := Lib.hid (HPI.out p w1 hp hk1.out)
  clear ct cb
  go_wp2_with fail
  refine HPP.out.mono ?_
  rintro e w2 hi
  have HN := Lib.hid (HCL.out p w1 w2 e hp H1.out H2.out hk1.out hi)
  obtain ⟨rfl, _⟩ := hi
  clear HPP HPI HCL
  go_wp2_with fail
  go_ret
  exact HN.out
end Go.Proofs.YtegejfhomocloaaGreat

namespace Go.Proofs.YtegejfhomocloaaGreat
open Go.RowKit

/-- A dot put into a range tree. -/
def DotAdd (B t : Nat) (v : Value) (ns : List Nd) (d : Dot) (w : World) (e : Ending) (w' : World) : Prop :=
  e = .returned (.pointer none) ∧ ∃ v' ns', RTree B w' t v' ns' ∧ (ns'.map (·.d)).Perm (d :: ns.map (·.d)) ∧ ns'.length = ns.length + 1 ∧ (∀ y, v'.ownBlock = some y → v.ownBlock = some y ∨ w.heap.size ≤ y) ∧ Keeps (fun y => y = t ∨ v.ownBlock = some y) w w'

theorem RTree.keeps {B t : Nat} {v : Value} {ns : List Nd} {w w' : World} {F : Nat → Prop} (h : RTree B w t v ns) (k : Keeps F w w') (ht : ¬ F t) (hv : ∀ y, v.ownBlock = some y → ¬ F y) (hn : ∀ x ∈ ns, ¬ F x.b) : RTree B w' t v ns := by
  obtain ⟨num, pv, h1, h2, h3, h4, h5⟩ := h
  exact ⟨num, pv, k.heap h1 ht, k.row h2 hv, fun x hx => ⟨(h3 x hx).1.keeps k (hn x hx), (h3 x hx).2⟩, h4, h5⟩

theorem RTree.bump {B t : Nat} {v : Value} {ns : List Nd} {w : World} (h : RTree B w t v ns) (num : Int) : RTree B (w.setCell ⟨t, 1, none⟩ (.int .u64 num)) t v ns := by
  obtain ⟨n0, pv, h1, h2, h3, h4, h5⟩ := h
  refine ⟨num, pv, heap_setCell_same w t 1 _ _ _ h1, ownsRow_setCell_other h2 (a := ⟨t, 1, none⟩) (row_ne_tree h1 h2) _, fun x hx => ⟨set_heap w ⟨t, 1, none⟩ _ (h3 x hx).1 (nd_ne_tree h1 (h3 x hx).1), (h3 x hx).2⟩, h4, h5⟩

set_option maxRecDepth 100000 in
set_option maxHeartbeats 800000 in
theorem dotAdd111 (B t : Nat) (d : Dot) (v : Value) (ns : List Nd) (w : World) (hT : RTree B w t v ns) (ck : w.cell? ⟨d.a, 0, none⟩ = some (.int .i64 d.k)) (hlen : ns.length ≤ 99) (hk : ∀ x ∈ ns, x.d.k ≠ d.k) :
    Calls Tryz.prog 111 #[.pointer (some ⟨t, 0, none⟩), dotV d] w (DotAdd B t v ns d w) := by
  show Calls Tryz.prog 111 #[.pointer (some ⟨t, 0, none⟩), .iface 162 (.agg #[.slice (some ⟨d.a, 0, none⟩) 1 1, .int .i64 d.v])] w (DotAdd B t v ns d w)
  obtain ⟨num, pv, ht, hO, hn, hs, hB⟩ := id hT
  have c2 : w.cell? ⟨t, 2, none⟩ = some (.int .u64 1) := cell_at ht 2
  have htl := lt_of_block ht
  have HV := Lib.hid (value164 d w ck)
  have HT := Lib.hid hT; clear hT
  have HK := Lib.hid hk; clear hk
  clear hO hn hs ht ck
  go_enter Tryz.func111, Tryz.ntmps111
  go_wp2_with fail
  go_loopg [5, 6, 7] 1 (fun kx s5 s6 s7 wr => s5 = .pointer none ∧ s6 = .pointer (some ⟨t, 0, none⟩) ∧ s7 = .int .u64 1 ∧ wr = w ∧ 1 ≤ kx)
  case atStart => exact ⟨rfl, rfl, rfl, rfl, Nat.le_refl _⟩
  case round =>
    obtain ⟨rfl, rfl, rfl, rfl, hkx⟩ := hrel
    go_wp2_with (first | (go_at_call 119; refine (last119 _).mono ?_; rintro e w' ⟨rfl, rfl⟩))
    refine HV.out.mono ?_
    rintro e w1 ⟨rfl, hB1⟩
    have HK1 := Lib.hid (Keeps.of_new (F := fun _ => False) hB1); clear hB1 HV
    go_wp2_with fail
    refine (newNd d _).mono ?_
    rintro e w2 ⟨b, rfl, hb, hN, hK2⟩
    have hz1 := HK1.out.size
    have HK2 := Lib.hid (HK1.out.trans hK2 (fun _ _ f => f)); clear hK2
    have hT2 := HT.out.keeps HK2.out (fun f => f) (fun _ _ f => f) (fun _ _ f => f)
    have HA := Lib.hid (nodesAdd120 B t b d v ns w2 hT2 ⟨hN, by omega⟩ (by omega) HK.out)
    clear hT2 hN
    go_wp2_with fail
    refine HA.out.mono ?_
    rintro e w3 ⟨rfl, v', p, hp, hT3, hv', hK3⟩
    have hz2 := HK2.out.size
    have HK3 := Lib.hid ((HK2.out.mono (G := fun y => y = t ∨ v.ownBlock = some y) (fun _ _ f => f.elim)).trans hK3 (fun b hb h => h)); clear hK3
    have HT3 := Lib.hid hT3
    obtain ⟨num3, pv3, ht3, _, _, _, _⟩ := hT3
    have c31 : w3.cell? ⟨t, 1, none⟩ = some (.int .u64 num3) := cell_at ht3 1
    have f31 : w3.frozen? ⟨t, 1, none⟩ = false := free_at ht3 1
    have HV3 := Lib.hid hv'; clear hv'
    clear ht3 HA c2
    go_wp2_with fail
    go_ret
    refine ⟨rfl, v', ins ns p ⟨b, d⟩, HT3.out.bump _, ?_, ins_length _ _ _ hp, fun y hy => ?_, HK3.out.setIn t 1 _ (.inl rfl)⟩
    · rw [← ins_map (fun x : Nd => x.d) ns p ⟨b, d⟩]; exact ins_perm _ _ _
    · rcases HV3.out y hy with h | h
      · exact .inl h
      · exact .inr (by omega)
end Go.Proofs.YtegejfhomocloaaGreat

namespace Go.Proofs.YtegejfhomocloaaGreat
open Go.RowKit

theorem info122 : (Tryz.prog.info? 122).map (fun i => (i.zero, i.size, i.bytes)) = some (some .nilIface, 1, 16) := by kernel_rfl

/-- Dots in their places in memory. -/
def DotsAt (w : World) (ds : List Dot) : Prop := ∀ d ∈ ds, w.cell? ⟨d.a, 0, none⟩ = some (.int .i64 d.k)
theorem DotsAt.keeps {w w' : World} {ds : List Dot} {F : Nat → Prop} (h : DotsAt w ds) (k : Keeps F w w') (hF : ∀ d ∈ ds, ¬ F d.a) : DotsAt w' ds := fun d hd => k.cell (h d hd) (hF d hd)

/-- Dots put into a range tree: a slice of nothings. -/
def DotsAdd (B t : Nat) (v : Value) (ds : List Dot) (w : World) (e : Ending) (w' : World) : Prop :=
  ∃ g : Nat, e = .returned (.slice (some ⟨g, 0, none⟩) ds.length ds.length) ∧ w.heap.size ≤ g ∧ w'.ownsRow 0 122 1 (.slice (some ⟨g, 0, none⟩) ds.length ds.length) ds.length (List.replicate ds.length .nilIface) ∧
    ∃ v' ns', RTree B w' t v' ns' ∧ (ns'.map (·.d)).Perm ds ∧ Keeps (fun y => y = t ∨ v.ownBlock = some y) w w'

/-- Behind some rounds. -/
def AddRel (B t g : Nat) (v : Value) (ds : List Dot) (w w1 : World) (j : Nat) (wr : World) : Prop :=
  wr.ownsRow w.heap.size 122 1 (.slice (some ⟨g, 0, none⟩) ds.length ds.length) ds.length (List.replicate ds.length .nilIface) ∧
    ∃ v' ns', RTree B wr t v' ns' ∧ (ns'.map (·.d)).Perm (ds.take j) ∧ (∀ y, v'.ownBlock = some y → v.ownBlock = some y ∨ w1.heap.size ≤ y) ∧ Keeps (fun y => y = t ∨ v.ownBlock = some y) w1 wr

theorem fresh_dot {ds : List Dot} {j : Nat} {L : List Dot} {d : Dot} (hd : ds[j]? = some d) (hx : (ds.map (·.k)).Nodup) (hp : L.Perm (ds.take j)) : ∀ x ∈ L, x.k ≠ d.k := by
  intro x hxL e
  have hm := hp.mem_iff.1 hxL
  obtain ⟨i, hi, rfl⟩ := List.getElem_of_mem hm
  obtain ⟨hj, rfl⟩ := List.getElem?_eq_some_iff.1 hd
  rw [List.length_take] at hi
  rw [List.getElem_take] at e
  have h1 := List.pairwise_iff_getElem.1 hx i j (by simp; omega) (by simpa using hj) (by omega)
  apply h1
  rw [List.getElem_map, List.getElem_map]
  exact e

theorem AddRel.step {B t g : Nat} {v v' : Value} {ds : List Dot} {ns' : List Nd} {d : Dot} {w w1 wr w2 : World} {j : Nat} {e : Ending} (hd : ds[j]? = some d) (hO : wr.ownsRow w.heap.size 122 1 (.slice (some ⟨g, 0, none⟩) ds.length ds.length) ds.length (List.replicate ds.length .nilIface))
    (hp : (ns'.map (·.d)).Perm (ds.take j)) (hv' : ∀ y, v'.ownBlock = some y → v.ownBlock = some y ∨ w1.heap.size ≤ y) (hK : Keeps (fun y => y = t ∨ v.ownBlock = some y) w1 wr) (hgl : g < w1.heap.size) (hgt : g ≠ t) (hgv : v.ownBlock ≠ some g) (hi : DotAdd B t v' ns' d wr e w2) : AddRel B t g v ds w w1 (j + 1) w2 := by
  obtain ⟨_, v2, ns2, hT2, hp2, _, hv2, hK2⟩ := hi
  have hz := hK.size
  refine ⟨hK2.row hO (ownNot (fun h => h.elim hgt (fun h => ?_))), v2, ns2, hT2, ?_, fun y hy => ?_, hK.trans hK2 (fun b hb h => h.elim .inl (fun h => ?_))⟩
  · rcases hv' g h with h | h
    · exact hgv h
    · omega
  · obtain ⟨hj, rfl⟩ := List.getElem?_eq_some_iff.1 hd
    rw [List.take_succ_eq_append_getElem hj]
    exact hp2.trans ((List.Perm.cons _ hp).trans (List.perm_append_singleton _ _).symm)
  · rcases hv2 y hy with h | h
    · exact hv' y h
    · exact .inr (by omega)
  · rcases hv' b h with h | h
    · exact .inr h
    · omega

set_option maxRecDepth 100000 in
set_option maxHeartbeats 800000 in
theorem add103 (B t g n cap : Nat) (v : Value) (ds : List Dot) (w : World) (hT : RTree B w t v []) (hn : ds.length = n) (h0 : 0 < n) (hlen : n ≤ 40) (hrow : w.ownsRow 0 122 1 (.slice (some ⟨g, 0, none⟩) n cap) n (ds.map dotV)) (hD : DotsAt w ds)
    (hx : (ds.map (·.k)).Nodup) (hg : g ≠ t ∧ v.ownBlock ≠ some g) (hda : ∀ d ∈ ds, d.a ≠ t ∧ v.ownBlock ≠ some d.a) :
    Calls Tryz.prog 103 #[.pointer (some ⟨t, 0, none⟩), .slice (some ⟨g, 0, none⟩) n cap] w (DotsAdd B t v ds w) := by
  obtain ⟨i0, hi0, hiz, his, hib⟩ := info_parts info122
  have hin : ((n : Int) == 0) = false := by simp; omega
  have HT := Lib.hid hT; clear hT
  have HN := Lib.hid hn; clear hn
  have HR := Lib.hid hrow; clear hrow
  have HD := Lib.hid hD; clear hD
  have HX := Lib.hid hx; clear hx
  have HG := Lib.hid hg; clear hg
  have HDA := Lib.hid hda; clear hda
  go_enter Tryz.func103, Tryz.ntmps103
  have HB := Lib.hid (show i0.bytes * n ≤ 281474976710656 by rw [hib]; omega)
  have hmx : n ≤ maxLen := by simp only [maxLen]; omega
  go_wp2_with (at_make; refine wpList_make_full _ rfl _ _ 113 rfl w.heap.size 122 i0 .nilIface 1 Tryz.underlying113 hi0 hiz his .i64 .i64 _ _ n rfl rfl rfl rfl HB.out hmx (Nat.le_refl _) ?_; intro w1 hO1 hg1; have HO1 := Lib.hid hO1; clear hO1; have HG1 := Lib.hid hg1; clear hg1)
  have hO1 := HO1.out
  rw [show (madeCells Value.nilIface.cells (n * 1)).toList = List.replicate n .nilIface by rw [Nat.mul_one]; exact toList_madeCells_one _ _] at hO1
  rw [← HN.out] at hO1
  have hz1 := HG1.out.size
  obtain ⟨gl, hgl⟩ : ∃ gl, gl = w.heap.size := ⟨_, rfl⟩
  have hK1 : Keeps (fun _ => False) w w1 := Keeps.grownNone (Keeps.refl _ _) HG1.out
  have hT1 := HT.out.keeps hK1 (fun f => f) (fun _ _ f => f) (fun _ _ f => f)
  have htl : t < w.heap.size := by obtain ⟨_, _, h, _⟩ := HT.out; exact lt_of_block h
  have hvl : ∀ y, v.ownBlock = some y → y < w.heap.size := by obtain ⟨_, _, _, h, _⟩ := HT.out; exact fun y hy => (h.lt y hy).2
  have hal : ∀ d ∈ ds, d.a < w.heap.size := fun d hd => World.block_lt_of_cell? w _ (HD.out d hd)
  have hg1 := (HR.out.lt g rfl).2
  have HK1 := Lib.hid hK1; clear hK1
  have HAT : Hid (AddRel B t w.heap.size v ds w w1 0 w1) := ⟨hO1, v, [], hT1, List.Perm.refl _, fun y hy => .inl hy, Keeps.refl _ _⟩
  have hglt : w.heap.size < w1.heap.size := (hO1.lt _ rfl).2
  have HVL := Lib.hid hvl; clear hvl hO1 hT1
  have HAL := Lib.hid hal; clear hal HO1 hgl
  go_loopg [17] n (fun kx s17 wr => ∃ j : Nat, s17 = .int .i64 j ∧ j ≤ n ∧ n - j ≤ kx ∧ Hid (AddRel B t w.heap.size v ds w w1 j wr))
  case atStart => exact ⟨0, rfl, Nat.zero_le _, by omega, HAT.out⟩
  case round =>
    obtain ⟨j, rfl, hj, hgk, hrel⟩ := hrel
    by_cases hlt : j < n
    · obtain ⟨hO, v', ns', hT, hp, hv', hK⟩ := hrel.out
      have hjx : j < ds.length := by rw [HN.out]; exact hlt
      obtain ⟨d, hd⟩ : ∃ d, ds[j]? = some d := ⟨ds[j], List.getElem?_eq_getElem hjx⟩
      have hdm := List.mem_of_getElem? hd
      have hnb : ∀ y, y < w.heap.size → y ≠ t → v.ownBlock ≠ some y → ¬ (y = t ∨ v.ownBlock = some y) := fun y _ h1 h2 h => h.elim h1 h2
      have cj : wr.cell? ⟨g, j, none⟩ = some (.iface 162 (.agg #[.slice (some ⟨d.a, 0, none⟩) 1 1, .int .i64 d.v])) := by
        have h9 := hK.row (HK1.out.row HR.out (ownNot fun f => f)) (ownNot (fun h => h.elim HG.out.1 HG.out.2))
        rw [h9.cellAt j (by omega), List.getElem?_map, hd]; rfl
      have hck := hK.cell (HK1.out.cell (HD.out d hdm) (fun f => f)) (fun h => h.elim (HDA.out d hdm).1 (HDA.out d hdm).2)
      have hnl : ns'.length = j := by have := hp.length_eq; rw [List.length_map, List.length_take] at this; omega
      have HA := Lib.hid (dotAdd111 B t d v' ns' wr hT hck (by omega) (fun x hx => fresh_dot hd HX.out hp x.d (List.mem_map.2 ⟨x, hx, rfl⟩)))
      have HS := Lib.hid (fun (e : Ending) (w2 : World) (hi : DotAdd B t v' ns' d wr e w2) => AddRel.step hd hO hp hv' hK hglt (by omega) (fun h => absurd (HVL.out _ h) (Nat.lt_irrefl _)) hi)
      clear hT hp hv' hK hO hck hnb hd hdm hnl hrel
      go_wp2_with fail
      refine HA.out.mono ?_
      rintro e w2 hi
      have HS2 := Lib.hid (HS.out e w2 hi)
      obtain ⟨rfl, _⟩ := hi
      clear HA HS cj
      go_wp2_with fail
      go_roundg (n - (j + 1))
      case measure => omega
      case rel => exact ⟨j + 1, rfl, by omega, Nat.le_refl _, HS2⟩
    · obtain rfl : j = n := by omega
      go_wp2_with fail
      go_ret
      obtain ⟨hO, v', ns', hT, hp, hv', hK⟩ := hrel.out
      rw [List.take_of_length_le (by rw [HN.out]; exact Nat.le_refl _)] at hp
      exact ⟨w.heap.size, by rw [HN.out]; rfl, Nat.le_refl _, ownsBase hO, v', ns', hT, hp, (HK1.out.mono (fun _ _ f => f.elim)).trans hK (fun b hb h => h)⟩
end Go.Proofs.YtegejfhomocloaaGreat

namespace Go.Proofs.YtegejfhomocloaaGreat
open Go.RowKit

/-- Dots in a row: two cells each. -/
def dotCells (ds : List Dot) : List Value := ds.flatMap fun d => [.slice (some ⟨d.a, 0, none⟩) 1 1, .int .i64 d.v]

theorem row_dot {w : World} {g n cap : Nat} {ds : List Dot} (h : w.ownsRow 0 36 2 (.slice (some ⟨g, 0, none⟩) n cap) n (dotCells ds)) {i : Nat} {d : Dot} (hd : ds[i]? = some d) (hi : i < n) :
    w.cell? ⟨g, i * 2, none⟩ = some (.slice (some ⟨d.a, 0, none⟩) 1 1) ∧ w.cell? ⟨g, i * 2 + 1, none⟩ = some (.int .i64 d.v) := by
  obtain ⟨hl, rfl⟩ := List.getElem?_eq_some_iff.1 hd
  have h2 := two_cells (fun x : Dot => Value.slice (some ⟨x.a, 0, none⟩) 1 1) (fun x => Value.int .i64 x.v) ds i hl
  rw [h.cellAt _ (by omega), h.cellAt _ (by omega), Nat.mul_comm i 2]
  exact h2

/-- Entries made of dots. -/
def EntriesMade (ds : List Dot) (w : World) (e : Ending) (w' : World) : Prop :=
  ∃ g cap : Nat, e = .returned (.slice (some ⟨g, 0, none⟩) ds.length cap) ∧ w.heap.size ≤ g ∧ w'.ownsRow w.heap.size 122 1 (.slice (some ⟨g, 0, none⟩) ds.length cap) ds.length (ds.map dotV) ∧ Keeps (fun _ => False) w w'

set_option maxRecDepth 100000 in
set_option maxHeartbeats 800000 in
theorem dots33 (g n cap : Nat) (ds : List Dot) (w : World) (hn : ds.length = n) (h0 : 0 < n) (hlen : n ≤ 40) (hrow : w.ownsRow 0 36 2 (.slice (some ⟨g, 0, none⟩) n cap) n (dotCells ds)) :
    Calls Tryz.prog 33 #[.slice (some ⟨g, 0, none⟩) n cap] w (EntriesMade ds w) := by
  obtain ⟨i0, hi0, hiz, his, hib⟩ := info_parts info122
  have HR := Lib.hid hrow; clear hrow
  have HN := Lib.hid hn; clear hn
  have hgl := (HR.out.lt g rfl).2
  go_enter Tryz.func33, Tryz.ntmps33
  go_wp2_with fail
  go_loopg [3, 8] n (fun kx s3 s8 wr => ∃ j : Nat, s8 = .int .i64 j ∧ j ≤ n ∧ n - j ≤ kx ∧ Hid (wr.ownsRow w.heap.size 122 1 s3 j ((ds.take j).map dotV)) ∧ Hid (Keeps (fun _ => False) w wr))
  case atStart => exact ⟨0, rfl, Nat.zero_le _, by omega, World.ownsRow_nil _ _ _ _, Keeps.refl _ _⟩
  case round =>
    obtain ⟨j, rfl, hj, hg, hO, hK⟩ := hrel
    by_cases hlt : j < n
    · have hrow := hK.out.row HR.out (ownNot (fun f => f))
      have hjx : j < ds.length := by rw [HN.out]; exact hlt
      obtain ⟨d, hd⟩ : ∃ d, ds[j]? = some d := ⟨ds[j], List.getElem?_eq_getElem hjx⟩
      obtain ⟨cj0, cj1⟩ := row_dot hrow hd hlt
      have hzr := hK.out.size
      clear hrow hjx
      have HD := Lib.hid hd; clear hd
      go_wp2_with (at_builtin; (refine wpList_append_lies _ rfl (.tmp 12) (.tmp 16) 112 rfl w.heap.size 122 i0 .nilIface 1 16 Tryz.underlying112 hi0 hiz his hib rfl (by omega) u3 j _ rfl ((hO.out.alloc _).alloc _) ⟨wr.heap.size + 1, 0, none⟩ 1 1 [dotV d] rfl (by rfl) (cell_new_at (by simp)) (one_of rfl) (by omega) (by simp only [maxLen]; omega) (by omega) (by simp; omega) _ rfl ?_); intro g' cap' w1 hO1 hg1 hat hlt1; clear hat; have HO1 := Lib.hid hO1; clear hO1; have HK1 := Lib.hid (((hK.out.alloc _).alloc _).grown hg1 (rowNew hO.out)); clear hg1)
      go_roundg (n - (j + 1))
      case measure => omega
      case rel =>
        refine ⟨j + 1, by go_num, by omega, Nat.le_refl _, ?_, HK1⟩
        have h3 := HO1.out
        obtain ⟨hjl, rfl⟩ := List.getElem?_eq_some_iff.1 HD.out
        rw [show (ds.take j).map dotV ++ [dotV ds[j]] = (ds.take (j + 1)).map dotV by rw [List.take_succ_eq_append_getElem hjl, List.map_append]; rfl] at h3
        exact h3
    · obtain rfl : j = n := by omega
      have hO2 := hO.out
      rw [List.take_of_length_le (by rw [HN.out]; exact Nat.le_refl _)] at hO2
      obtain ⟨g', cap', rfl, hb, hl⟩ := hO2.form h0
      have HO2 := Lib.hid hO2; clear hO2
      go_wp2_with fail
      go_ret
      refine ⟨g', cap', by rw [HN.out]; rfl, hb, by rw [HN.out]; exact HO2.out, hK.out⟩
end Go.Proofs.YtegejfhomocloaaGreat
