/- A part of the proof of FnRoadOrder: the sparse bit array: blocks. No conditions but those of the theorems. -/
import Derived.Test.YtegejfhomocloaaGreatJ6
import Derived.Test.YtegejfhomocloaaGreatJ7
import Derived.Laws.Bits64b
set_option linter.all false
namespace Go.Proofs.YtegejfhomocloaaGreat
open Go.RowKit

set_option maxRecDepth 100000 in
set_option maxHeartbeats 400000 in
theorem over242 (ps pv g n cap i : Nat) (K k : Int) (w : World) (hi : i < n) (cs : w.cell? ⟨ps, 0, none⟩ = some (.slice (some ⟨g, 0, none⟩) n cap)) (cv : w.cell? ⟨pv, 0, none⟩ = some (.int .u64 k))
    (cg : w.cell? ⟨g, i, none⟩ = some (.int .u64 K)) :
    Calls Tryz.prog 242 #[.int .i64 i, .pointer (some ⟨ps, 0, none⟩), .pointer (some ⟨pv, 0, none⟩)] w fun e w' => e = .returned (.bool (decide (k ≤ K))) ∧ Below w.heap.size w w' := by
  have hk := Keeps.refl (fun _ => False) w
  go_enter Tryz.func242, Tryz.ntmps242
  go_wp2_with fail
  go_quiet (fail)
  go_wp2_with fail
  go_ret
  exact ⟨rfl, (hk.drewN _).below (Nat.le_refl _) (fun _ _ f => f)⟩

set_option maxRecDepth 100000 in
set_option maxHeartbeats 400000 in
theorem search130u (ps pv n cap : Nat) (vp : Option Addr) (K : Nat → Int) (k : Int) (w : World) (hn : n ≤ 100) (cs : w.cell? ⟨ps, 0, none⟩ = some (.slice vp n cap)) (cv : w.cell? ⟨pv, 0, none⟩ = some (.int .u64 k))
    (hc : ∀ i, i < n → ∃ g, vp = some ⟨g, 0, none⟩ ∧ w.cell? ⟨g, i, none⟩ = some (.int .u64 (K i))) (hmono : ∀ i j, i < j → j < n → K i < K j) :
    Calls Tryz.prog 130 #[.int .i64 n, .func (.func 242) #[] #[.pointer (some ⟨ps, 0, none⟩), .pointer (some ⟨pv, 0, none⟩)]] w (FoundAt n K k w) := by
  have HC := Lib.hid hc; clear hc
  have HM := Lib.hid hmono; clear hmono
  have HS := Lib.hid cs; clear cs
  have HV := Lib.hid cv; clear cv
  go_enter Tryz.func130, Tryz.ntmps130
  go_wp2_with fail
  go_loopg [5, 6] n (fun kx s5 s6 wr => ∃ lo hi : Nat, s5 = .int .i64 lo ∧ s6 = .int .i64 hi ∧ lo ≤ hi ∧ hi ≤ n ∧ hi - lo ≤ kx ∧ Hid (SInv n K k lo hi) ∧ Hid (Keeps (fun _ => False) w wr))
  case atStart => exact ⟨0, n, rfl, rfl, by omega, by omega, by omega, ⟨by omega, by omega, fun i hi => by omega, fun i hi hin => by omega⟩, Keeps.refl _ _⟩
  case round =>
    obtain ⟨lo, hi, rfl, rfl, hle, hhn, hg, I, hK⟩ := hrel
    by_cases hlt : lo < hi
    · obtain ⟨m, hm⟩ : ∃ m : Nat, (lo + hi) / 2 = m := ⟨_, rfl⟩
      have hm1 : lo ≤ m := by omega
      have hm2 : m < hi := by omega
      obtain ⟨g, hg', hc1⟩ := HC.out m (by omega)
      subst hg'
      have hov := over242 ps pv g n cap m (K m) k wr (by omega) (hK.out.cell HS.out (fun f => f)) (hK.out.cell HV.out (fun f => f)) (hK.out.cell hc1 (fun f => f))
      clear hc1
      have hmi : ((lo : Int) + (hi : Int)) / 2 = (m : Int) := by omega
      go_wp2_with fail
      refine hov.mono ?_
      rintro e w2 ⟨rfl, hB⟩
      clear hov
      have HK2 := Lib.hid (hK.out.new hB); clear hB
      by_cases hc : k ≤ K m
      · have hd : decide (k ≤ K m) = true := by simp [hc]
        have I2 : Hid (SInv n K k lo m) := ⟨by omega, by omega, I.out.2.2.1, fun i hi' hin => by
          rcases Nat.lt_or_ge m i with h | h
          · have := HM.out m i h hin; omega
          · obtain rfl : i = m := by omega
            exact hc⟩
        clear hc
        go_wp2_with fail
        go_roundg (m - lo)
        case measure => omega
        case rel => exact ⟨lo, m, rfl, rfl, by omega, by omega, Nat.le_refl _, I2, HK2⟩
      · have hd : decide (k ≤ K m) = false := by simp; omega
        have I2 : Hid (SInv n K k (m + 1) hi) := ⟨by omega, by omega, fun i hi' => by
          rcases Nat.lt_or_ge i m with h | h
          · have := HM.out i m h (by omega); omega
          · obtain rfl : i = m := by omega
            omega, I.out.2.2.2⟩
        clear hc
        go_wp2_with fail
        go_roundg (hi - (m + 1))
        case measure => omega
        case rel => exact ⟨m + 1, hi, rfl, rfl, by omega, by omega, Nat.le_refl _, I2, HK2⟩
    · obtain rfl : lo = hi := by omega
      go_wp2_with fail
      go_ret
      exact ⟨lo, hhn, I.out.2.2.1, I.out.2.2.2, rfl, hK.out.below (Nat.le_refl _) (fun _ _ f => f)⟩

set_option maxRecDepth 100000 in
set_option maxHeartbeats 400000 in
theorem search235 (n cap : Nat) (vp : Option Addr) (K : Nat → Int) (k : Int) (w : World) (hn : n ≤ 100)
    (hc : ∀ i, i < n → ∃ g, vp = some ⟨g, 0, none⟩ ∧ w.cell? ⟨g, i, none⟩ = some (.int .u64 (K i))) (hmono : ∀ i j, i < j → j < n → K i < K j) :
    Calls Tryz.prog 235 #[.slice vp n cap, .int .u64 k] w (FoundAt n K k w) := by
  have HK := Lib.hid (((Keeps.refl (fun _ => False) w).alloc (.cells #[.slice vp n cap] 239)).alloc (.cells #[.int .u64 k] 25))
  have HS := Lib.hid (search130u w.heap.size (w.heap.size + 1) n cap vp K k ((w.alloc (.cells #[.slice vp n cap] 239)).alloc (.cells #[.int .u64 k] 25)) hn
    (cell_at (alloc_heap _ _ (heap_alloc_new w _)) 0) (cell_at (alloc_at (w.alloc _) _ (w.heap.size + 1) (by simp)) 0) (fun i hi => (hc i hi).imp fun g h => ⟨h.1, HK.out.cell h.2 (fun f => f)⟩) hmono)
  clear hc hmono
  go_enter Tryz.func235, Tryz.ntmps235
  go_wp2_with fail
  refine HS.out.mono ?_
  rintro e w1 ⟨p, hp, h1, h2, rfl, hB⟩
  have H := Lib.hid (⟨h1, h2⟩ : (∀ i, i < p → K i < k) ∧ (∀ i, p ≤ i → i < n → k ≤ K i)); clear h1 h2 HS
  have HK1 := Lib.hid (HK.out.new hB); clear hB
  go_wp2_with fail
  go_ret
  exact ⟨p, hp, H.out.1, H.out.2, rfl, HK1.out.below (Nat.le_refl _) (fun _ _ f => f)⟩
end Go.Proofs.YtegejfhomocloaaGreat

namespace Go.Proofs.YtegejfhomocloaaGreat
open Go.RowKit

theorem info25 : (Tryz.prog.info? 25).map (fun i => (i.zero, i.size, i.bytes)) = some (some (.int .u64 0), 1, 8) := by kernel_rfl
theorem info187 : (Tryz.prog.info? 187).map (fun i => (i.zero, i.size, i.bytes)) = some (some (.int .u64 0), 1, 8) := by kernel_rfl
def u64V (k : Int) : Value := .int .u64 k
theorem u64V_one (bs : List Int) : ∀ u ∈ bs.map u64V, u.oneCell' = true := by
  intro u hu
  obtain ⟨x, _, rfl⟩ := List.mem_map.1 hu
  rfl
def uOf (xs : List Int) (i : Nat) : Int := xs.getD i 0
theorem u64_cells {B e : Nat} {w : World} {v : Value} {xs : List Int} (ho : w.ownsRow B e 1 v xs.length (xs.map u64V)) :
    ∃ vp vc, v = .slice vp xs.length vc ∧ ∀ i, i < xs.length → ∃ g, vp = some ⟨g, 0, none⟩ ∧ w.cell? ⟨g, i, none⟩ = some (.int .u64 (uOf xs i)) := by
  obtain ⟨vp, vc, rfl⟩ := ownsSlice ho
  refine ⟨vp, vc, rfl, fun i hi => ?_⟩
  obtain ⟨g, gc, hg, _, _⟩ := ho.form (by omega)
  injection hg with h1 _ h3
  subst h1 h3
  refine ⟨g, rfl, ?_⟩
  rw [ho.cellAt i (by omega), List.getElem?_map, uOf, List.getD_eq_getElem?_getD, List.getElem?_eq_getElem hi]; rfl

/-- A row behind a field, one place longer. -/
def RowIns (t po E : Nat) (cs : Array Value) (v : Value) (n : Nat) (xs : List Int) (i : Nat) (x : Int) (w w' : World) : Prop :=
  ∃ v', w'.heap[t]? = some (.cells (cs.setIfInBounds po v') 241 (0, 0)) ∧ w'.ownsRow 0 E 1 v' (n + 1) ((ins xs i x).map u64V) ∧
    (∀ y, v'.ownBlock = some y → v.ownBlock = some y ∨ w.heap.size ≤ y) ∧ Keeps (fun y => y = t ∨ v.ownBlock = some y) w w'

set_option maxRecDepth 100000 in
set_option maxHeartbeats 400000 in
theorem blockEnd240 (t n : Nat) (bs : List Int) (cs : Array Value) (v : Value) (w : World) (ht : w.heap[t]? = some (.cells cs 241 (0, 0))) (hv : cs[0]? = some v) (hO : w.ownsRow 0 187 1 v n (bs.map u64V)) (hlen : n ≤ 100)
    (hne : v.ownBlock ≠ some t) : Calls Tryz.prog 240 #[.pointer (some ⟨t, 0, none⟩), .int .i64 n] w fun e w' => e = .returned (.tuple #[]) ∧ RowIns t 0 187 cs v n bs n 0 w w' := by
  obtain ⟨i0, hi0, hiz, his, hib⟩ := info_parts info187
  have c0 : w.cell? ⟨t, 0, none⟩ = some v := (cell_at ht 0).trans hv
  have f0 : w.frozen? ⟨t, 0, none⟩ = false := free_at ht 0
  obtain ⟨vp, vc, rfl⟩ := ownsSlice hO
  have htl := lt_of_block ht
  have HT := Lib.hid ht; clear ht
  have HO := Lib.hid hO; clear hO
  have HNE := Lib.hid hne; clear hne
  have HV := Lib.hid hv; clear hv
  go_enter Tryz.func240, Tryz.ntmps240
  go_wp2_with (at_builtin; refine wpList_append_lies _ rfl (.tmp 13) (.tmp 14) 238 rfl 0 187 i0 _ 1 8 Tryz.underlying238 hi0 hiz his hib rfl (by omega) (.slice vp n vc) n _ rfl (HO.out.alloc _) ⟨w.heap.size, 0, none⟩ 1 1 [.int .u64 0] rfl (by rfl) (cell_one_new _ _ _) (one_of rfl) (by omega) (by simp only [maxLen]; omega) (by omega) (by omega) _ rfl ?_; intro g cap w1 hO1 hg1 hat hlt; have HAT := Lib.hid hat; clear hat; have hT1 := grown_heap hg1 (alloc_heap _ _ HT.out) (Ne.symm HNE.out); clear c0 f0; have c1 : w1.cell? ⟨t, 0, none⟩ = some (.slice vp n vc) := (cell_at hT1 0).trans HV.out; have f1 : w1.frozen? ⟨t, 0, none⟩ = false := free_at hT1 0; have HT1 := Lib.hid hT1; clear hT1; have HO1 := Lib.hid hO1; clear hO1; have HG1 := Lib.hid hg1; clear hg1)
  refine bodyPost_ret (results_none rfl _ _ _) rfl ?_
  have hl := HO.out.1
  rw [List.length_map] at hl
  have hgt : g ≠ t := by
    rcases HAT.out with h | h
    · intro e; exact HNE.out (e ▸ h)
    · simp at h; omega
  refine ⟨rfl, _, heap_setCell_same w1 t 0 _ _ _ HT1.out, ?_, fun y hy => ?_, ((Keeps.alloc (Keeps.refl _ _) _).grown HG1.out (fun b hb _ => .inr hb)).setIn t 0 _ (.inl rfl)⟩
  · have : ins bs n 0 = bs ++ [0] := by simp [ins, List.take_of_length_le (show bs.length ≤ n by omega), List.drop_eq_nil_of_le (show bs.length ≤ n by omega)]
    rw [this, List.map_append]
    exact ownsRow_setCell_other HO1.out (a := ⟨t, 0, none⟩) (ne_row hgt) _
  · have hy' : g = y := Option.some.inj hy
    subst hy'
    rcases HAT.out with h | h
    · exact .inl h
    · simp at h; right; omega

set_option maxRecDepth 100000 in
set_option maxHeartbeats 400000 in
theorem blockMid240 (t n i : Nat) (xs : List Int) (cs : Array Value) (v : Value) (w : World) (ht : w.heap[t]? = some (.cells cs 241 (0, 0))) (hv : cs[0]? = some v) (hO : w.ownsRow 0 187 1 v n (xs.map u64V)) (hlen : n ≤ 100)
    (hne : v.ownBlock ≠ some t) (hi : i < n) : Calls Tryz.prog 240 #[.pointer (some ⟨t, 0, none⟩), .int .i64 i] w fun e w' => e = .returned (.tuple #[]) ∧ RowIns t 0 187 cs v n xs i 0 w w' := by
  obtain ⟨i0, hi0, hiz, his, hib⟩ := info_parts info187
  have c0 : w.cell? ⟨t, 0, none⟩ = some v := (cell_at ht 0).trans hv
  have f0 : w.frozen? ⟨t, 0, none⟩ = false := free_at ht 0
  obtain ⟨g0, vc, rfl, hg0, hg0l⟩ := hO.form (by omega)
  have htl := lt_of_block ht
  have hin : ((i : Int) == (n : Int)) = false := by simp; omega
  have HT := Lib.hid ht; clear ht
  have HO := Lib.hid hO; clear hO
  have HNE := Lib.hid hne; clear hne
  have HV := Lib.hid hv; clear hv
  go_enter Tryz.func240, Tryz.ntmps240
  go_wp2_with (at_builtin; refine wpList_append_lies _ rfl (.tmp 20) (.tmp 21) 238 rfl 0 187 i0 _ 1 8 Tryz.underlying238 hi0 hiz his hib rfl (by omega) (.slice (some ⟨g0, 0, none⟩) n vc) n _ rfl (HO.out.alloc _) ⟨w.heap.size, 0, none⟩ 1 1 [.int .u64 0] rfl (by rfl) (cell_new_at (by simp)) (one_of rfl) (by omega) (by simp only [maxLen]; omega) (by omega) (by omega) _ rfl ?_; intro g cap w1 hO1 hg1 hat hlt; have HAT := Lib.hid hat; clear hat; have hT1 := grown_heap hg1 (alloc_heap _ _ HT.out) (Ne.symm HNE.out); clear c0 f0; have c1 : w1.cell? ⟨t, 0, none⟩ = some (.slice (some ⟨g0, 0, none⟩) n vc) := (cell_at hT1 0).trans HV.out; have f1 : w1.frozen? ⟨t, 0, none⟩ = false := free_at hT1 0; have HT1 := Lib.hid hT1; clear hT1; have HO1 := Lib.hid hO1; clear hO1; have HG1 := Lib.hid hg1; clear hg1)
  have hgt : g ≠ t := by
    rcases HAT.out with h | h
    · intro e; exact HNE.out (e ▸ h)
    · simp at h; omega
  have hK1 : Keeps (fun y => y = t ∨ g0 = y) w w1 := Keeps.grown ((Keeps.refl _ w).alloc _) HG1.out (fun b hb _ => .inr (Option.some.inj hb))
  have k2 := hK1.setIn t 0 (.slice (some ⟨g, 0, none⟩) (n + 1) cap) (.inl rfl)
  have hT2 := heap_setCell_same w1 t 0 _ _ (.slice (some ⟨g, 0, none⟩) (n + 1) cap) HT1.out
  have hO2 := ownsRow_setCell_other HO1.out (a := ⟨t, 0, none⟩) (ne_row hgt) (.slice (some ⟨g, 0, none⟩) (n + 1) cap)
  generalize w1.setCell ⟨t, 0, none⟩ (.slice (some ⟨g, 0, none⟩) (n + 1) cap) = W2 at k2 hT2 hO2 ⊢
  have hpo2 : (cs.setIfInBounds 0 (.slice (some ⟨g, 0, none⟩) (n + 1) cap))[0]? = some (.slice (some ⟨g, 0, none⟩) (n + 1) cap) := by
    have := (Array.getElem?_eq_some_iff.1 HV.out).1
    simp [this]
  have c2 : W2.cell? ⟨t, 0, none⟩ = some (.slice (some ⟨g, 0, none⟩) (n + 1) cap) := (cell_at hT2 0).trans hpo2
  have hcap := ownsCap HO1.out
  have q1 : ¬ cap = i := by omega
  have q2 : ¬ cap = i + 1 := by omega
  have HK2 := Lib.hid k2; clear k2
  have HT2 := Lib.hid hT2; clear hT2
  have HO2 := Lib.hid hO2; clear hO2
  have HPO2 := Lib.hid hpo2; clear hpo2
  clear c1 f1 HT1 HO1
  have e1 : IntKind.i64.wrap ((i : Int) + 1) = (i : Int) + 1 := IntWalk.i64_in _ (by omega)
  have e2 : (0 : Int) ≤ (i : Int) + 1 := by omega
  have e3 : (i : Int) + 1 ≤ (n : Int) + 1 := by omega
  have e4 : (n : Int) + 1 ≤ (cap : Int) := by omega
  have e5 : (i : Int) ≤ (n : Int) + 1 := by omega
  have e6 : ((i : Int) + 1).toNat = i + 1 := by omega
  have e7 : (0 : Int) ≤ (i : Int) := by omega
  have hsz : (Tryz.prog.info? 187).map (·.size) = some 1 := by rw [hi0]; exact congrArg some his
  have hxl : (xs.map u64V).length = n := by have := HO.out.1; omega
  have hmin : Nat.min (n + 1 - i) (n - i) = n - i := Nat.min_eq_right (by omega)
  have HMIN := Lib.hid hmin; clear hmin
  have HSZ := Lib.hid hsz; clear hsz
  have HXL := Lib.hid hxl; clear hxl
  have hK1 := Lib.hid hK1
  go_region_held3 (fun w' => w'.cell? ⟨t, 0, none⟩ = some (.slice (some ⟨g, 0, none⟩) (n + 1) cap)) (first | go_keep | exact (hg3.cell c2 (by simp; omega))) ((refine step_copy_ins rfl (.tmp 29) (.tmp 34) 238 238 rfl 187 0 187 g n cap i (xs.map u64V) (.int .u64 0) (n - i) (cap - (i + 1)) (n + 1 - i) (cap - i) Tryz.underlying238 HSZ.out HXL.out hi (by rfl) (by rfl) HO2.out.drew (u64V_one xs) HMIN.out ?_; intro w3 hO3 hg3))
  have hT3 := grown_heap hg3 HT2.out (ne_row (Ne.symm hgt))
  have c3 : w3.cell? ⟨t, 0, none⟩ = some (.slice (some ⟨g, 0, none⟩) (n + 1) cap) := (cell_at hT3 0).trans HPO2.out
  obtain ⟨u4, c4⟩ := row_some hO3 i (by omega)
  have f4 := hO3.frozenAt i
  have HT3 := Lib.hid hT3; clear hT3
  have HO3 := Lib.hid hO3; clear hO3
  have HG3 := Lib.hid hg3; clear hg3
  go_wp2_with fail
  first | refine bodyPost_ret (results_none rfl _ _ _) rfl ?_ | go_end0
  have hgF : g < w.heap.size → g = t ∨ g0 = g := fun hlt => by
    rcases HAT.out with h | h
    · exact .inr (Option.some.inj h)
    · simp at h; omega
  refine ⟨rfl, _, set_heap _ ⟨g, i, none⟩ _ HT3.out (Ne.symm hgt), ?_, fun y hy => ?_, ?_⟩
  · have h9 := (HO3.out.stored i (u64V 0)).1
    rw [ins_set (xs.map u64V) i (u64V 0) (by rw [HXL.out]; exact hi), ins_map] at h9
    exact h9
  · have hy' : g = y := Option.some.inj hy
    subst hy'
    rcases HAT.out with h | h
    · exact .inl h
    · simp at h; right; omega
  · exact ((HK2.out.drew.grown HG3.out (fun b hb hlt => by have h7 : g = b := Option.some.inj hb; subst h7; exact hgF hlt)).setCell _ _ (fun hlt => hgF hlt)).mono (fun b _ h => h.imp id (congrArg some))

theorem block240 (t n i : Nat) (xs : List Int) (cs : Array Value) (v : Value) (w : World) (ht : w.heap[t]? = some (.cells cs 241 (0, 0))) (hv : cs[0]? = some v) (hO : w.ownsRow 0 187 1 v n (xs.map u64V)) (hlen : n ≤ 100)
    (hne : v.ownBlock ≠ some t) (hi : i ≤ n) : Calls Tryz.prog 240 #[.pointer (some ⟨t, 0, none⟩), .int .i64 i] w fun e w' => e = .returned (.tuple #[]) ∧ RowIns t 0 187 cs v n xs i 0 w w' := by
  rcases Nat.lt_or_ge i n with h | h
  · exact blockMid240 t n i xs cs v w ht hv hO hlen hne h
  · obtain rfl : i = n := by omega
    exact blockEnd240 t i xs cs v w ht hv hO hlen hne
end Go.Proofs.YtegejfhomocloaaGreat

namespace Go.Proofs.YtegejfhomocloaaGreat
open Go.RowKit

theorem RowIns.before {t po E : Nat} {cs : Array Value} {v : Value} {n : Nat} {xs : List Int} {i : Nat} {x : Int} {w w1 w2 : World} (hK : Keeps (fun _ => False) w w1) (h : RowIns t po E cs v n xs i x w1 w2) : RowIns t po E cs v n xs i x w w2 := by
  obtain ⟨v', h1, h2, h3, h4⟩ := h
  have hz := hK.size
  exact ⟨v', h1, h2, fun y hy => (h3 y hy).imp id (fun h => by omega), (hK.mono (fun _ _ f => f.elim)).trans h4 (fun b hb h => h)⟩

/-- What an insertion among indices tells. -/
def IdxIns (t : Nat) (cs : Array Value) (v : Value) (n : Nat) (xs : List Int) (k : Int) (w : World) (e : Ending) (w' : World) : Prop :=
  ∃ p : Nat, p ≤ n ∧ (∀ i, i < p → uOf xs i < k) ∧ (∀ i, p ≤ i → i < n → k ≤ uOf xs i) ∧
    ((p < n ∧ uOf xs p = k ∧ e = .returned (.tuple #[.int .i64 p, .bool false]) ∧ Keeps (fun _ => False) w w') ∨
      ((p < n → k < uOf xs p) ∧ e = .returned (.tuple #[.int .i64 p, .bool true]) ∧ RowIns t 1 25 cs v n xs p k w w'))

set_option maxRecDepth 100000 in
set_option maxHeartbeats 800000 in
theorem idx239 (t n : Nat) (xs : List Int) (cs : Array Value) (v : Value) (k : Int) (w0 : World) (ht : w0.heap[t]? = some (.cells cs 241 (0, 0))) (hv : cs[1]? = some v) (hO : w0.ownsRow 0 25 1 v n (xs.map u64V)) (hn : xs.length = n) (hlen : n ≤ 100)
    (hne : v.ownBlock ≠ some t) (hmono : ∀ i j, i < j → j < n → uOf xs i < uOf xs j) : Calls Tryz.prog 239 #[.pointer (some ⟨t, 1, none⟩), .int .u64 k] w0 (IdxIns t cs v n xs k w0) := by
  obtain ⟨i0, hi0, hiz, his, hib⟩ := info_parts info25
  have hO' := hO
  rw [← hn] at hO'
  obtain ⟨vp, vc, rfl, hc⟩ := u64_cells hO'
  rw [hn] at hc hne hO' ⊢
  rw [hn] at hv hO
  have c0 : w0.cell? ⟨t, 1, none⟩ = some (.slice vp n vc) := (cell_at ht 1).trans hv
  have HSR := Lib.hid (search235 n vc vp (uOf xs) k w0 hlen hc hmono)
  have HT0 := Lib.hid ht; clear ht
  have HO0 := Lib.hid hO; clear hO hO'
  have HNE := Lib.hid hne; clear hne
  have HV := Lib.hid hv; clear hv
  have HC := Lib.hid hc; clear hc hmono
  have HXN := Lib.hid hn; clear hn
  go_enter Tryz.func239, Tryz.ntmps239
  go_wp2_with fail
  refine HSR.out.mono ?_
  rintro e w ⟨i, hip, h1, h2, rfl, hB⟩
  have HF := Lib.hid (⟨h1, h2⟩ : (∀ j, j < i → uOf xs j < k) ∧ (∀ j, i ≤ j → j < n → k ≤ uOf xs j)); clear h1 h2 HSR
  have HKW := Lib.hid (Keeps.of_new (F := fun _ => False) hB); clear hB c0
  have HT := Lib.hid (HKW.out.heap HT0.out (fun f => f))
  have HO := Lib.hid (HKW.out.row HO0.out (fun _ _ f => f))
  have c0 : w.cell? ⟨t, 1, none⟩ = some (.slice vp n vc) := (cell_at HT.out 1).trans HV.out
  have f0 : w.frozen? ⟨t, 1, none⟩ = false := free_at HT.out 1
  have htl := lt_of_block HT.out
  rcases Nat.lt_or_ge i n with hi | hi
  · have hin : ((i : Int) == (n : Int)) = false := by simp; omega
    obtain ⟨g0, hg0, hcg⟩ := HC.out i hi
    subst hg0
    have cg : w.cell? ⟨g0, i, none⟩ = some (.int .u64 (uOf xs i)) := HKW.out.cell hcg (fun f => f)
    by_cases hk : uOf xs i = k
    · have hkk : (uOf xs i == k) = true := by simpa using hk
      clear hcg
      go_wp2_with fail
      go_ret2
      exact ⟨i, by omega, HF.out.1, HF.out.2, .inl ⟨hi, by assumption, rfl, HKW.out⟩⟩
    · have hkk : (uOf xs i == k) = false := by simpa using hk
      have hklt : k < uOf xs i := by have := HF.out.2 i (Nat.le_refl _) hi; omega
      clear hk hcg
      go_wp2_with (at_builtin; refine wpList_append_lies _ rfl (.tmp 39) (.tmp 40) 239 rfl 0 25 i0 _ 1 8 Tryz.underlying239 hi0 hiz his hib rfl (by omega) (.slice (some ⟨g0, 0, none⟩) n vc) n _ rfl (HO.out.alloc _) ⟨w.heap.size, 0, none⟩ 1 1 [.int .u64 0] rfl (by rfl) (cell_new_at (by simp)) (one_of rfl) (by omega) (by simp only [maxLen]; omega) (by omega) (by omega) _ rfl ?_; intro g cap w1 hO1 hg1 hat hlt; have HAT := Lib.hid hat; clear hat; have hT1 := grown_heap hg1 (alloc_heap _ _ HT.out) (Ne.symm HNE.out); clear c0 f0 cg; have c1 : w1.cell? ⟨t, 1, none⟩ = some (.slice (some ⟨g0, 0, none⟩) n vc) := (cell_at hT1 1).trans HV.out; have f1 : w1.frozen? ⟨t, 1, none⟩ = false := free_at hT1 1; have HT1 := Lib.hid hT1; clear hT1; have HO1 := Lib.hid hO1; clear hO1; have HG1 := Lib.hid hg1; clear hg1)
      have hgt : g ≠ t := by
        rcases HAT.out with h | h
        · intro e; exact HNE.out (e ▸ h)
        · simp at h; omega
      have hK1 : Keeps (fun y => y = t ∨ g0 = y) w w1 := Keeps.grown ((Keeps.refl _ w).alloc _) HG1.out (fun b hb _ => .inr (Option.some.inj hb))
      have k2 := hK1.setIn t 1 (.slice (some ⟨g, 0, none⟩) (n + 1) cap) (.inl rfl)
      have hT2 := heap_setCell_same w1 t 1 _ _ (.slice (some ⟨g, 0, none⟩) (n + 1) cap) HT1.out
      have hO2 := ownsRow_setCell_other HO1.out (a := ⟨t, 1, none⟩) (ne_row hgt) (.slice (some ⟨g, 0, none⟩) (n + 1) cap)
      generalize w1.setCell ⟨t, 1, none⟩ (.slice (some ⟨g, 0, none⟩) (n + 1) cap) = W2 at k2 hT2 hO2 ⊢
      have hpo2 : (cs.setIfInBounds 1 (.slice (some ⟨g, 0, none⟩) (n + 1) cap))[1]? = some (.slice (some ⟨g, 0, none⟩) (n + 1) cap) := by
        have := (Array.getElem?_eq_some_iff.1 HV.out).1
        simp [this]
      have c2 : W2.cell? ⟨t, 1, none⟩ = some (.slice (some ⟨g, 0, none⟩) (n + 1) cap) := (cell_at hT2 1).trans hpo2
      have hcap := ownsCap HO1.out
      have q1 : ¬ cap = i := by omega
      have q2 : ¬ cap = i + 1 := by omega
      have HK2 := Lib.hid k2; clear k2
      have HT2 := Lib.hid hT2; clear hT2
      have HO2 := Lib.hid hO2; clear hO2
      have HPO2 := Lib.hid hpo2; clear hpo2
      clear c1 f1 HT1 HO1
      have e1 : IntKind.i64.wrap ((i : Int) + 1) = (i : Int) + 1 := IntWalk.i64_in _ (by omega)
      have e2 : (0 : Int) ≤ (i : Int) + 1 := by omega
      have e3 : (i : Int) + 1 ≤ (n : Int) + 1 := by omega
      have e4 : (n : Int) + 1 ≤ (cap : Int) := by omega
      have e5 : (i : Int) ≤ (n : Int) + 1 := by omega
      have e6 : ((i : Int) + 1).toNat = i + 1 := by omega
      have e7 : (0 : Int) ≤ (i : Int) := by omega
      have hsz : (Tryz.prog.info? 25).map (·.size) = some 1 := by rw [hi0]; exact congrArg some his
      have hxl : (xs.map u64V).length = n := by have := HO.out.1; omega
      have hmin : Nat.min (n + 1 - i) (n - i) = n - i := Nat.min_eq_right (by omega)
      have HMIN := Lib.hid hmin; clear hmin
      have HSZ := Lib.hid hsz; clear hsz
      have HXL := Lib.hid hxl; clear hxl
      have hK1 := Lib.hid hK1
      go_region_held3 (fun w' => w'.cell? ⟨t, 1, none⟩ = some (.slice (some ⟨g, 0, none⟩) (n + 1) cap)) (first | go_keep | exact (hg3.cell c2 (by simp; omega))) ((refine step_copy_ins rfl (.tmp 48) (.tmp 53) 239 239 rfl 25 0 25 g n cap i (xs.map u64V) (.int .u64 0) (n - i) (cap - (i + 1)) (n + 1 - i) (cap - i) Tryz.underlying239 HSZ.out HXL.out hi (by rfl) (by rfl) HO2.out.drew (u64V_one xs) HMIN.out ?_; intro w3 hO3 hg3))
      have hT3 := grown_heap hg3 HT2.out (ne_row (Ne.symm hgt))
      have c3 : w3.cell? ⟨t, 1, none⟩ = some (.slice (some ⟨g, 0, none⟩) (n + 1) cap) := (cell_at hT3 1).trans HPO2.out
      obtain ⟨u4, c4⟩ := row_some hO3 i (by omega)
      have f4 := hO3.frozenAt i
      have HT3 := Lib.hid hT3; clear hT3
      have HO3 := Lib.hid hO3; clear hO3
      have HG3 := Lib.hid hg3; clear hg3
      go_wp2_with fail
      go_ret2
      have hgF : g < w.heap.size → g = t ∨ g0 = g := fun hlt => by
        rcases HAT.out with h | h
        · exact .inr (Option.some.inj h)
        · simp at h; omega
      refine ⟨i, by omega, HF.out.1, HF.out.2, .inr ⟨fun _ => hklt, rfl, RowIns.before HKW.out ⟨_, set_heap _ ⟨g, i, none⟩ _ HT3.out (Ne.symm hgt), ?_, fun y hy => ?_, ?_⟩⟩⟩
      · have h9 := (HO3.out.stored i (u64V k)).1
        rw [ins_set (xs.map u64V) i (u64V k) (by rw [HXL.out]; exact hi), ins_map] at h9
        exact h9
      · have hy' : g = y := Option.some.inj hy
        subst hy'
        rcases HAT.out with h | h
        · exact .inl h
        · simp at h; right; omega
      · exact ((HK2.out.drew.grown HG3.out (fun b hb hlt => by have h7 : g = b := Option.some.inj hb; subst h7; exact hgF hlt)).setCell _ _ (fun hlt => hgF hlt)).mono (fun b _ h => h.imp id (congrArg some))
  · obtain rfl : i = n := by omega
    go_wp2_with (at_builtin; refine wpList_append_lies _ rfl (.tmp 21) (.tmp 23) 239 rfl 0 25 i0 _ 1 8 Tryz.underlying239 hi0 hiz his hib rfl (by omega) (.slice vp i vc) i _ rfl (HO.out.alloc _) ⟨w.heap.size, 0, none⟩ 1 1 [.int .u64 k] rfl (by rfl) (cell_one_new _ _ _) (one_of rfl) (by omega) (by simp only [maxLen]; omega) (by omega) (by omega) _ rfl ?_; intro g cap w1 hO1 hg1 hat hlt; have HAT := Lib.hid hat; clear hat; have hT1 := grown_heap hg1 (alloc_heap _ _ HT.out) (Ne.symm HNE.out); clear c0 f0; have c1 : w1.cell? ⟨t, 1, none⟩ = some (.slice vp i vc) := (cell_at hT1 1).trans HV.out; have f1 : w1.frozen? ⟨t, 1, none⟩ = false := free_at hT1 1; have HT1 := Lib.hid hT1; clear hT1; have HO1 := Lib.hid hO1; clear hO1; have HG1 := Lib.hid hg1; clear hg1)
    go_ret2
    have hl := HXN.out
    have hgt : g ≠ t := by
      rcases HAT.out with h | h
      · intro e; exact HNE.out (e ▸ h)
      · simp at h; omega
    refine ⟨i, Nat.le_refl _, HF.out.1, HF.out.2, .inr ⟨fun h => absurd h (Nat.lt_irrefl _), rfl, RowIns.before HKW.out ⟨_, heap_setCell_same w1 t 1 _ _ _ HT1.out, ?_, fun y hy => ?_, ((Keeps.alloc (Keeps.refl _ _) _).grown HG1.out (fun b hb _ => .inr hb)).setIn t 1 _ (.inl rfl)⟩⟩⟩
    · have : ins xs i k = xs ++ [k] := by simp [ins, List.take_of_length_le (show xs.length ≤ i by omega), List.drop_eq_nil_of_le (show xs.length ≤ i by omega)]
      rw [this, List.map_append]
      exact ownsRow_setCell_other HO1.out (a := ⟨t, 1, none⟩) (ne_row hgt) _
    · have hy' : g = y := Option.some.inj hy
      subst hy'
      rcases HAT.out with h | h
      · exact .inl h
      · simp at h; right; omega
end Go.Proofs.YtegejfhomocloaaGreat

namespace Go.Proofs.YtegejfhomocloaaGreat
open Go.RowKit

set_option maxRecDepth 100000 in
theorem split75 (k : Nat) (w : World) (hk : k ≤ 65535) : Calls Tryz.prog 75 #[.int .u64 k] w fun e w' => e = .returned (.tuple #[.int .u64 ((k / 64 : Nat) : Int), .int .u64 ((k % 64 : Nat) : Int)]) ∧ w' = w := by
  go_enter Tryz.func75, Tryz.ntmps75
  go_wp2
  go_ret2
  exact ⟨rfl, rfl⟩

theorem wrap_pow {r : Nat} (hr : r < 64) : IntKind.u64.wrap ((2 : Int) ^ r) = ((2 ^ r : Nat) : Int) := by
  have h : 2 ^ r < 2 ^ 64 := Nat.pow_lt_pow_right (by omega) hr
  rw [IntKind.wrap_u64]
  have : ((2 : Int) ^ r) = ((2 ^ r : Nat) : Int) := by simp
  rw [this]
  generalize (2 ^ r : Nat) = m at h ⊢
  omega

set_option maxRecDepth 100000 in
theorem put201 (b r : Nat) (w : World) (hr : r < 64) (hb : b < 18446744073709551616) : Calls Tryz.prog 201 #[.int .u64 b, .int .u64 r] w fun e w' => e = .returned (.int .u64 ((b ||| 2 ^ r : Nat) : Int)) ∧ w' = w := by
  have hp : (2 ^ r : Nat) < 18446744073709551616 := Nat.pow_lt_pow_right (by omega) hr
  have hw := wrap_pow hr
  go_enter Tryz.func201, Tryz.ntmps201
  go_wp2
  go_ret
  refine ⟨congrArg (fun x => Ending.returned (.int .u64 x)) ?_, rfl⟩
  first
    | exact bits_or_u64_nat b (2 ^ r) hb hp
    | (show bits .or .u64 (b : Int) (IntKind.u64.wrap (2 ^ r)) = _; rw [hw]; exact bits_or_u64_nat b (2 ^ r) hb hp)

def ixI (P : List (Nat × Nat)) : List Int := P.map fun x => (x.1 : Int)
def blI (P : List (Nat × Nat)) : List Int := P.map fun x => (x.2 : Int)

/-- A sparse array of bits in memory. -/
def Sparse (w : World) (t : Nat) (bv iv : Value) (P : List (Nat × Nat)) : Prop :=
  w.heap[t]? = some (.cells #[bv, iv] 241 (0, 0)) ∧ w.ownsRow 0 187 1 bv P.length ((blI P).map u64V) ∧ w.ownsRow 0 25 1 iv P.length ((ixI P).map u64V)

/-- Blocks in order. -/
def PSrt (P : List (Nat × Nat)) : Prop := P.Pairwise (fun a b => a.1 < b.1) ∧ ∀ x ∈ P, x.2 < 18446744073709551616

/-- A bit put into its block. -/
def PutP (P : List (Nat × Nat)) (k : Nat) (P' : List (Nat × Nat)) : Prop :=
  ∃ p, (∃ b, P[p]? = some (k / 64, b) ∧ P' = P.set p (k / 64, b ||| 2 ^ (k % 64))) ∨
    (p ≤ P.length ∧ (∀ x ∈ P.take p, x.1 < k / 64) ∧ (∀ x ∈ P.drop p, k / 64 < x.1) ∧ P' = ins P p (k / 64, 2 ^ (k % 64)))

def SetBit (t : Nat) (bv iv : Value) (P : List (Nat × Nat)) (k : Nat) (w : World) (e : Ending) (w' : World) : Prop :=
  e = .returned .nilIface ∧ ∃ bv' iv' P', Sparse w' t bv' iv' P' ∧ PutP P k P' ∧ (∀ y, bv'.ownBlock = some y ∨ iv'.ownBlock = some y → bv.ownBlock = some y ∨ iv.ownBlock = some y ∨ w.heap.size ≤ y) ∧
    Keeps (fun y => y = t ∨ bv.ownBlock = some y ∨ iv.ownBlock = some y) w w'

theorem uOf_ix {P : List (Nat × Nat)} {i : Nat} {x : Nat × Nat} (h : P[i]? = some x) : uOf (ixI P) i = (x.1 : Int) := by
  rw [uOf, ixI, List.getD_eq_getElem?_getD, List.getElem?_map, h]; rfl
theorem uOf_bl {P : List (Nat × Nat)} {i : Nat} {x : Nat × Nat} (h : P[i]? = some x) : uOf (blI P) i = (x.2 : Int) := by
  rw [uOf, blI, List.getD_eq_getElem?_getD, List.getElem?_map, h]; rfl
theorem psrt_mono {P : List (Nat × Nat)} (h : PSrt P) : ∀ i j, i < j → j < P.length → uOf (ixI P) i < uOf (ixI P) j := fun i j hij hj => by
  rw [uOf_ix (List.getElem?_eq_getElem hj), uOf_ix (List.getElem?_eq_getElem (show i < P.length by omega))]
  have := List.pairwise_iff_getElem.1 h.1 i j (by omega) hj hij
  omega

theorem Sparse.apart {w : World} {t : Nat} {bv iv : Value} {P : List (Nat × Nat)} (h : Sparse w t bv iv P) : (∀ y, bv.ownBlock = some y → y ≠ t ∧ iv.ownBlock ≠ some y) ∧ (∀ y, iv.ownBlock = some y → y ≠ t) := by
  obtain ⟨h1, h2, h3⟩ := h
  refine ⟨fun y hy => ⟨row_type_ne h1 h2 (by decide) y hy, fun hy' => ?_⟩, row_type_ne h1 h3 (by decide)⟩
  rcases h2.2 with ⟨h', _⟩ | ⟨g, cap, cur, h', hb, hg, _⟩
  · rw [h'] at hy; cases hy
  · rw [h'] at hy
    have : g = y := Option.some.inj hy
    subst this
    exact row_type_ne hg h3 (by decide) g hy' rfl
end Go.Proofs.YtegejfhomocloaaGreat

namespace Go.Proofs.YtegejfhomocloaaGreat
open Go.RowKit

theorem uOf_getElem {xs : List Int} {i : Nat} (h : i < xs.length) : xs[i]? = some (uOf xs i) := by
  rw [uOf, List.getD_eq_getElem?_getD, List.getElem?_eq_getElem h]; rfl

theorem ixI_length (P : List (Nat × Nat)) : (ixI P).length = P.length := by simp [ixI]
theorem blI_length (P : List (Nat × Nat)) : (blI P).length = P.length := by simp [blI]

theorem rows_apart {w : World} {B B' n n' e e' : Nat} {size size' : Nat} {v v' : Value} {xs xs' : List Value} (h : w.ownsRow B e size v n xs) (h' : w.ownsRow B' e' size' v' n' xs') (hne : e ≠ e') : ∀ y, v.ownBlock = some y → v'.ownBlock ≠ some y := fun y hy hy' => by
  rcases h.2 with ⟨h2, _⟩ | ⟨g, cap, cur, h2, hb, hg, _⟩
  · rw [h2] at hy; cases hy
  · rw [h2] at hy
    have : g = y := Option.some.inj hy
    subst this
    exact row_type_ne hg h' hne g hy' rfl
theorem ins_get {α : Type} {xs : List α} {i : Nat} {x : α} (h : i ≤ xs.length) : (ins xs i x)[i]? = some x := by
  unfold ins
  rw [List.getElem?_append_right (by rw [List.length_take]; omega), List.length_take, Nat.min_eq_left h, Nat.sub_self]; rfl
theorem ins_set_at {α : Type} {xs : List α} {i : Nat} {x y : α} (h : i ≤ xs.length) : (ins xs i x).set i y = ins xs i y := by
  unfold ins
  rw [List.set_append_right _ _ (by rw [List.length_take]; omega), List.length_take, Nat.min_eq_left h, Nat.sub_self]; rfl

/-- The bit's place is known, its block is there. -/
theorem sparse_set {t : Nat} {g m vc : Nat} {iv : Value} {P : List (Nat × Nat)} {p i b nb : Nat} {w w2 : World} (hT : w2.heap[t]? = some (.cells #[.slice (some ⟨g, 0, none⟩) m vc, iv] 241 (0, 0)))
    (hR : w2.ownsRow 0 187 1 (.slice (some ⟨g, 0, none⟩) m vc) m ((blI P).map u64V)) (hI : w2.ownsRow 0 25 1 iv m ((ixI P).map u64V)) (hm : P.length = m) (hp : P[p]? = some (i, b)) (hw : w = w2.setCell ⟨g, p, none⟩ (.int .u64 (nb : Int))) :
    Sparse w t (.slice (some ⟨g, 0, none⟩) m vc) iv (P.set p (i, nb)) := by
  subst hw
  have hne := row_type_ne hT hR (by decide) g rfl
  have hap := (Sparse.apart (P := P) ⟨hT, by rw [hm]; exact hR, by rw [hm]; exact hI⟩).1 g rfl
  have hpl := (List.getElem?_eq_some_iff.1 hp).1
  refine ⟨set_heap _ ⟨g, p, none⟩ _ hT hne.symm, ?_, ?_⟩
  · have h9 := (hR.stored p (u64V (nb : Int))).1
    rw [List.length_set, hm]
    have e : (blI (P.set p (i, nb))).map u64V = ((blI P).map u64V).set p (u64V (nb : Int)) := by
      rw [blI, blI, List.map_set, List.map_set]
    rw [e]; exact h9
  · have e : ixI (P.set p (i, nb)) = ixI P := by
      rw [ixI, ixI, List.map_set]
      apply List.ext_getElem?
      intro j
      rw [List.getElem?_set]
      split
      · rename_i h
        subst h
        rw [List.length_map, if_pos hpl, List.getElem?_map, hp]
        rfl
      · rfl
    rw [e, List.length_set, hm]
    exact ownsRow_setCell_other hI (a := ⟨g, p, none⟩) (fun h => hap.2 h) _

set_option maxRecDepth 100000 in
set_option maxHeartbeats 1600000 in
theorem setBit228 (t k : Nat) (bv iv : Value) (P : List (Nat × Nat)) (w : World) (hk : k ≤ 65535) (hS : Sparse w t bv iv P) (hP : PSrt P) (hlen : P.length ≤ 99) :
    Calls Tryz.prog 228 #[.pointer (some ⟨t, 0, none⟩), .int .u64 (k : Int)] w (SetBit t bv iv P k w) := by
  have hap := hS.apart
  obtain ⟨hT, hB, hI⟩ := hS
  obtain ⟨n, hn⟩ : ∃ n, n = P.length := ⟨_, rfl⟩
  rw [← hn] at hB hI hlen
  have hr : k % 64 < 64 := Nat.mod_lt _ (by omega)
  have HID := Lib.hid (idx239 t n (ixI P) #[bv, iv] iv ((k / 64 : Nat) : Int) w hT rfl hI (by rw [ixI_length, hn]) (by omega) (fun h => (hap.2 t h) rfl) (by rw [hn]; exact psrt_mono hP))
  have HAP := Lib.hid hap; clear hap
  have HT0 := Lib.hid hT; clear hT
  have HB0 := Lib.hid hB; clear hB
  have HI0 := Lib.hid hI; clear hI
  have HPP := Lib.hid hP; clear hP
  have HN := Lib.hid hn; clear hn
  have htl := lt_of_block HT0.out
  go_enter Tryz.func228, Tryz.ntmps228
  go_wp2_with (first | (go_at_call 75; refine (split75 k _ hk).mono ?_; rintro e w' ⟨rfl, rfl⟩))
  refine HID.out.mono ?_
  rintro e w1 ⟨p, hp, h1, h2, h3⟩
  have HF := Lib.hid (⟨h1, h2⟩ : (∀ j, j < p → uOf (ixI P) j < ((k / 64 : Nat) : Int)) ∧ (∀ j, p ≤ j → j < n → ((k / 64 : Nat) : Int) ≤ uOf (ixI P) j)); clear h1 h2 HID
  rcases h3 with ⟨hpn, hpk, rfl, hK⟩ | ⟨hpk, rfl, hRI⟩
  · have hpl : p < P.length := by rw [← HN.out]; exact hpn
    have hx := List.getElem?_eq_getElem hpl
    obtain ⟨⟨i, b⟩, hpb⟩ : ∃ x, P[p]? = some x := ⟨_, hx⟩
    have hik : i = k / 64 := by rw [uOf_ix hpb] at hpk; simp only at hpk; omega
    subst hik
    have hb : b < 18446744073709551616 := HPP.out.2 _ (List.mem_of_getElem? hpb)
    have hB1 := hK.row HB0.out (fun _ _ f => f)
    obtain ⟨g, vc, rfl, _, _⟩ := hB1.form (by omega)
    obtain ⟨m, hm⟩ : ∃ m, m = n := ⟨_, rfl⟩
    have HM := Lib.hid hm; clear hm
    have HT : Hid (w1.heap[t]? = some (.cells #[.slice (some ⟨g, 0, none⟩) m vc, iv] 241 (0, 0))) := by rw [HM.out]; exact hK.heap HT0.out (fun f => f)
    have HR : Hid (w1.ownsRow 0 187 1 (.slice (some ⟨g, 0, none⟩) m vc) m ((blI P).map u64V)) := by rw [HM.out]; exact hB1
    have HI : Hid (w1.ownsRow 0 25 1 iv m ((ixI P).map u64V)) := by rw [HM.out]; exact hK.row HI0.out (fun _ _ f => f)
    have hpm : p < m := by rw [HM.out]; exact hpn
    have HCG : Hid (w1.cell? ⟨g, p, none⟩ = some (.int .u64 (b : Int))) := by
      rw [HR.out.cellAt p (by omega), List.getElem?_map, blI, List.getElem?_map, hpb]; rfl
    have HGT : Hid (g ≠ t) := row_type_ne HT.out HR.out (by decide) g rfl
    have HPB := Lib.hid hpb; clear hpb hx hB1
    have HK := Lib.hid hK; clear hK hpk hpl hpn
    go_wp2_with fail
    have ct : w1.cell? ⟨t, 0, none⟩ = some (.slice (some ⟨g, 0, none⟩) m vc) := cell_at HT.out 0
    have cg : w1.cell? ⟨g, p, none⟩ = some (.int .u64 (b : Int)) := HCG.out
    have fg : w1.frozen? ⟨g, p, none⟩ = false := HR.out.frozenAt p
    have ngt : ¬ g = t := HGT.out
    have ntg : ¬ t = g := fun e => HGT.out e.symm
    go_region_with (go_at_call 201; refine (put201 b (k % 64) _ hr hb).mono ?_; rintro e w' ⟨rfl, rfl⟩)
    all_goals
      go_wp2_with fail
      go_ret
      have HPM : P.length = m := by rw [HM.out]; exact HN.out.symm
      refine ⟨rfl, _, _, _, sparse_set (P := P) (w2 := (w1.drew)) HT.out HR.out HI.out HPM HPB.out rfl, ⟨p, .inl ⟨b, HPB.out, rfl⟩⟩, ?_, ?_⟩
      · rintro y (h | h)
        · exact .inl (by rw [HM.out] at h; exact h)
        · exact .inr (.inl h)
      · exact ((HK.out.mono (G := fun y => y = t ∨ (Value.slice (some ⟨g, 0, none⟩) n vc).ownBlock = some y ∨ iv.ownBlock = some y) (fun _ _ f => f.elim)).drew).setIn g p _ (.inr (.inl rfl))
  · obtain ⟨iv', hT1, hI1, hiv', hK1⟩ := hRI
    have hap := HAP.out
    have hB1 := hK1.row HB0.out (fun y hy h => h.elim (fun e => (hap.1 y hy).1 e) (fun e => (hap.1 y hy).2 e))
    have HBL := Lib.hid (block240 t n p (blI P) _ bv w1 hT1 rfl hB1 (by omega) (fun h => (hap.1 t h).1 rfl) hp)
    have HB1 := Lib.hid hB1; clear hB1
    have HT1 := Lib.hid hT1; clear hT1
    have HI1 := Lib.hid hI1; clear hI1
    have HIV := Lib.hid hiv'; clear hiv'
    have HK1 := Lib.hid hK1; clear hK1
    have HPK := Lib.hid hpk; clear hpk hap
    go_wp2_with fail
    refine HBL.out.mono ?_
    rintro e w2 ⟨rfl, bv', hT2, hB2, hbv', hK2⟩
    have hap1 := rows_apart HB1.out HI1.out (by decide)
    have hit := row_type_ne HT1.out HI1.out (by decide)
    have hI2 := hK2.row HI1.out (fun y hy h => h.elim (fun e => hit y hy e) (fun e => hap1 y e hy))
    have hz1 := HK1.out.size
    obtain ⟨m, hm⟩ : ∃ m, m = n + 1 := ⟨_, rfl⟩
    rw [← hm] at hB2 hI2
    obtain ⟨g, vc, rfl, _, _⟩ := hB2.form (by omega)
    obtain ⟨b, hb0⟩ : ∃ b : Nat, b = 0 := ⟨_, rfl⟩
    have hb : b < 18446744073709551616 := by omega
    have HM := Lib.hid hm; clear hm
    have HT : Hid (w2.heap[t]? = some (.cells #[.slice (some ⟨g, 0, none⟩) m vc, iv'] 241 (0, 0))) := hT2
    have HR : Hid (w2.ownsRow 0 187 1 (.slice (some ⟨g, 0, none⟩) m vc) m ((blI (ins P p (k / 64, b))).map u64V)) := by
      rw [blI, ← ins_map (fun x : Nat × Nat => (x.2 : Int)) P p (k / 64, b), hb0]; exact hB2
    have HI : Hid (w2.ownsRow 0 25 1 iv' m ((ixI (ins P p (k / 64, b))).map u64V)) := by
      rw [ixI, ← ins_map (fun x : Nat × Nat => (x.1 : Int)) P p (k / 64, b)]; exact hI2
    have hpP : p ≤ P.length := by rw [← HN.out]; exact hp
    have HPB : Hid ((ins P p (k / 64, b))[p]? = some (k / 64, b)) := ins_get hpP
    have HPM : Hid ((ins P p (k / 64, b)).length = m) := by rw [HM.out, HN.out]; exact ins_length _ _ _ hpP
    have hpm : p < m := by rw [HM.out]; omega
    have HCG : Hid (w2.cell? ⟨g, p, none⟩ = some (.int .u64 (b : Int))) := by
      rw [HR.out.cellAt p (by omega), List.getElem?_map, blI, List.getElem?_map, HPB.out]; rfl
    have HGT : Hid (g ≠ t) := row_type_ne HT.out HR.out (by decide) g rfl
    have HBV := Lib.hid hbv'; clear hbv'
    have HK2 := Lib.hid hK2; clear hK2
    have HB0' := Lib.hid hb0; clear hb0
    have HPP2 := Lib.hid hpP; clear hpP hB2 hI2 hT2 hap1 hit HBL
    go_wp2_with fail
    have ct : w2.cell? ⟨t, 0, none⟩ = some (.slice (some ⟨g, 0, none⟩) m vc) := cell_at HT.out 0
    have cg : w2.cell? ⟨g, p, none⟩ = some (.int .u64 (b : Int)) := HCG.out
    have fg : w2.frozen? ⟨g, p, none⟩ = false := HR.out.frozenAt p
    have ngt : ¬ g = t := HGT.out
    have ntg : ¬ t = g := fun e => HGT.out e.symm
    go_region_with (go_at_call 201; refine (put201 b (k % 64) _ hr hb).mono ?_; rintro e w' ⟨rfl, rfl⟩)
    all_goals
      go_wp2_with fail
      go_ret
      have hKK : Keeps (fun y => y = t ∨ bv.ownBlock = some y ∨ iv.ownBlock = some y) w' w2 := (HK1.out.mono (fun _ _ h => h.imp id .inr)).trans HK2.out (fun y _ h => h.imp id .inl)
      have hgF : g < w'.heap.size → bv.ownBlock = some g := fun hlt => (HBV.out g rfl).elim id (fun h => by omega)
      refine ⟨rfl, _, _, _, sparse_set (P := ins P p (k / 64, b)) (w2 := w2.drew) HT.out HR.out HI.out HPM.out HPB.out rfl, ⟨p, .inr ⟨HPP2.out, ?_, ?_, ?_⟩⟩, ?_, ?_⟩
      · intro x hx
        obtain ⟨j, hj, rfl⟩ := List.getElem_of_mem hx
        rw [List.length_take] at hj
        have := HF.out.1 j (by omega)
        rw [uOf_ix (List.getElem?_eq_getElem (show j < P.length by omega))] at this
        rw [List.getElem_take]; omega
      · intro x hx
        obtain ⟨j, hj, rfl⟩ := List.getElem_of_mem hx
        rw [List.length_drop] at hj
        have hjl : p + j < P.length := by omega
        rw [List.getElem_drop]
        have h0 := HPK.out (by rw [HN.out]; omega)
        rcases Nat.eq_zero_or_pos j with h | h
        · subst h
          rw [uOf_ix (List.getElem?_eq_getElem (show p < P.length by omega))] at h0
          simp only [Nat.add_zero]; omega
        · have h1 := psrt_mono HPP.out p (p + j) (by omega) hjl
          rw [uOf_ix (List.getElem?_eq_getElem hjl)] at h1
          omega
      · rw [ins_set_at HPP2.out, HB0'.out, Nat.zero_or]
      · rintro y (h | h)
        · exact (HBV.out y h).elim .inl (fun h => .inr (.inr (by omega)))
        · exact .inr (HIV.out y h)
      · exact (hKK.drew).setCell _ _ (fun hlt => .inr (.inl (hgF hlt)))
end Go.Proofs.YtegejfhomocloaaGreat

namespace Go.Proofs.YtegejfhomocloaaGreat
open Go.RowKit

/-- The numbers of the first j bits of a block. -/
def bitsTo (b off j : Nat) : List Int := ((List.range j).filter fun r => b.testBit r).map fun r => ((off + r : Nat) : Int)
theorem bitsTo_yes {b off j : Nat} (h : b.testBit j = true) : bitsTo b off (j + 1) = bitsTo b off j ++ [((off + j : Nat) : Int)] := by
  unfold bitsTo
  rw [List.range_succ, List.filter_append, List.map_append]
  simp [h]
theorem bitsTo_no {b off j : Nat} (h : b.testBit j = false) : bitsTo b off (j + 1) = bitsTo b off j := by
  unfold bitsTo
  rw [List.range_succ, List.filter_append, List.map_append]
  simp [h]
theorem bitsTo_le (b off j : Nat) : (bitsTo b off j).length ≤ j := by
  unfold bitsTo
  rw [List.length_map]
  exact Nat.le_trans (List.length_filter_le _ _) (by simp)

theorem and_pow (b j : Nat) : b &&& 2 ^ j = if b.testBit j then 2 ^ j else 0 := by
  apply Nat.eq_of_testBit_eq
  intro i
  rw [Nat.testBit_and, Nat.testBit_two_pow]
  by_cases h : j = i
  · subst h
    cases hb : b.testBit j <;> simp [Nat.testBit_two_pow]
  · cases hb : b.testBit j <;> simp [Nat.testBit_two_pow, h]
theorem test_bit {b j : Nat} (hb : b < 18446744073709551616) (hj : j < 64) : bits .and .u64 (b : Int) (IntKind.u64.wrap ((2 : Int) ^ j)) = ((if b.testBit j then 2 ^ j else 0 : Nat) : Int) := by
  have hp : (2 ^ j : Nat) < 18446744073709551616 := Nat.pow_lt_pow_right (by omega) hj
  rw [wrap_pow hj, bits_and_u64_nat b (2 ^ j) hb hp, and_pow]
theorem test_yes {b j : Nat} (hb : b < 18446744073709551616) (hj : j < 64) (h : b.testBit j = true) : decide (0 < bits .and .u64 (b : Int) (IntKind.u64.wrap ((2 : Int) ^ j))) = true := by
  rw [test_bit hb hj, h, if_pos rfl, decide_eq_true_eq]
  have := Nat.two_pow_pos j
  omega
theorem test_no {b j : Nat} (hb : b < 18446744073709551616) (hj : j < 64) (h : b.testBit j = false) : decide (0 < bits .and .u64 (b : Int) (IntKind.u64.wrap ((2 : Int) ^ j))) = false := by
  rw [test_bit hb hj, h]; rfl

/-- Numbers that are being gathered. -/
def Nums (B pn : Nat) (xs : List Int) (w : World) : Prop :=
  ∃ s, w.heap[pn]? = some (.cells #[s] 23 (0, 0)) ∧ w.ownsRow B 25 1 s xs.length (xs.map u64V) ∧ B ≤ pn

set_option maxRecDepth 100000 in
set_option maxHeartbeats 1600000 in
theorem nums202 (B pn b off : Nat) (xs : List Int) (w : World) (hG : Nums B pn xs w) (hb : b < 18446744073709551616) (ho : off ≤ 65536) (hlen : xs.length ≤ 5000) :
    Calls Tryz.prog 202 #[.int .u64 (b : Int), .int .u64 (off : Int), .pointer (some ⟨pn, 0, none⟩)] w fun e w' => e = .returned (.tuple #[]) ∧ Nums B pn (xs ++ bitsTo b off 64) w' ∧ Keeps (fun y => B ≤ y) w w' := by
  obtain ⟨i0, hi0, hiz, his, hib⟩ := info_parts info25
  have HG := Lib.hid hG; clear hG
  go_enter Tryz.func202, Tryz.ntmps202
  go_wp2_with fail
  go_loopg [6] 64 (fun kx s6 wr => ∃ j : Nat, s6 = .int .u64 j ∧ j ≤ 64 ∧ 64 - j ≤ kx ∧ Hid (Nums B pn (xs ++ bitsTo b off j) wr) ∧ Hid (Keeps (fun y => B ≤ y) w wr))
  case atStart => exact ⟨0, rfl, by omega, by omega, by (show Nums B pn (xs ++ []) w); rw [List.append_nil]; exact HG.out, Keeps.refl _ _⟩
  case round =>
    obtain ⟨j, rfl, hj, hgk, hN, hK⟩ := hrel
    by_cases hlt : j < 64
    · cases hbit : b.testBit j with
      | true =>
        have hd := test_yes hb hlt hbit
        obtain ⟨s, hp, hO, hBp⟩ := hN.out
        obtain ⟨n, hn⟩ : ∃ n, n = (xs ++ bitsTo b off j).length := ⟨_, rfl⟩
        rw [← hn] at hO
        have hnl : n ≤ 5064 := by rw [hn, List.length_append]; have := bitsTo_le b off j; omega
        have hne := row_type_ne hp hO (by decide)
        have cp : wr.cell? ⟨pn, 0, none⟩ = some s := cell_at hp 0
        have fp : wr.frozen? ⟨pn, 0, none⟩ = false := free_at hp 0
        have hpl := lt_of_block hp
        have HP := Lib.hid hp; clear hp
        have HO := Lib.hid hO; clear hO
        have HNE := Lib.hid hne; clear hne
        have HNN := Lib.hid hn; clear hn
        have HBT := Lib.hid hbit; clear hbit
        have hwo : IntKind.u64.wrap ((j : Int) + (off : Int)) = (j : Int) + (off : Int) := IntWalk.u64_in _ (by omega)
        go_wp2_with (at_builtin; refine wpList_append_lies _ rfl (.tmp 19) (.tmp 23) 23 rfl B 25 i0 _ 1 8 Tryz.underlying23 hi0 hiz his hib rfl (by omega) s n _ rfl (HO.out.alloc _) ⟨wr.heap.size, 0, none⟩ 1 1 [.int .u64 ((j : Int) + (off : Int))] rfl (by rfl) (cell_new_at (by simp)) (one_of rfl) (by omega) (by simp only [maxLen]; omega) (by omega) (by simp; omega) _ rfl ?_; intro g cap w1 hO1 hg1 hat hlt1; have HAT := Lib.hid hat; clear hat; have hP1 : w1.heap[pn]? = some (.cells #[s] 23 (0, 0)) := grown_heap hg1 (alloc_heap wr _ HP.out) (fun e => HNE.out pn e.symm rfl); clear cp fp; have c1 : w1.cell? ⟨pn, 0, none⟩ = some s := cell_at hP1 0; have f1 : w1.frozen? ⟨pn, 0, none⟩ = false := free_at hP1 0; have HP1 := Lib.hid hP1; clear hP1; have HO1 := Lib.hid hO1; clear hO1; have HG1 := Lib.hid hg1; clear hg1)
        have hgp : g ≠ pn := by
          rcases HAT.out with h | h
          · intro e; exact HNE.out g h e
          · simp at h; omega
        have hgB : B ≤ g := (HO1.out.lt g rfl).1
        have HK1 := Lib.hid (((hK.out.alloc _).grown HG1.out (fun b hb hlt => (HO.out.lt b hb).1)).setIn pn 0 (.slice (some ⟨g, 0, none⟩) (n + 1) cap) hBp)
        go_roundg (64 - (j + 1))
        case measure => omega
        case rel =>
          refine ⟨j + 1, by go_num, by omega, Nat.le_refl _, ⟨_, heap_setCell_same w1 pn 0 _ _ _ HP1.out, ?_, hBp⟩, HK1.out⟩
          have h9 := ownsRow_setCell_other HO1.out (a := ⟨pn, 0, none⟩) (ne_row hgp) (.slice (some ⟨g, 0, none⟩) (n + 1) cap)
          rw [bitsTo_yes HBT.out, ← List.append_assoc, List.length_append, List.map_append, ← HNN.out]
          have e : ((j : Int) + (off : Int)) = ((off + j : Nat) : Int) := by omega
          rw [e] at h9
          exact h9
      | false =>
        have hd := test_no hb hlt hbit
        have HBT := Lib.hid hbit; clear hbit
        go_wp2_with fail
        go_roundg (64 - (j + 1))
        case measure => omega
        case rel => exact ⟨j + 1, by go_num, by omega, Nat.le_refl _, by rw [bitsTo_no HBT.out]; exact hN.out, hK.out⟩
    · obtain rfl : j = 64 := by omega
      go_wp2_with fail
      first | go_end0 | refine bodyPost_ret (results_none rfl _ _ _) rfl ?_
      exact ⟨rfl, hN.out, hK.out⟩

/-- All numbers of some blocks. -/
def numsAll (P : List (Nat × Nat)) : List Int := P.flatMap fun x => bitsTo x.2 (x.1 * 64) 64
theorem numsAll_next {P : List (Nat × Nat)} {j : Nat} {x : Nat × Nat} (h : P[j]? = some x) : numsAll (P.take j) ++ bitsTo x.2 (x.1 * 64) 64 = numsAll (P.take (j + 1)) := by
  obtain ⟨hj, rfl⟩ := List.getElem?_eq_some_iff.1 h
  rw [List.take_succ_eq_append_getElem hj]
  unfold numsAll
  rw [List.flatMap_append]
  congr 1
  simp
theorem numsAll_le (P : List (Nat × Nat)) : (numsAll P).length ≤ 64 * P.length := by
  induction P with
  | nil => simp [numsAll]
  | cons a r ih =>
    have := bitsTo_le a.2 (a.1 * 64) 64
    unfold numsAll at ih ⊢
    rw [List.flatMap_cons, List.length_append, List.length_cons]
    omega

/-- The numbers of an array. -/
def NumsOut (P : List (Nat × Nat)) (w : World) (e : Ending) (w' : World) : Prop :=
  ∃ g c : Nat, e = .returned (.slice (some ⟨g, 0, none⟩) (numsAll P).length c) ∧ w.heap.size ≤ g ∧ w'.ownsRow w.heap.size 25 1 (.slice (some ⟨g, 0, none⟩) (numsAll P).length c) (numsAll P).length ((numsAll P).map u64V) ∧ Keeps (fun _ => False) w w'

set_option maxRecDepth 100000 in
set_option maxHeartbeats 1600000 in
theorem toNums229 (t : Nat) (bv iv : Value) (P : List (Nat × Nat)) (w : World) (hS : Sparse w t bv iv P) (h0 : 0 < P.length) (hlen : P.length ≤ 40) (hP : ∀ x ∈ P, x.1 ≤ 1023 ∧ x.2 < 18446744073709551616) (hne : 0 < (numsAll P).length) :
    Calls Tryz.prog 229 #[.pointer (some ⟨t, 0, none⟩)] w (NumsOut P w) := by
  obtain ⟨i0, hi0, hiz, his, hib⟩ := info_parts info25
  obtain ⟨hT, hB, hI⟩ := hS
  obtain ⟨n, hn⟩ : ∃ n, n = P.length := ⟨_, rfl⟩
  rw [← hn] at hB hI h0 hlen
  obtain ⟨gi, ci, rfl, _, hgi⟩ := hI.form h0
  obtain ⟨gb, cb, rfl, _, hgb⟩ := hB.form h0
  have c0 : w.cell? ⟨t, 0, none⟩ = some (.slice (some ⟨gb, 0, none⟩) n cb) := cell_at hT 0
  have c1 : w.cell? ⟨t, 1, none⟩ = some (.slice (some ⟨gi, 0, none⟩) n ci) := cell_at hT 1
  have hin : ((n : Int) == 0) = false := by simp; omega
  have HT := Lib.hid hT; clear hT
  have HB := Lib.hid hB; clear hB
  have HI := Lib.hid hI; clear hI
  have HPP := Lib.hid hP; clear hP
  have HN := Lib.hid hn; clear hn
  have HNE := Lib.hid hne; clear hne
  have hw1 : IntKind.u64.wrap ((n : Int) * 64) = (n : Int) * 64 := IntWalk.u64_in _ (by omega)
  have hd4 : ((n : Int) * 64) / 4 = ((n * 16 : Nat) : Int) := by omega
  have HBY := Lib.hid (show i0.bytes * (n * 16) ≤ 281474976710656 by rw [hib]; omega)
  have hmx : n * 16 ≤ maxLen := by simp only [maxLen]; omega
  have htl := World.block_lt_of_cell? w _ c0
  go_enter Tryz.func229, Tryz.ntmps229
  go_wp2_with (at_make; refine wpList_make_own _ rfl _ _ 23 rfl w.heap.size 25 i0 (.int .u64 0) 1 Tryz.underlying23 hi0 hiz his .i64 .u64 _ (n * 16) rfl rfl (by first | exact hd4 | omega) HBY.out hmx (Nat.le_refl _) ?_; intro w1 hO1 hg1; have HO1 := Lib.hid hO1; have HK1 := Lib.hid (Keeps.grownNone (Keeps.refl (fun _ => False) w) hg1); have c0' : ∀ o, (w1.alloc o).cell? ⟨t, 0, none⟩ = some (.slice (some ⟨gb, 0, none⟩) n cb) := fun o => (Keeps.alloc HK1.out o).cell c0 (fun f => f); have c1' : ∀ o, (w1.alloc o).cell? ⟨t, 1, none⟩ = some (.slice (some ⟨gi, 0, none⟩) n ci) := fun o => (Keeps.alloc HK1.out o).cell c1 (fun f => f); clear hO1 hg1 c0 c1)
  have HP2 := Lib.hid (heap_alloc_new w1 (.cells #[.slice (some ⟨w.heap.size, 0, none⟩) 0 (n * 16)] 23))
  have HK2 := Lib.hid (HK1.out.alloc (.cells #[.slice (some ⟨w.heap.size, 0, none⟩) 0 (n * 16)] 23))
  have HO2 := Lib.hid (HO1.out.alloc (.cells #[.slice (some ⟨w.heap.size, 0, none⟩) 0 (n * 16)] 23))
  have hz1 := HK1.out.size
  have HS : Hid (Nums w.heap.size w1.heap.size (numsAll (P.take 0)) (w1.alloc (.cells #[.slice (some ⟨w.heap.size, 0, none⟩) 0 (n * 16)] 23))) := ⟨_, HP2.out, HO2.out, hz1⟩
  clear c0' c1'
  generalize w1.alloc (.cells #[.slice (some ⟨w.heap.size, 0, none⟩) 0 (n * 16)] 23) = w2 at HP2 HK2 HO2 HS ⊢
  generalize w1.heap.size = pn at HP2 HS hz1 ⊢
  go_loopg [28] n (fun kx s28 wr => ∃ j : Nat, s28 = .int .i64 j ∧ j ≤ n ∧ n - j ≤ kx ∧ Hid (Nums w.heap.size pn (numsAll (P.take j)) wr) ∧ Hid (Keeps (fun _ => False) w wr))
  case atStart => exact ⟨0, rfl, Nat.zero_le _, by omega, HS.out, HK2.out⟩
  case round =>
    obtain ⟨j, rfl, hj, hgk, hN, hK⟩ := hrel
    by_cases hlt : j < n
    · have hjx : j < P.length := by rw [← HN.out]; exact hlt
      obtain ⟨⟨ix, b⟩, hx⟩ : ∃ x, P[j]? = some x := ⟨P[j], List.getElem?_eq_getElem hjx⟩
      obtain ⟨hix, hb⟩ := HPP.out _ (List.mem_of_getElem? hx)
      simp only at hix hb
      have d0 : wr.cell? ⟨t, 0, none⟩ = some (.slice (some ⟨gb, 0, none⟩) n cb) := hK.out.cell (cell_at HT.out 0) (fun f => f)
      have d1 : wr.cell? ⟨gi, j, none⟩ = some (.int .u64 (ix : Int)) := by
        refine hK.out.cell ?_ (fun f => f)
        rw [HI.out.cellAt j (by omega), List.getElem?_map, ixI, List.getElem?_map, hx]; rfl
      have d2 : wr.cell? ⟨gb, j, none⟩ = some (.int .u64 (b : Int)) := by
        refine hK.out.cell ?_ (fun f => f)
        rw [HB.out.cellAt j (by omega), List.getElem?_map, blI, List.getElem?_map, hx]; rfl
      obtain ⟨off, hoff⟩ : ∃ off, off = ix * 64 := ⟨_, rfl⟩
      have hm64 : IntKind.u64.wrap ((ix : Int) * 64) = (off : Int) := by rw [IntWalk.u64_in _ (by omega)]; omega
      have hnl : (numsAll (P.take j)).length ≤ 5000 := Nat.le_trans (numsAll_le _) (by rw [List.length_take]; omega)
      have HC := Lib.hid (nums202 w.heap.size pn b off _ wr hN.out hb (by omega) hnl)
      have hxx := numsAll_next hx
      simp only [← hoff] at hxx
      have HX := Lib.hid hxx; clear hx hnl hxx
      have hm65 : ((ix : Int) * 64) = (off : Int) := by omega
      have HOF := Lib.hid hoff; clear hoff
      go_wp2_with fail
      refine HC.out.mono ?_
      rintro e w3 ⟨rfl, hN3, hK3⟩
      have HN3 := Lib.hid hN3; clear hN3
      have HK3 := Lib.hid (hK.out.trans hK3 (fun b hb h => absurd hb (Nat.not_lt.2 h))); clear hK3 HC d0 d1 d2
      go_wp2_with fail
      go_roundg (n - (j + 1))
      case measure => omega
      case rel => exact ⟨j + 1, by go_num, by omega, Nat.le_refl _, by rw [← HX.out]; exact HN3.out, HK3⟩
    · obtain rfl : j = n := by omega
      have hN2 := hN.out
      rw [List.take_of_length_le (by rw [← HN.out]; exact Nat.le_refl _)] at hN2
      obtain ⟨s, hp, hO, _⟩ := hN2
      obtain ⟨g, c, rfl, hgB, _⟩ := hO.form HNE.out
      have d9 : wr.cell? ⟨pn, 0, none⟩ = some (.slice (some ⟨g, 0, none⟩) (numsAll P).length c) := cell_at hp 0
      have HOO := Lib.hid hO; clear hO hp
      go_wp2_with fail
      go_ret
      exact ⟨g, c, rfl, hgB, HOO.out, hK.out⟩
end Go.Proofs.YtegejfhomocloaaGreat
