/- A part of the proof of FnRoadOrder: the tree of intervals: the run. No conditions but those of the theorems. -/
import Derived.Test.YtegejfhomocloaaGreatJ16
import Derived.Test.YtegejfhomocloaaGreatJ7
set_option linter.all false
namespace Go.Proofs.YtegejfhomocloaaGreat
open Go.RowKit

theorem makeIvs (w : World) : (Instr.makeSlice 137 (.int .i64 0) (.int .i64 10)).run Tryz.prog w = .ok (.slice (some ⟨w.heap.size, 0, none⟩) 0 10) (w.alloc (.cells (Array.replicate 10 .nilIface) 130)) := by kernel_rfl

/-- What a query gives. -/
def IvsFound (L : List Iv) (w : World) (e : Ending) (w' : World) : Prop :=
  ∃ (g c : Nat) (ys : List Iv), e = .returned (.slice (some ⟨g, 0, none⟩) L.length c) ∧ w.heap.size ≤ g ∧ w'.ownsRow w.heap.size 130 1 (.slice (some ⟨g, 0, none⟩) L.length c) L.length (ys.map ivV) ∧ ys.Perm L ∧ ys.Pairwise (fun x y => x.k < y.k) ∧ Keeps (fun _ => False) w w'

set_option maxRecDepth 100000 in
set_option maxHeartbeats 1600000 in
theorem query135 (B tb la ha : Nat) (v3 : Value) (L : List Iv) (w : World) (hT : TreeRelA B tb w L) (h0 : 0 < L.length) (hlen : L.length ≤ 40) (hBw : B ≤ w.heap.size)
    (cl : w.cell? ⟨la, 0, none⟩ = some (.int .i64 (-1))) (ch : w.cell? ⟨ha, 0, none⟩ = some (.int .i64 65536)) :
    Calls Tryz.prog 135 #[.pointer (some ⟨tb, 0, none⟩), .iface 132 (.agg #[.slice (some ⟨la, 0, none⟩) 1 1, .slice (some ⟨ha, 0, none⟩) 1 1, v3])] w (IvsFound L w) := by
  rcases hT.nil_or with ⟨rfl, -, -⟩ | ⟨T, S, r0, hr, h1, h2, h3, h4, h5, h6, h7, h8⟩
  · simp at h0
  obtain ⟨m, hm⟩ := h7
  have c0 : w.cell? ⟨tb, 0, none⟩ = some (.pointer (some ⟨r0, 0, none⟩)) := by rw [cell_at hm 0, hr]; rfl
  have hlt : ∀ b s, S b = some s → b < w.heap.size := fun b s hs => h6.lt hs
  have HR := Lib.hid hr; clear hr
  have H3 := Lib.hid h3; clear h3
  have H4 := Lib.hid h4; clear h4
  have H5 := Lib.hid h5; clear h5
  have H6 := Lib.hid h6; clear h6
  have HM := Lib.hid hm; clear hm
  have HLT := Lib.hid hlt; clear hlt
  have HCL := Lib.hid cl; clear cl
  have HCH := Lib.hid ch; clear ch
  have HBW := Lib.hid hBw; clear hBw
  have hlen' : T.ivs.length ≤ 40 := by rw [H4.out.length_eq]; exact hlen
  have HLE := Lib.hid hlen'; clear hlen'
  clear hT h1 h2
  have mk := makeIvs
  go_enter Tryz.func135, Tryz.ntmps135
  go_wp2_with fail
  have K2 := Lib.hid (((Keeps.refl (fun _ => False) w).alloc (.cells (Array.replicate 10 .nilIface) 130)).alloc (.cells #[.slice (some ⟨w.heap.size, 0, none⟩) 0 10] 137))
  have O1 : (w.alloc (.cells (Array.replicate 10 .nilIface) 130)).ownsRow w.heap.size 130 1 (.slice (some ⟨w.heap.size, 0, none⟩) 0 10) 0 [] := ownsUp (row_made (heap_alloc_new w _) 0 10 (by simp) (by omega) (by simp [maxLen])) (fun y hy => Nat.le_of_eq (Option.some.inj hy))
  have HP2 := alloc_at (w.alloc (.cells (Array.replicate 10 .nilIface) 130)) (.cells #[.slice (some ⟨w.heap.size, 0, none⟩) 0 10] 137) (w.heap.size + 1) (by simp)
  have HG2 : Hid (GatherI w.heap.size (w.heap.size + 1) [] ((w.alloc (.cells (Array.replicate 10 .nilIface) 130)).alloc (.cells #[.slice (some ⟨w.heap.size, 0, none⟩) 0 10] 137))) := ⟨_, HP2, O1.alloc _, by omega⟩
  clear O1 HP2 c0 mk
  generalize (w.alloc (.cells (Array.replicate 10 .nilIface) 130)).alloc (.cells #[.slice (some ⟨w.heap.size, 0, none⟩) 0 10] 137) = w2 at K2 HG2 ⊢
  refine (lowR157 la ha (-1) v3 w2 (K2.out.cell HCL.out (fun f => f))).mono ?_
  rintro e w3 ⟨rfl, hb⟩
  have k3 := Keeps.of_new (F := fun _ => False) hb
  have K3 := Lib.hid (K2.out.trans k3 (fun _ _ f => f))
  have HG3 := Lib.hid (HG2.out.new k3)
  clear hb k3 K2 HG2
  go_wp2_with fail
  refine (highR155 la ha 65536 v3 w3 (K3.out.cell HCH.out (fun f => f))).mono ?_
  rintro e w4 ⟨rfl, hb⟩
  have k4 := Keeps.of_new (F := fun _ => False) hb
  have K4 := Lib.hid (K3.out.trans k4 (fun _ _ f => f))
  have HG4 := Lib.hid (HG3.out.new k4)
  clear hb k4 K3 HG3
  have hm4 := K4.out.heap HM.out (fun f => f)
  have c0 : w4.cell? ⟨tb, 0, none⟩ = some (.pointer (some ⟨r0, 0, none⟩)) := by rw [cell_at hm4 0, HR.out]; rfl
  have c1 : w4.cell? ⟨tb, 1, none⟩ = some (.int .u64 1) := cell_at hm4 1
  clear hm4
  have hzz : w.heap.size = w.heap.size := rfl
  generalize hz : w.heap.size = z at hzz HG4 HLT HBW ⊢
  have HZ := Lib.hid hz; clear hz hzz
  go_wp2_with fail
  go_region_held3 (fun w' => w'.cell? ⟨tb, 0, none⟩ = some (.pointer (some ⟨r0, 0, none⟩)) ∧ w'.cell? ⟨tb, 1, none⟩ = some (.int .u64 1)) (first | go_keep | exact ⟨hk5.out.cell c0 (fun f => NTB.out f), hk5.out.cell c1 (fun f => NTB.out f)⟩)
    (first
      | (go_at_call 141; refine (query141 z (z + 1) (.agg #[.slice (some ⟨la, 0, none⟩) 1 1, .slice (some ⟨ha, 0, none⟩) 1 1, v3]) T S B [] w4.drew r0 HR.out (fun x hx => H5.out.2 x hx) (H6.out.new (K4.out.drew)) HLT.out HBW.out (HG4.out.new ((Keeps.refl _ _).drew)) (by simp only [List.length_nil]; have := HLE.out; omega)).mono ?_; rintro e w5 ⟨rfl, hg5, hk⟩; have HG5 := Lib.hid hg5; have hk5 : Hid (Keeps (fun y => z ≤ y) w4 w5) := Keeps.ofDrew hk; have NTB : Hid (¬ z ≤ tb) := by (have := lt_of_block HM.out; have := HZ.out; show ¬ z ≤ tb; omega)))
  obtain ⟨s, hs1, hs2, hs3⟩ := HG5.out
  have hnl : ([] ++ T.ivs).length = L.length := by rw [List.nil_append, H4.out.length_eq]
  rw [hnl] at hs2
  obtain ⟨g, c, rfl, hgb, hgl⟩ := hs2.form h0
  have d1 : w5.cell? ⟨z + 1, 0, none⟩ = some (.slice (some ⟨g, 0, none⟩) L.length c) := cell_at hs1 0
  have HS2 := Lib.hid hs2; clear hs2 hs1 hnl
  go_wp2_with fail
  go_ret
  have KF : Keeps (fun _ => False) w w5 := K4.out.trans hk5.out (fun b hb f => by rw [HZ.out] at hb; omega)
  rw [← HZ.out] at hgb HS2
  exact ⟨g, c, T.ivs, rfl, hgb, HS2.out, H4.out, H3.out, KF⟩

@[go_sem] theorem ta_span (a b c : Value) (w : World) : (Instr.typeAssert (.iface 132 (.agg #[a, b, c])) 130 132 false).run Tryz.prog w = .ok (.agg #[a, b, c]) w := by kernel_rfl
theorem row_ne_box63 {w : World} {p B n : Nat} {v : Value} {xs : List Value} {cs : Array Value} (h : w.heap[p]? = some (.cells cs 63 (0, 0))) (ho : w.ownsRow B 38 3 v n xs) : v.ownBlock ≠ some p := fun e => by
  rcases ho.2 with ⟨h', _⟩ | ⟨g, cap, cur, h', hb, hg, _⟩
  · rw [h'] at e; cases e
  · rw [h'] at e
    have : g = p := Option.some.inj e
    subst this
    rw [h] at hg
    injection hg with hg
    injection hg with _ h2
    cases h2

/-- Spans that are being gathered. -/
def GatherS (B pe : Nat) (xs : List Iv) (w : World) : Prop :=
  ∃ s, w.heap[pe]? = some (.cells #[s, .int .u64 0] 63 (0, 0)) ∧ w.ownsRow B 38 3 s xs.length (spanCells xs) ∧ B ≤ pe
theorem GatherS.new {B pe : Nat} {xs : List Iv} {w w' : World} (h : GatherS B pe xs w) (k : Keeps (fun _ => False) w w') : GatherS B pe xs w' := by
  obtain ⟨s, a, b, c⟩ := h
  exact ⟨s, k.heap a (fun f => f), k.row b (fun _ _ f => f), c⟩
theorem spanCells_append (xs ys : List Iv) : spanCells (xs ++ ys) = spanCells xs ++ spanCells ys := List.flatMap_append

/-- What a visit's closure may turn: its variable, and rows of spans. -/
def MineS (B pe : Nat) (w0 : World) (x : Nat) : Prop := B ≤ x ∧ (x = pe ∨ ∃ cs fr, w0.heap[x]? = some (.cells cs 38 fr))
theorem mineS_back {B pe : Nat} {w w1 : World} (h : Keeps (MineS B pe w) w w1) {x : Nat} (hx : x < w.heap.size) (hm : MineS B pe w1 x) : MineS B pe w x := by
  by_cases hw : MineS B pe w x
  · exact hw
  · obtain ⟨h1, h2⟩ := hm
    rcases h2 with h2 | ⟨cs, fr, h2⟩
    · exact ⟨h1, .inl h2⟩
    · rw [h.block x hx hw] at h2
      exact ⟨h1, .inr ⟨cs, fr, h2⟩⟩
theorem mineS_trans {B pe : Nat} {w w1 w2 : World} (h : Keeps (MineS B pe w) w w1) (k : Keeps (MineS B pe w1) w1 w2) : Keeps (MineS B pe w) w w2 := h.trans k (fun _ hb hm => mineS_back h hb hm)
theorem not_mineS {B pe x : Nat} {w : World} {cs : Array Value} {t : TypeId} {fr : Nat × Nat} (hx : w.heap[x]? = some (.cells cs t fr)) (ht : t ≠ 38) (hne : x ≠ pe) : ¬ MineS B pe w x := fun ⟨_, h⟩ => by
  rcases h with h | ⟨cs', fr', h⟩
  · exact hne h
  · rw [hx] at h
    injection h with h
    injection h with _ h2
    exact ht h2
theorem own_type {w : World} {B e size n b : Nat} {v : Value} {xs : List Value} (h : w.ownsRow B e size v n xs) (hb : v.ownBlock = some b) : ∃ cs fr, w.heap[b]? = some (.cells cs e fr) := by
  rcases h.2 with ⟨h', _⟩ | ⟨g, cap, cur, h', hB, hg, _⟩
  · rw [h'] at hb; cases hb
  · rw [h'] at hb
    have : g = b := Option.some.inj hb
    subst this
    exact ⟨_, _, hg⟩

set_option maxRecDepth 100000 in
set_option maxHeartbeats 800000 in
theorem keep38 (B pe n : Nat) (xs : List Iv) (i : Iv) (w : World) (hG : GatherS B pe xs w) (hn : xs.length = n) (hlen : n ≤ 100) :
    Calls Tryz.prog 38 #[ivV i, .pointer (some ⟨pe, 0, none⟩)] w fun e w' => e = .returned (.tuple #[]) ∧ GatherS B pe (xs ++ [i]) w' ∧ Keeps (MineS B pe w) w w' := by
  obtain ⟨s, hp, hO, hB⟩ := hG
  rw [hn] at hO
  obtain ⟨i0, hi0, hiz, his, hib⟩ := info_parts info38
  have hne := row_ne_box63 hp hO
  have cp : w.cell? ⟨pe, 0, none⟩ = some s := cell_at hp 0
  have fp : w.frozen? ⟨pe, 0, none⟩ = false := free_at hp 0
  have cp' : ∀ o, (w.alloc o).cell? ⟨pe, 0, none⟩ = some s := fun o => cell_at (alloc_heap w o hp) 0
  have hpl := lt_of_block hp
  have HP := Lib.hid hp; clear hp
  have HO := Lib.hid hO; clear hO
  have HNE := Lib.hid hne; clear hne
  have HN := Lib.hid hn; clear hn
  show Calls Tryz.prog 38 #[.iface 132 (.agg #[.slice (some ⟨i.la, 0, none⟩) 1 1, .slice (some ⟨i.ha, 0, none⟩) 1 1, .int .u64 (i.id : Int)]), .pointer (some ⟨pe, 0, none⟩)] w _
  go_enter Tryz.func38, Tryz.ntmps38
  go_wp2_with fail
  go_region_law ((refine step_append_lies _ (by rfl) (.tmp 4) (.tmp 8) 28 (by rfl) B 38 i0 _ 3 56 Tryz.underlying28 hi0 hiz his hib (by rfl) (by omega) s n _ (by rfl) (HO.out.alloc _) ⟨w.heap.size, 0, none⟩ 1 1 [.slice (some ⟨i.la, 0, none⟩) 1 1, .slice (some ⟨i.ha, 0, none⟩) 1 1, .int .u64 (i.id : Int)] (by rfl) (by rfl) (news3 (heap_alloc_new w _)) (three_of rfl rfl rfl) (by omega) (by simp only [maxLen]; omega) (by omega) (by simp; omega) _ rfl ?_); intro g cap w1 hO1 hg1 hat hlt; have hP1 : w1.heap[pe]? = some (.cells #[s, .int .u64 0] 63 (0, 0)) := grown_heap hg1 (alloc_heap w _ HP.out) (Ne.symm HNE.out); have c1 : w1.cell? ⟨pe, 0, none⟩ = some s := cell_at hP1 0; have f1 : w1.frozen? ⟨pe, 0, none⟩ = false := free_at hP1 0; have HP1 := Lib.hid hP1; clear hP1; have HO1 := Lib.hid hO1; clear hO1; have HG1 := Lib.hid hg1; clear hg1)
  all_goals
    have hgp : g ≠ pe := by
      rcases hat with h | h
      · intro e; exact HNE.out (e ▸ h)
      · simp at h; omega
    have hgB : B ≤ g := (HO1.out.lt g rfl).1
    have hK1 : Keeps (MineS B pe w) w w1 := by
      first
        | exact (((Keeps.refl _ w).alloc _).drew).grown HG1.out (fun b hb _ => ⟨(HO.out.lt b hb).1, .inr (own_type HO.out hb)⟩)
        | exact (((Keeps.refl _ w).drew).alloc _).grown HG1.out (fun b hb _ => ⟨(HO.out.lt b hb).1, .inr (own_type HO.out hb)⟩)
        | exact ((Keeps.refl _ w).alloc _).grown HG1.out (fun b hb _ => ⟨(HO.out.lt b hb).1, .inr (own_type HO.out hb)⟩)
    have HK1 := Lib.hid hK1
    clear hK1 cp' hat cp fp c1 f1
    go_wp2_with fail
    go_end0
    refine ⟨rfl, ⟨_, heap_setCell_same w1 pe 0 _ _ _ HP1.out, ?_, hB⟩, HK1.out.setIn pe 0 _ ⟨hB, .inl rfl⟩⟩
    have hl : (xs ++ [i]).length = n + 1 := by simp [HN.out]
    rw [hl, spanCells_append]
    exact ownsRow_setCell_other HO1.out (a := ⟨pe, 0, none⟩) (ne_row hgp) _
end Go.Proofs.YtegejfhomocloaaGreat

namespace Go.Proofs.YtegejfhomocloaaGreat
open Go.RowKit

@[go_sem] theorem na127a (p : Addr) (w : World) : (nilAhead 446 127 (.pointer (some p)) "Add").run Tryz.prog w = .ok (some false) w := by kernel_rfl
@[go_sem] theorem na127q (p : Addr) (w : World) : (nilAhead 446 127 (.pointer (some p)) "Query").run Tryz.prog w = .ok (some false) w := by kernel_rfl

/-- The step that adds. -/
def AddStepI (B tb : Nat) (ivs : List Iv) (w : World) (e : Ending) (w' : World) : Prop :=
  e = .returned (.agg #[.slice none 0 0, .int .u64 0]) ∧ TreeRelA B tb w' ivs ∧ Keeps (Mine B tb w) w w'

set_option maxRecDepth 100000 in
set_option maxHeartbeats 1600000 in
theorem step22add (B tb sg n cap : Nat) (ivs : List Iv) (w : World) (hT : TreeRelA B tb w []) (hBw : B ≤ w.heap.size) (hn : ivs.length = n) (h0 : 0 < n) (hlen : n ≤ 40) (hrow : w.ownsRow 0 38 3 (.slice (some ⟨sg, 0, none⟩) n cap) n (spanCells ivs))
    (hI : ∀ x ∈ ivs, IvOK B w x) (hk : (ivs.map (·.k)).Nodup) (hid : (ivs.map (·.id)).Nodup) :
    Calls Tryz.prog 22 #[.iface 127 (.pointer (some ⟨tb, 0, none⟩)), .agg #[.int .i64 1, .slice (some ⟨sg, 0, none⟩) n cap]] w (AddStepI B tb ivs w) := by
  have htl : tb < w.heap.size := by obtain ⟨rt, m, hm⟩ := hT.at'; exact lt_of_block hm
  have hBt : B ≤ tb := by obtain ⟨T, S, h1, h2, h3, h4, h5, h6, h7, h8⟩ := hT; exact h8
  have HT := Lib.hid hT; clear hT
  have HN := Lib.hid hn; clear hn
  have HR := Lib.hid hrow; clear hrow
  have HI := Lib.hid hI; clear hI
  have HK := Lib.hid hk; clear hk
  have HID := Lib.hid hid; clear hid
  go_enter Tryz.func22, Tryz.ntmps22
  go_wp2_with fail
  have K3 := Lib.hid ((((Keeps.refl (fun _ => False) w).alloc (.cells #[.int .i64 1, .slice (some ⟨sg, 0, none⟩) n cap] 52)).alloc (.cells #[.slice none 0 0, .int .u64 0] 63)).alloc (.cells #[.slice none 0 0, .int .u64 0] 63))
  have HB0 := Lib.hid (alloc_heap ((w.alloc (.cells #[.int .i64 1, .slice (some ⟨sg, 0, none⟩) n cap] 52)).alloc (.cells #[.slice none 0 0, .int .u64 0] 63)) (.cells #[.slice none 0 0, .int .u64 0] 63) (alloc_heap (w.alloc (.cells #[.int .i64 1, .slice (some ⟨sg, 0, none⟩) n cap] 52)) (.cells #[.slice none 0 0, .int .u64 0] 63) (heap_alloc_new w (.cells #[.int .i64 1, .slice (some ⟨sg, 0, none⟩) n cap] 52))))
  have HA1 := Lib.hid (alloc_heap ((w.alloc (.cells #[.int .i64 1, .slice (some ⟨sg, 0, none⟩) n cap] 52)).alloc (.cells #[.slice none 0 0, .int .u64 0] 63)) (.cells #[.slice none 0 0, .int .u64 0] 63) (alloc_at (w.alloc (.cells #[.int .i64 1, .slice (some ⟨sg, 0, none⟩) n cap] 52)) (.cells #[.slice none 0 0, .int .u64 0] 63) (w.heap.size + 1) (by simp)))
  have HA2 := Lib.hid (alloc_at ((w.alloc (.cells #[.int .i64 1, .slice (some ⟨sg, 0, none⟩) n cap] 52)).alloc (.cells #[.slice none 0 0, .int .u64 0] 63)) (.cells #[.slice none 0 0, .int .u64 0] 63) (w.heap.size + 1 + 1) (by simp))
  have hz3 : (((w.alloc (.cells #[.int .i64 1, .slice (some ⟨sg, 0, none⟩) n cap] 52)).alloc (.cells #[.slice none 0 0, .int .u64 0] 63)).alloc (.cells #[.slice none 0 0, .int .u64 0] 63)).heap.size = w.heap.size + 3 := by simp
  generalize ((w.alloc (.cells #[.int .i64 1, .slice (some ⟨sg, 0, none⟩) n cap] 52)).alloc (.cells #[.slice none 0 0, .int .u64 0] 63)).alloc (.cells #[.slice none 0 0, .int .u64 0] 63) = w3 at K3 HB0 HA1 HA2 hz3 ⊢
  have hzz : w.heap.size = w.heap.size := rfl
  generalize hz : w.heap.size = z at HB0 HA1 HA2 hz3 htl hBw hzz ⊢
  have HZ := Lib.hid hz; clear hz hzz
  have bx : w3.cell? ⟨z, 1, none⟩ = some (.slice (some ⟨sg, 0, none⟩) n cap) := cell_at HB0.out 1
  have IV3 : Hid (∀ x ∈ ivs, IvOK B w3 x) := fun x hx => (HI.out x hx).keeps K3.out (fun _ _ f => f)
  have HT3 := Lib.hid (HT.out.new K3.out)
  have hBz : B ≤ z := hBw
  have hzt : z ≠ tb := by omega
  have hzt1 : z + 1 ≠ tb := by omega
  have hzt2 : z + 1 + 1 ≠ tb := by omega
  go_region_held3 (fun w' => w'.cell? ⟨z, 1, none⟩ = some (.slice (some ⟨sg, 0, none⟩) n cap)) (first | go_keep | exact hk5.out.cell bx (fun h => NZ.out h) | exact hk4.out.cell bx (fun f => f))
    (first
      | (go_at_call 39; refine (spans39 sg n cap ivs w3.drew HN.out h0 hlen (K3.out.row HR.out (ownNot fun f => f))).mono ?_; rintro e w4 ⟨g1, c1, rfl, hg1, hO1, hk⟩; have hk4 : Hid (Keeps (fun _ => False) w3 w4) := Keeps.ofDrew hk; have HO1 := Lib.hid hO1; have NZ : Hid (¬ Mine B tb w4 z) := not_mine (hk4.out.heap HB0.out (fun f => f)) (by decide) hzt; clear hO1 hk)
      | (go_at_call 132; refine (adds132 B tb g1 ivs.length c1 ivs w4 rfl (by rw [HN.out]; exact hlen) (HT3.out.new hk4.out) (by have := hk4.out.size; omega) (fun x hx => (IV3.out x hx).keeps hk4.out (fun _ _ f => f)) HK.out HID.out ?_ ?_).mono ?_; (obtain ⟨cs, fr, h7⟩ := own_type HO1.out rfl; exact ⟨fr, cs, h7⟩); (intro i x hx; have hil : i < ivs.length := (List.getElem?_eq_some_iff.1 hx).1; rw [HO1.out.cellAt i (by omega), List.getElem?_map, hx]; rfl); rintro e w5 ⟨rfl, hT5, hk⟩; have HT5 := Lib.hid hT5; have HK5 := Lib.hid hk; have hk5 : Hid (Keeps (Mine B tb w4) w3 w5) := (hk4.out.mono (fun _ _ f => f.elim)).trans hk (fun _ _ f => f); clear hT5 hk))
  all_goals
    have b2 := hk4.out.heap HA2.out (fun f => f)
    have b1 := hk4.out.heap HA1.out (fun f => f)
    have B2 := Lib.hid (HK5.out.heap b2 (not_mine b2 (by decide) hzt2))
    have B1 := Lib.hid (HK5.out.heap b1 (not_mine b1 (by decide) hzt1))
    have a20 : w5.cell? ⟨z + 1 + 1, 0, none⟩ = some (.slice none 0 0) := cell_at B2.out 0
    have a21 : w5.cell? ⟨z + 1 + 1, 1, none⟩ = some (.int .u64 0) := cell_at B2.out 1
    have a10 : w5.cell? ⟨z + 1, 0, none⟩ = some (.slice none 0 0) := cell_at B1.out 0
    have a11 : w5.cell? ⟨z + 1, 1, none⟩ = some (.int .u64 0) := cell_at B1.out 1
    have f10 : w5.frozen? ⟨z + 1, 0, none⟩ = false := free_at B1.out 0
    have f11 : w5.frozen? ⟨z + 1, 1, none⟩ = false := free_at B1.out 1
    clear b1 b2
    go_wp2_with fail
    have A2 := heap_setCell_same _ (z + 1) 1 _ _ (.int .u64 0) (heap_setCell_same w5 (z + 1) 0 _ _ (.slice none 0 0) B1.out)
    have KF := ((Keeps.refl (fun y => y = z + 1) w5).setIn (z + 1) 0 (.slice none 0 0) rfl).setIn (z + 1) 1 (.int .u64 0) rfl
    refine bodyPost_ret (results_cell_row rfl _ _ (z + 1) 63 _ (0, 0) _ rfl A2 Tryz.underlying63 rfl (by kernel_rfl)) rfl ?_
    refine ⟨rfl, ?_, ?_⟩
    · refine HT5.out.keeps KF (fun x e => by subst e; omega) (fun e => hzt1 e.symm) (fun x cs hx e => ?_)
      subst e
      rw [B1.out] at hx
      injection hx with hx
      injection hx with _ h2
      exact absurd h2 (by decide)
    · have K4 : Keeps (Mine B tb w) w w4 := (K3.out.trans hk4.out (fun _ _ f => f)).mono (fun _ _ f => f.elim)
      exact (mine_trans K4 HK5.out).trans KF (fun b hb e => by have h9 : b = z + 1 := e; have := HZ.out; omega)

/-- Intervals found, as spans. -/
def SpansTold (L : List Iv) (w : World) (e : Ending) (w' : World) : Prop :=
  ∃ (g c : Nat) (ys : List Iv), e = .returned (.agg #[.slice (some ⟨g, 0, none⟩) L.length c, .int .u64 0]) ∧ w'.ownsRow w.heap.size 38 3 (.slice (some ⟨g, 0, none⟩) L.length c) L.length (spanCells ys) ∧ ys.Perm L ∧ ys.Pairwise (fun x y => x.k < y.k) ∧ Keeps (fun _ => False) w w'

set_option maxRecDepth 100000 in
set_option maxHeartbeats 1600000 in
theorem step22query (B tb qg qc la ha : Nat) (L : List Iv) (w : World) (hT : TreeRelA B tb w L) (hBw : B ≤ w.heap.size) (h0 : 0 < L.length) (hlen : L.length ≤ 40)
    (q0 : w.cell? ⟨qg, 0, none⟩ = some (.slice (some ⟨la, 0, none⟩) 1 1)) (q1 : w.cell? ⟨qg, 1, none⟩ = some (.slice (some ⟨ha, 0, none⟩) 1 1)) (q2 : w.cell? ⟨qg, 2, none⟩ = some (.int .u64 0))
    (cl : w.cell? ⟨la, 0, none⟩ = some (.int .i64 (-1))) (ch : w.cell? ⟨ha, 0, none⟩ = some (.int .i64 65536)) :
    Calls Tryz.prog 22 #[.iface 127 (.pointer (some ⟨tb, 0, none⟩)), .agg #[.int .i64 3, .slice (some ⟨qg, 0, none⟩) 1 qc]] w (SpansTold L w) := by
  have HT := Lib.hid hT; clear hT
  have HCL := Lib.hid cl; clear cl
  have HCH := Lib.hid ch; clear ch
  have Q0 := Lib.hid q0; clear q0
  have Q1 := Lib.hid q1; clear q1
  have Q2 := Lib.hid q2; clear q2
  go_enter Tryz.func22, Tryz.ntmps22
  go_upto_region 4 with fail
  have K3 := Lib.hid ((((Keeps.refl (fun _ => False) w).alloc (.cells #[.int .i64 3, .slice (some ⟨qg, 0, none⟩) 1 qc] 52)).alloc (.cells #[.slice none 0 0, .int .u64 0] 63)).alloc (.cells #[.slice none 0 0, .int .u64 0] 63))
  have HB0 := Lib.hid (alloc_heap ((w.alloc (.cells #[.int .i64 3, .slice (some ⟨qg, 0, none⟩) 1 qc] 52)).alloc (.cells #[.slice none 0 0, .int .u64 0] 63)) (.cells #[.slice none 0 0, .int .u64 0] 63) (alloc_heap (w.alloc (.cells #[.int .i64 3, .slice (some ⟨qg, 0, none⟩) 1 qc] 52)) (.cells #[.slice none 0 0, .int .u64 0] 63) (heap_alloc_new w (.cells #[.int .i64 3, .slice (some ⟨qg, 0, none⟩) 1 qc] 52))))
  have HA1 := Lib.hid (alloc_heap ((w.alloc (.cells #[.int .i64 3, .slice (some ⟨qg, 0, none⟩) 1 qc] 52)).alloc (.cells #[.slice none 0 0, .int .u64 0] 63)) (.cells #[.slice none 0 0, .int .u64 0] 63) (alloc_at (w.alloc (.cells #[.int .i64 3, .slice (some ⟨qg, 0, none⟩) 1 qc] 52)) (.cells #[.slice none 0 0, .int .u64 0] 63) (w.heap.size + 1) (by simp)))
  have HA2 := Lib.hid (alloc_at ((w.alloc (.cells #[.int .i64 3, .slice (some ⟨qg, 0, none⟩) 1 qc] 52)).alloc (.cells #[.slice none 0 0, .int .u64 0] 63)) (.cells #[.slice none 0 0, .int .u64 0] 63) (w.heap.size + 1 + 1) (by simp))
  have hz3 : (((w.alloc (.cells #[.int .i64 3, .slice (some ⟨qg, 0, none⟩) 1 qc] 52)).alloc (.cells #[.slice none 0 0, .int .u64 0] 63)).alloc (.cells #[.slice none 0 0, .int .u64 0] 63)).heap.size = w.heap.size + 3 := by simp
  generalize ((w.alloc (.cells #[.int .i64 3, .slice (some ⟨qg, 0, none⟩) 1 qc] 52)).alloc (.cells #[.slice none 0 0, .int .u64 0] 63)).alloc (.cells #[.slice none 0 0, .int .u64 0] 63) = w3 at K3 HB0 HA1 HA2 hz3 ⊢
  have hzz : w.heap.size = w.heap.size := rfl
  generalize hz : w.heap.size = z at HB0 HA1 HA2 hz3 hBw hzz ⊢
  have HZ := Lib.hid hz; clear hz hzz
  have bx0 : w3.cell? ⟨z, 0, none⟩ = some (.int .i64 3) := cell_at HB0.out 0
  have bx : w3.cell? ⟨z, 1, none⟩ = some (.slice (some ⟨qg, 0, none⟩) 1 qc) := cell_at HB0.out 1
  have p0 : w3.cell? ⟨qg, 0, none⟩ = some (.slice (some ⟨la, 0, none⟩) 1 1) := K3.out.cell Q0.out (fun f => f)
  have p1 : w3.cell? ⟨qg, 1, none⟩ = some (.slice (some ⟨ha, 0, none⟩) 1 1) := K3.out.cell Q1.out (fun f => f)
  have p2 : w3.cell? ⟨qg, 2, none⟩ = some (.int .u64 0) := K3.out.cell Q2.out (fun f => f)
  go_wp2_with fail
  obtain ⟨n, hn⟩ : ∃ n, n = L.length := ⟨_, rfl⟩
  have HN := Lib.hid hn; clear hn
  go_region_held3 (fun w' => w'.cell? ⟨z, 1, none⟩ = some (.slice (some ⟨qg, 0, none⟩) 1 qc) ∧ w'.cell? ⟨qg, 0, none⟩ = some (.slice (some ⟨la, 0, none⟩) 1 1) ∧ w'.cell? ⟨qg, 1, none⟩ = some (.slice (some ⟨ha, 0, none⟩) 1 1) ∧ w'.cell? ⟨qg, 2, none⟩ = some (.int .u64 0)) (first | go_keep | exact ⟨hk4.out.cell bx (fun f => f), hk4.out.cell p0 (fun f => f), hk4.out.cell p1 (fun f => f), hk4.out.cell p2 (fun f => f)⟩)
    (first
      | (go_at_call 135; refine (query135 B tb la ha (.int .u64 0) L w3.drew (HT.out.new (K3.out.drew)) h0 hlen (by simp only [World.size_drew]; omega) (K3.out.drew.cell HCL.out (fun f => f)) (K3.out.drew.cell HCH.out (fun f => f))).mono ?_; rintro e w4 ⟨g2, c2, ys, rfl, hg2, hO2, hp, hs, hk⟩; rw [← HN.out] at hO2 ⊢; have HO2 := Lib.hid hO2; have HP := Lib.hid hp; have HSO := Lib.hid hs; have HG2 := Lib.hid hg2; have hk4 : Hid (Keeps (fun _ => False) w3 w4) := Keeps.ofDrew hk; clear hO2 hp hs hk hg2))
  all_goals
    clear bx bx0 p0 p1 p2
    have hyl : ys.length = n := by rw [HP.out.length_eq]; exact HN.out.symm
    have HYL := Lib.hid hyl; clear hyl
    obtain ⟨cs2, fr2, ht2⟩ := own_type HO2.out rfl
    have HA4 := Lib.hid (hk4.out.heap HA2.out (fun f => f))
    have hgz : g2 ≠ z + 1 + 1 := type_ne' ht2 HA4.out (by decide)
    have NG : Hid (¬ MineS z (z + 1 + 1) w4 g2) := not_mineS ht2 (by decide) hgz
    have hA14 := hk4.out.heap HA1.out (fun f => f)
    have HA14 := Lib.hid hA14
    have NA : Hid (¬ MineS z (z + 1 + 1) w4 (z + 1)) := not_mineS hA14 (by decide) (by omega)
    have hlen4 : n ≤ 40 := by rw [HN.out]; exact hlen
    have h04 : 0 < n := by rw [HN.out]; exact h0
    have GS : Hid (GatherS z (z + 1 + 1) (ys.take 0) w4) := ⟨_, HA4.out, World.ownsRow_nil _ _ _ _, by omega⟩
    have hk4s := hk4.out.size
    clear ht2 hA14
    go_wp2_with fail
    go_loopg [50] n (fun kx s50 wr => ∃ j : Nat, s50 = .int .i64 j ∧ j ≤ n ∧ n - j ≤ kx ∧ Hid (GatherS z (z + 1 + 1) (ys.take j) wr) ∧ Hid (Keeps (MineS z (z + 1 + 1) w4) w4 wr))
    case atStart => exact ⟨0, rfl, Nat.zero_le _, by omega, GS.out.new ((Keeps.refl _ _).drewN 0), Keeps.refl _ _⟩
    case round =>
      obtain ⟨j, rfl, hj, hgk, hG, hK⟩ := hrel
      clear GS
      by_cases hlt : j < n
      · have hd1 : decide ((j : Int) < (n : Int)) = true := by simp; omega
        obtain ⟨y, hy⟩ : ∃ y, ys[j]? = some y := ⟨_, List.getElem?_eq_getElem (by rw [HYL.out]; exact hlt)⟩
        have cj4 : w4.cell? ⟨g2, j, none⟩ = some (ivV y) := by rw [HO2.out.cellAt j (by omega), List.getElem?_map, hy]; rfl
        have cj : wr.cell? ⟨g2, j, none⟩ = some (ivV y) := hK.out.cell cj4 NG.out
        have hjl : (ys.take j).length = j := by rw [List.length_take, HYL.out]; omega
        have KE := Lib.hid (keep38 z (z + 1 + 1) j (ys.take j) y wr hG.out hjl (by omega))
        have HY := Lib.hid hy
        clear cj4 hjl hy hG
        go_wp2_with fail
        refine KE.out.mono ?_
        rintro e w6 ⟨rfl, hG6, hk6⟩
        have HG6 := Lib.hid hG6; clear hG6
        have K6 := Lib.hid (mineS_trans hK.out hk6); clear hk6 KE
        clear cj
        go_wp2_with fail
        go_roundg (n - (j + 1))
        case measure => omega
        case rel =>
          refine ⟨j + 1, by go_num, by omega, Nat.le_refl _, ?_, K6.out⟩
          have : ys.take (j + 1) = ys.take j ++ [y] := by
            obtain ⟨hjl, rfl⟩ := List.getElem?_eq_some_iff.1 HY.out
            rw [List.take_succ_eq_append_getElem hjl]
          rw [this]; exact HG6.out
      · have hd1 : decide ((j : Int) < (n : Int)) = false := by simp; omega
        obtain rfl : j = n := by omega
        have hGo := hG.out
        rw [List.take_of_length_le (by rw [HYL.out]; exact Nat.le_refl _)] at hGo
        obtain ⟨s, hs1, hs2, hs3⟩ := hGo
        rw [HYL.out] at hs2
        obtain ⟨g, c, rfl, hgb, hgl⟩ := hs2.form h04
        have HS2 := Lib.hid hs2; clear hs2
        have hB1 := hK.out.heap HA14.out NA.out
        have B1 := Lib.hid hB1
        have a20 : wr.cell? ⟨z + 1 + 1, 0, none⟩ = some (.slice (some ⟨g, 0, none⟩) j c) := cell_at hs1 0
        have a21 : wr.cell? ⟨z + 1 + 1, 1, none⟩ = some (.int .u64 0) := cell_at hs1 1
        have a10 : wr.cell? ⟨z + 1, 0, none⟩ = some (.slice none 0 0) := cell_at hB1 0
        have a11 : wr.cell? ⟨z + 1, 1, none⟩ = some (.int .u64 0) := cell_at hB1 1
        have f10 : wr.frozen? ⟨z + 1, 0, none⟩ = false := free_at hB1 0
        have f11 : wr.frozen? ⟨z + 1, 1, none⟩ = false := free_at hB1 1
        clear hs1 hB1 hG
        go_wp2_with fail
        have A2 := heap_setCell_same _ (z + 1) 1 _ _ (.int .u64 0) (heap_setCell_same wr (z + 1) 0 _ _ (.slice (some ⟨g, 0, none⟩) j c) B1.out)
        have KF := ((Keeps.refl (fun y => y = z + 1) wr).setIn (z + 1) 0 (.slice (some ⟨g, 0, none⟩) j c) rfl).setIn (z + 1) 1 (.int .u64 0) rfl
        refine bodyPost_ret (results_cell_row rfl _ _ (z + 1) 63 _ (0, 0) _ rfl A2 Tryz.underlying63 rfl (by kernel_rfl)) rfl ?_
        have hgne : (Value.slice (some ⟨g, 0, none⟩) j c).ownBlock ≠ some (z + 1) := fun e => by
          obtain ⟨cs9, fr9, h9⟩ := own_type HS2.out rfl
          have h8 : g = z + 1 := Option.some.inj e
          have := B1.out
          rw [h8] at h9
          rw [h9] at this
          injection this with this
          injection this with _ h2
          exact absurd h2 (by decide)
        refine ⟨g, c, ys, by rw [← HN.out]; rfl, ?_, HP.out, HSO.out, ?_⟩
        · rw [← HN.out, HZ.out]
          exact KF.row HS2.out (fun b hb e => hgne (by rw [hb, e]))
        · refine ((K3.out.trans hk4.out (fun _ _ f => f)).trans hK.out (fun b hb f => ?_)).trans KF (fun b hb e => ?_)
          · have := f.1; have := HZ.out; omega
          · have h9 : b = z + 1 := e; have := HZ.out; omega
end Go.Proofs.YtegejfhomocloaaGreat

namespace Go.Proofs.YtegejfhomocloaaGreat
open Go.RowKit

theorem info63 : (Tryz.prog.info? 63).map (fun i => (i.zero, i.size, i.bytes)) = some (some (.agg #[.slice none 0 0, .int .u64 0]), 2, 32) := by kernel_rfl
theorem news2' {w : World} {b : Nat} {x y : Value} {t : TypeId} {fr : Nat × Nat} (h : w.heap[b]? = some (.cells #[x, y] t fr)) : ∀ j v, [x, y][j]? = some v → w.cell? ((⟨b, 0, none⟩ : Addr).add j) = some v := World.news_of_block h
theorem two_of' {x y : Value} (h : x.oneCell' = true) (h' : y.oneCell' = true) : ∀ v ∈ [x, y], v.oneCell' = true := fun v hv => by
  simp only [List.mem_cons, List.not_mem_nil, or_false] at hv
  rcases hv with rfl | rfl <;> assumption
theorem TreeRelA.tl {B tb : Nat} {w : World} {L : List Iv} (h : TreeRelA B tb w L) : B ≤ tb ∧ tb < w.heap.size := by
  obtain ⟨T, S, h1, h2, h3, h4, h5, h6, ⟨m, hm⟩, h8⟩ := h
  exact ⟨h8, lt_of_block hm⟩

/-- What the two steps leave. -/
def SpansOut (ivs : List Iv) (w : World) (e : Ending) (w' : World) : Prop :=
  ∃ ag acap g gc : Nat, ∃ ys : List Iv, e = .returned (.slice (some ⟨ag, 0, none⟩) 2 acap) ∧ w'.cell? ⟨ag, 2, none⟩ = some (.slice (some ⟨g, 0, none⟩) ivs.length gc) ∧
    w'.ownsRow 0 38 3 (.slice (some ⟨g, 0, none⟩) ivs.length gc) ivs.length (spanCells ys) ∧ ys.Perm ivs ∧ ys.Pairwise (fun x y => x.k < y.k) ∧ w.heap.size ≤ ag ∧ w.heap.size ≤ g ∧ Keeps (fun _ => False) w w'

/-- Between the steps. -/
def SStepRel (ivs : List Iv) (t : Nat) (w : World) (kx : Nat) (s6 s13 : Value) (wr : World) : Prop :=
  (s13 = .int .i64 0 ∧ s6 = .slice none 0 0 ∧ 2 ≤ kx ∧ TreeRelA w.heap.size t wr [] ∧ Keeps (fun _ => False) w wr) ∨
  (s13 = .int .i64 1 ∧ 1 ≤ kx ∧ (∃ og oc, s6 = .slice (some ⟨og, 0, none⟩) 1 oc ∧ ∃ cs, wr.ownsRow w.heap.size 63 2 s6 1 cs) ∧ TreeRelA w.heap.size t wr ivs ∧ Keeps (fun _ => False) w wr) ∨
  (s13 = .int .i64 2 ∧ SpansOut ivs w (.returned s6) wr)

set_option maxRecDepth 100000 in
set_option maxHeartbeats 1600000 in
theorem atRun7 (sg sc dg n dcap qg qc la ha : Nat) (ivs : List Iv) (w : World) (hn : ivs.length = n) (h0 : 0 < n) (hlen : n ≤ 40) (hx : (ivs.map (·.k)).Nodup) (hid : (ivs.map (·.id)).Nodup) (hI : ∀ x ∈ ivs, IvOK w.heap.size w x)
    (hS : w.heap[sg]? = some (.cells #[.int .i64 1, .slice (some ⟨dg, 0, none⟩) n dcap, .int .i64 3, .slice (some ⟨qg, 0, none⟩) 1 qc] 52 (0, 0)))
    (hW : w.ownsRow 0 38 3 (.slice (some ⟨dg, 0, none⟩) n dcap) n (spanCells ivs))
    (q0 : w.cell? ⟨qg, 0, none⟩ = some (.slice (some ⟨la, 0, none⟩) 1 1)) (q1 : w.cell? ⟨qg, 1, none⟩ = some (.slice (some ⟨ha, 0, none⟩) 1 1)) (q2 : w.cell? ⟨qg, 2, none⟩ = some (.int .u64 0))
    (cl : w.cell? ⟨la, 0, none⟩ = some (.int .i64 (-1))) (ch : w.cell? ⟨ha, 0, none⟩ = some (.int .i64 65536)) :
    Calls Tryz.prog 7 #[.int .u64 1, .slice (some ⟨sg, 0, none⟩) 2 sc] w (SpansOut ivs w) := by
  obtain ⟨i0, hi0, hiz, his, hib⟩ := info_parts info63
  have HN := Lib.hid hn; clear hn
  have HX := Lib.hid hx; clear hx
  have HID := Lib.hid hid; clear hid
  have HI := Lib.hid hI; clear hI
  have HS := Lib.hid hS; clear hS
  have HW := Lib.hid hW; clear hW
  have Q0 := Lib.hid q0; clear q0
  have Q1 := Lib.hid q1; clear q1
  have Q2 := Lib.hid q2; clear q2
  have HCL := Lib.hid cl; clear cl
  have HCH := Lib.hid ch; clear ch
  go_enter Tryz.func7, Tryz.ntmps7
  go_wp2_with fail
  refine (new21 w).mono ?_
  rintro e w1 ⟨t, rfl, ht, hT, hK⟩
  have HT : Hid (TreeRelA w.heap.size t w1 []) := ⟨.nil, fun _ => none, trivial, rfl, List.Pairwise.nil, List.Perm.refl _, ⟨List.nodup_nil, fun x hx => (by cases hx)⟩, fun b s e => (by cases e), hT, ht⟩
  have HK := Lib.hid hK; clear hK hT
  go_wp2_with fail
  go_loopg [6, 13] 2 (fun kx s6 s13 wr => Hid (SStepRel ivs t w kx s6 s13 wr))
  case atStart => exact .inl ⟨rfl, rfl, Nat.le_refl _, HT.out, HK.out⟩
  case round =>
    rcases hrel.out with ⟨e13, e6, hk, hT, hK⟩ | ⟨e13, hk, ⟨og, oc, e6, cs, hO⟩, hT, hK⟩ | ⟨e13, hout⟩
    · subst e13 e6
      have HT1 := Lib.hid hT; clear hT
      have HK1 := Lib.hid hK; clear hK
      clear hrel HT HK
      have hs1 := HK1.out.heap HS.out (fun f => f)
      have a0 : wr.cell? ⟨sg, 0, none⟩ = some (.int .i64 1) := cell_at hs1 0
      have a1 : wr.cell? ⟨sg, 1, none⟩ = some (.slice (some ⟨dg, 0, none⟩) n dcap) := cell_at hs1 1
      have KA := Lib.hid (Keeps.alloc (Keeps.refl (fun _ => False) wr) (.cells #[.int .i64 1, .slice (some ⟨dg, 0, none⟩) n dcap] 52))
      have hwz := HK1.out.size
      have K1A := Lib.hid (HK1.out.trans KA.out (fun _ _ f => f))
      have HA := Lib.hid (step22add w.heap.size t dg n dcap ivs (wr.alloc (.cells #[.int .i64 1, .slice (some ⟨dg, 0, none⟩) n dcap] 52)) (HT1.out.new KA.out) (by simp; omega) HN.out h0 hlen (K1A.out.row HW.out (ownNot fun f => f)) (fun x hx => (HI.out x hx).keeps K1A.out (fun _ _ f => f)) HX.out HID.out)
      clear hs1
      go_wp2_with fail
      refine HA.out.mono ?_
      rintro e w2 ⟨rfl, hT2, hK2⟩
      have HT2 := Lib.hid hT2; clear hT2
      have HK2 := Lib.hid (K1A.out.trans hK2 (fun b hb h => by have := h.1; omega)); clear hK2
      have hz2 := HK2.out.size
      clear a0 a1 HA
      go_wp2_with (at_builtin; refine wpList_append_lies _ rfl (.tmp 17) (.tmp 21) 49 rfl w.heap.size 63 i0 _ 2 32 Tryz.underlying49 hi0 hiz his hib rfl (by omega) (.slice none 0 0) 0 [] rfl (World.ownsRow_nil _ _ _ _) ⟨w2.heap.size, 0, none⟩ 1 1 [.slice none 0 0, .int .u64 0] rfl (by rfl) (news2' (heap_alloc_new w2 _)) (two_of' rfl rfl) (by omega) (by simp only [maxLen]; omega) (by omega) (by simp; omega) _ rfl ?_; intro og oc w5 hO hg hat hlt; clear hat; have HO5 := Lib.hid hO; have HK5 := Lib.hid ((HK2.out.alloc _).grown hg (fun b hb _ => by cases hb)); have HT5 := Lib.hid (HT2.out.new (((Keeps.refl (fun _ => False) w2).alloc _).grown hg (fun b hb _ => by cases hb))); clear hO hg)
      go_roundg (1)
      case measure => omega
      case rel => exact .inr (.inl ⟨rfl, by omega, ⟨og, oc, rfl, _, HO5.out⟩, HT5.out, HK5.out⟩)
    · subst e13 e6
      have HO1 := Lib.hid hO; clear hO
      have HT1 := Lib.hid hT; clear hT
      have HK1 := Lib.hid hK; clear hK
      clear hrel HT HK
      have hs1 := HK1.out.heap HS.out (fun f => f)
      have a0 : wr.cell? ⟨sg, 2, none⟩ = some (.int .i64 3) := cell_at hs1 2
      have a1 : wr.cell? ⟨sg, 3, none⟩ = some (.slice (some ⟨qg, 0, none⟩) 1 qc) := cell_at hs1 3
      have KA := Lib.hid (Keeps.alloc (Keeps.refl (fun _ => False) wr) (.cells #[.int .i64 3, .slice (some ⟨qg, 0, none⟩) 1 qc] 52))
      have hwz := HK1.out.size
      have K1A := Lib.hid (HK1.out.trans KA.out (fun _ _ f => f))
      have HA := Lib.hid (step22query w.heap.size t qg qc la ha ivs (wr.alloc (.cells #[.int .i64 3, .slice (some ⟨qg, 0, none⟩) 1 qc] 52)) (HT1.out.new KA.out) (by simp; omega) (by rw [HN.out]; exact h0) (by rw [HN.out]; exact hlen) (K1A.out.cell Q0.out (fun f => f)) (K1A.out.cell Q1.out (fun f => f)) (K1A.out.cell Q2.out (fun f => f)) (K1A.out.cell HCL.out (fun f => f)) (K1A.out.cell HCH.out (fun f => f)))
      have HOG := Lib.hid (HO1.out.lt og rfl)
      have HOA := Lib.hid (HO1.out.alloc (.cells #[.int .i64 3, .slice (some ⟨qg, 0, none⟩) 1 qc] 52))
      have hza : (wr.alloc (.cells #[.int .i64 3, .slice (some ⟨qg, 0, none⟩) 1 qc] 52)).heap.size = wr.heap.size + 1 := by simp
      clear hs1
      go_wp2_with fail
      generalize wr.alloc (.cells #[.int .i64 3, .slice (some ⟨qg, 0, none⟩) 1 qc] 52) = wa at KA K1A HA HOA hza ⊢
      refine HA.out.mono ?_
      rintro e w2 ⟨g1, c1, ys, rfl, hO2, hp, hso, hK2⟩
      have hg1 := (hO2.lt g1 rfl).1
      have HW2 := Lib.hid hO2; clear hO2
      have HP := Lib.hid hp; clear hp
      have HSO := Lib.hid hso; clear hso
      have HOW := Lib.hid (hK2.row HOA.out (ownNot fun f => f))
      have HK2 := Lib.hid (K1A.out.trans hK2 (fun _ _ f => f)); clear hK2
      have hz2 := HK2.out.size
      have hng : some g1 ≠ (Value.slice (some ⟨og, 0, none⟩) 1 oc).ownBlock := fun e => by
        have h7 : g1 = og := Option.some.inj e
        have := HOG.out.2
        omega
      have HNG := Lib.hid hng; clear hng
      clear a0 a1 HA
      go_wp2_with (at_builtin; refine wpList_append_lies _ rfl (.tmp 17) (.tmp 21) 49 rfl w.heap.size 63 i0 _ 2 32 Tryz.underlying49 hi0 hiz his hib rfl (by omega) (.slice (some ⟨og, 0, none⟩) 1 oc) 1 cs rfl (HOW.out.alloc _) ⟨w2.heap.size, 0, none⟩ 1 1 [.slice (some ⟨g1, 0, none⟩) ivs.length c1, .int .u64 0] rfl (by rfl) (news2' (heap_alloc_new w2 _)) (two_of' rfl rfl) (by omega) (by simp only [maxLen]; omega) (by omega) (by simp; omega) _ rfl ?_; intro ag acap w6 hO hg hat hlt; clear hat; have HO6 := Lib.hid hO; have HV6 := Lib.hid ((HW2.out.alloc _).kept hg (.inr HNG.out)); have HG6 := Lib.hid hg; clear hO hg)
      go_roundg (0)
      case measure => omega
      case rel =>
        have hcl := HO1.out.1
        refine .inr (.inr ⟨rfl, ag, acap, g1, c1, ys, rfl, ?_, ownsBase HV6.out, HP.out, HSO.out, (HO6.out.lt ag rfl).1, by omega, ?_⟩)
        · rw [HO6.out.cellAt 2 (by omega), List.getElem?_append_right (by omega), hcl]; rfl
        · exact (HK2.out.alloc _).grown HG6.out (fun b hb hlt => by have : og = b := Option.some.inj hb; have := HOG.out.1; omega)
    · obtain ⟨ag, acap, g', gc, ys, he, hr⟩ := hout
      injection he with he
      subst e13 he
      have HR := Lib.hid hr; clear hr hrel
      go_wp2_with fail
      go_ret
      exact ⟨ag, acap, g', gc, ys, rfl, HR.out⟩
end Go.Proofs.YtegejfhomocloaaGreat
