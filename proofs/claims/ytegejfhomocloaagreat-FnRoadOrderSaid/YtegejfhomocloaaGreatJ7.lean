/- A part of the proof of FnRoadOrder: the range tree: queries and the run. No conditions but those of the theorems. -/
import Derived.Test.YtegejfhomocloaaGreatJ6
import Derived.Deep.RegionLawGrows
set_option linter.all false
namespace Go.Proofs.YtegejfhomocloaaGreat
open Go.RowKit

@[go_sem] theorem ta162ok (x : Value) (w : World) : (Instr.typeAssert (.iface 162 x) 122 162 true).run Tryz.prog w = .ok (.tuple #[x, .bool true]) w := by kernel_rfl
@[go_sem] theorem ta162nil (w : World) : (Instr.typeAssert .nilIface 122 162 true).run Tryz.prog w = .ok (.tuple #[.agg #[.slice none 0 0, .int .i64 0], .bool false]) w := by kernel_rfl
theorem info36 : (Tryz.prog.info? 36).map (fun i => (i.zero, i.size, i.bytes)) = some (some (.agg #[.slice none 0 0, .int .i64 0]), 2, 32) := by kernel_rfl

def entV : Option Dot → Value
  | none => .nilIface
  | some d => dotV d
def tell2 : Option Dot → List Value
  | none => [.slice none 0 0, .int .i64 0]
  | some d => [.slice (some ⟨d.a, 0, none⟩) 1 1, .int .i64 d.v]
def tellCells (es : List (Option Dot)) : List Value := es.flatMap tell2
theorem tell_next {es : List (Option Dot)} {j : Nat} {o : Option Dot} (h : es[j]? = some o) : tellCells (es.take j) ++ tell2 o = tellCells (es.take (j + 1)) := by
  obtain ⟨hj, rfl⟩ := List.getElem?_eq_some_iff.1 h
  rw [List.take_succ_eq_append_getElem hj]
  unfold tellCells
  rw [List.flatMap_append]
  congr 1
  simp

/-- What is told of some entries. -/
def Told (es : List (Option Dot)) (w : World) (e : Ending) (w' : World) : Prop :=
  ∃ g c g' c' : Nat, ∃ hs, e = .returned (.tuple #[.slice (some ⟨g, 0, none⟩) es.length c, .slice (some ⟨g', 0, none⟩) es.length c']) ∧ w'.ownsRow w.heap.size 36 2 (.slice (some ⟨g, 0, none⟩) es.length c) es.length (tellCells es) ∧
    w'.ownsRow w.heap.size 4 1 (.slice (some ⟨g', 0, none⟩) es.length c') es.length hs ∧ g ≠ g' ∧ Keeps (fun _ => False) w w'

/-- Behind some rounds. -/
def ToldRel (es : List (Option Dot)) (w : World) (j : Nat) (v h : Value) (wr : World) : Prop :=
  wr.ownsRow w.heap.size 36 2 v j (tellCells (es.take j)) ∧ (∃ hs, wr.ownsRow w.heap.size 4 1 h j hs) ∧ (∀ x, v.ownBlock = some x → h.ownBlock ≠ some x) ∧ Keeps (fun _ => False) w wr

theorem apart_row {v h : Value} (hap : ∀ x, v.ownBlock = some x → h.ownBlock ≠ some x) : h.ownBlock = none ∨ h.ownBlock ≠ v.ownBlock := by
  cases hb : h.ownBlock with
  | none => exact .inl rfl
  | some y => exact .inr (fun e => hap y e.symm hb)

set_option maxRecDepth 100000 in
set_option maxHeartbeats 800000 in
theorem tell47 (g n cap : Nat) (es : List (Option Dot)) (w : World) (hn : es.length = n) (h0 : 0 < n) (hlen : n ≤ 40) (hrow : w.ownsRow 0 122 1 (.slice (some ⟨g, 0, none⟩) n cap) n (es.map entV)) :
    Calls Tryz.prog 47 #[.slice (some ⟨g, 0, none⟩) n cap] w (Told es w) := by
  obtain ⟨i0, hi0, hiz, his, hib⟩ := info_parts info36
  obtain ⟨j0, hj0, hjz, hjs, hjb⟩ := info_parts info4
  have HR := Lib.hid hrow; clear hrow
  have HN := Lib.hid hn; clear hn
  have hgl := (HR.out.lt g rfl).2
  go_enter Tryz.func47, Tryz.ntmps47
  go_wp2_with fail
  go_loopg [4, 5, 12] n (fun kx s4 s5 s12 wr => ∃ j : Nat, s12 = .int .i64 j ∧ j ≤ n ∧ n - j ≤ kx ∧ Hid (ToldRel es w j s4 s5 wr))
  case atStart => exact ⟨0, rfl, Nat.zero_le _, by omega, World.ownsRow_nil _ _ _ _, ⟨[], World.ownsRow_nil _ _ _ _⟩, fun x hx => (by cases hx), Keeps.refl _ _⟩
  case round =>
    obtain ⟨j, rfl, hj, hg, hrel⟩ := hrel
    by_cases hlt : j < n
    · obtain ⟨hO, ⟨hs, hH⟩, hap, hK⟩ := hrel.out
      have hrow := hK.row HR.out (ownNot (fun f => f))
      have hjx : j < es.length := by rw [HN.out]; exact hlt
      obtain ⟨o, ho⟩ : ∃ o, es[j]? = some o := ⟨es[j], List.getElem?_eq_getElem hjx⟩
      have ce : wr.cell? ⟨g, j, none⟩ = some (entV o) := by rw [hrow.cellAt j (by omega), List.getElem?_map, ho]; rfl
      have hzr := hK.size
      have HT := Lib.hid (tell_next ho)
      have HO := Lib.hid hO; clear hO
      have HH := Lib.hid hH; clear hH
      have HAP := Lib.hid hap; clear hap
      have HK := Lib.hid hK; clear hK
      clear hrow hjx ho hrel
      cases o with
      | none =>
        have cj : wr.cell? ⟨g, j, none⟩ = some .nilIface := ce
        clear ce
        go_wp2_with (first
          | (at_builtin; (refine wpList_append_lies _ rfl (.tmp 21) (.tmp 24) 27 rfl w.heap.size 36 i0 _ 2 32 Tryz.underlying27 hi0 hiz his hib rfl (by omega) u4 j _ rfl ((HO.out.alloc _).alloc _) ⟨wr.heap.size + 1, 0, none⟩ 1 1 [.slice none 0 0, .int .i64 0] rfl (by rfl) (news2 (alloc_at _ _ (wr.heap.size + 1) (by simp))) (two_of rfl rfl) (by omega) (by simp only [maxLen]; omega) (by omega) (by simp; omega) _ rfl ?_); intro g1 c1 w1 hO1 hg1 hat1 hlt1; have HO1 := Lib.hid hO1; clear hO1; have HK1 := Lib.hid (((HK.out.alloc _).alloc _).grown hg1 (rowNew HO.out)); have HH1 : Hid (w1.ownsRow w.heap.size 4 1 u5 j hs) := World.ownsRow.kept ((HH.out.alloc _).alloc _) hg1 (apart_row HAP.out); have HS1 : Hid (some g1 ≠ u5.ownBlock) := sep1 hat1 (by simp; omega) HH.out HAP.out; have hl1 := hlt1; have hz1 := HK1.out.size; clear hg1 hat1)
          | (at_builtin; (refine wpList_append_lies _ rfl (.tmp 26) (.tmp 28) 57 rfl w.heap.size 4 j0 _ 1 1 Tryz.underlying57 hj0 hjz hjs hjb rfl (by omega) u5 j _ rfl (HH1.out.alloc _) ⟨w1.heap.size, 0, none⟩ 1 1 [.bool false] rfl (by rfl) (news1 (heap_alloc_new w1 _)) (one_of rfl) (by omega) (by simp only [maxLen]; omega) (by omega) (by simp; omega) _ rfl ?_); intro g2 c2 w2 hO2 hg2 hat2 hlt2; have HO2 := Lib.hid hO2; clear hO2; have HK2 := Lib.hid ((HK1.out.alloc _).grown hg2 (rowNew HH.out)); have HV2 := Lib.hid ((HO1.out.alloc _).kept hg2 (.inr HS1.out)); have HS2 : Hid (g1 ≠ g2) := sep2 hat2 HS1.out (by simp) hl1; clear hg2 hat2))
        go_roundg (n - (j + 1))
        case measure => omega
        case rel =>
          refine ⟨j + 1, by go_num, by omega, Nat.le_refl _, ?_, ⟨_, HO2.out⟩, fun x hx hx' => HS2.out ((Option.some.inj hx).trans (Option.some.inj hx').symm), HK2.out⟩
          have h3 := HV2.out
          rw [show [.slice none 0 0, .int .i64 0] = tell2 none from rfl, HT.out] at h3
          exact h3
      | some d =>
        have cj : wr.cell? ⟨g, j, none⟩ = some (.iface 162 (.agg #[.slice (some ⟨d.a, 0, none⟩) 1 1, .int .i64 d.v])) := ce
        clear ce
        go_wp2_with (first
          | (at_builtin; (refine wpList_append_lies _ rfl (.tmp 21) (.tmp 24) 27 rfl w.heap.size 36 i0 _ 2 32 Tryz.underlying27 hi0 hiz his hib rfl (by omega) u4 j _ rfl ((HO.out.alloc _).alloc _) ⟨wr.heap.size + 1, 0, none⟩ 1 1 [.slice (some ⟨d.a, 0, none⟩) 1 1, .int .i64 d.v] rfl (by rfl) (news2 (alloc_at _ _ (wr.heap.size + 1) (by simp))) (two_of rfl rfl) (by omega) (by simp only [maxLen]; omega) (by omega) (by simp; omega) _ rfl ?_); intro g1 c1 w1 hO1 hg1 hat1 hlt1; have HO1 := Lib.hid hO1; clear hO1; have HK1 := Lib.hid (((HK.out.alloc _).alloc _).grown hg1 (rowNew HO.out)); have HH1 : Hid (w1.ownsRow w.heap.size 4 1 u5 j hs) := World.ownsRow.kept ((HH.out.alloc _).alloc _) hg1 (apart_row HAP.out); have HS1 : Hid (some g1 ≠ u5.ownBlock) := sep1 hat1 (by simp; omega) HH.out HAP.out; have hl1 := hlt1; have hz1 := HK1.out.size; clear hg1 hat1)
          | (at_builtin; (refine wpList_append_lies _ rfl (.tmp 26) (.tmp 28) 57 rfl w.heap.size 4 j0 _ 1 1 Tryz.underlying57 hj0 hjz hjs hjb rfl (by omega) u5 j _ rfl (HH1.out.alloc _) ⟨w1.heap.size, 0, none⟩ 1 1 [.bool true] rfl (by rfl) (news1 (heap_alloc_new w1 _)) (one_of rfl) (by omega) (by simp only [maxLen]; omega) (by omega) (by simp; omega) _ rfl ?_); intro g2 c2 w2 hO2 hg2 hat2 hlt2; have HO2 := Lib.hid hO2; clear hO2; have HK2 := Lib.hid ((HK1.out.alloc _).grown hg2 (rowNew HH.out)); have HV2 := Lib.hid ((HO1.out.alloc _).kept hg2 (.inr HS1.out)); have HS2 : Hid (g1 ≠ g2) := sep2 hat2 HS1.out (by simp) hl1; clear hg2 hat2))
        go_roundg (n - (j + 1))
        case measure => omega
        case rel =>
          refine ⟨j + 1, by go_num, by omega, Nat.le_refl _, ?_, ⟨_, HO2.out⟩, fun x hx hx' => HS2.out ((Option.some.inj hx).trans (Option.some.inj hx').symm), HK2.out⟩
          have h3 := HV2.out
          rw [show [.slice (some ⟨d.a, 0, none⟩) 1 1, .int .i64 d.v] = tell2 (some d) from rfl, HT.out] at h3
          exact h3
    · obtain rfl : j = n := by omega
      obtain ⟨hO, ⟨hs, hH⟩, hap, hK⟩ := hrel.out
      rw [List.take_of_length_le (by rw [HN.out]; exact Nat.le_refl _)] at hO
      obtain ⟨g1, c1, rfl, hb1, hl1⟩ := hO.form h0
      obtain ⟨g2, c2, rfl, hb2, hl2⟩ := hH.form h0
      have HO := Lib.hid hO; clear hO
      have HH := Lib.hid hH; clear hH
      have HAP := Lib.hid hap; clear hap
      have HK := Lib.hid hK; clear hK hrel
      go_wp2_with fail
      go_ret2
      exact ⟨g1, c1, g2, c2, hs, by rw [HN.out]; rfl, by rw [HN.out]; exact HO.out, by rw [HN.out]; exact HH.out, fun e => HAP.out g1 rfl (by rw [e]; rfl), HK.out⟩
end Go.Proofs.YtegejfhomocloaaGreat

namespace Go.Proofs.YtegejfhomocloaaGreat
open Go.RowKit

/-- An answer of dots. -/
def DotsTold (es : List (Option Dot)) (w : World) (e : Ending) (w' : World) : Prop :=
  ∃ g c g' c' : Nat, e = .returned (.agg #[.slice (some ⟨g, 0, none⟩) es.length c, .slice (some ⟨g', 0, none⟩) es.length c', .slice none 0 0, .int .u64 0]) ∧ w'.ownsRow w.heap.size 36 2 (.slice (some ⟨g, 0, none⟩) es.length c) es.length (tellCells es) ∧
    Keeps (fun _ => False) w w'

set_option maxRecDepth 100000 in
set_option maxHeartbeats 800000 in
theorem answer32 (g n cap : Nat) (es : List (Option Dot)) (w : World) (hn : es.length = n) (h0 : 0 < n) (hlen : n ≤ 40) (hrow : w.ownsRow 0 122 1 (.slice (some ⟨g, 0, none⟩) n cap) n (es.map entV)) :
    Calls Tryz.prog 32 #[.slice (some ⟨g, 0, none⟩) n cap] w (DotsTold es w) := by
  have HR := Lib.hid hrow; clear hrow
  have HN := Lib.hid hn; clear hn
  go_enter Tryz.func32, Tryz.ntmps32
  go_wp2_with fail
  have HA := Lib.hid (alloc_heap (w.alloc (.cells #[.slice none 0 0, .slice none 0 0, .slice none 0 0, .int .u64 0] 61)) (.cells #[.slice none 0 0, .slice none 0 0, .slice none 0 0, .int .u64 0] 61) (heap_alloc_new w (.cells #[.slice none 0 0, .slice none 0 0, .slice none 0 0, .int .u64 0] 61)))
  have HB := Lib.hid (alloc_at (w.alloc (.cells #[.slice none 0 0, .slice none 0 0, .slice none 0 0, .int .u64 0] 61)) (.cells #[.slice none 0 0, .slice none 0 0, .slice none 0 0, .int .u64 0] 61) (w.heap.size + 1) (by simp))
  have HK := Lib.hid (((Keeps.refl (fun _ => False) w).alloc (.cells #[.slice none 0 0, .slice none 0 0, .slice none 0 0, .int .u64 0] 61)).alloc (.cells #[.slice none 0 0, .slice none 0 0, .slice none 0 0, .int .u64 0] 61))
  have HR2 := Lib.hid ((HR.out.alloc (.cells #[.slice none 0 0, .slice none 0 0, .slice none 0 0, .int .u64 0] 61)).alloc (.cells #[.slice none 0 0, .slice none 0 0, .slice none 0 0, .int .u64 0] 61))
  have hz2 : ((w.alloc (.cells #[.slice none 0 0, .slice none 0 0, .slice none 0 0, .int .u64 0] 61)).alloc (.cells #[.slice none 0 0, .slice none 0 0, .slice none 0 0, .int .u64 0] 61)).heap.size = w.heap.size + 2 := by simp
  generalize (w.alloc (.cells #[.slice none 0 0, .slice none 0 0, .slice none 0 0, .int .u64 0] 61)).alloc (.cells #[.slice none 0 0, .slice none 0 0, .slice none 0 0, .int .u64 0] 61) = w2 at HA HB HK HR2 hz2 ⊢
  refine (tell47 g n cap es w2 HN.out h0 hlen HR2.out).mono ?_
  rintro e w3 ⟨g1, c1, g2, c2, hs, rfl, hO, hH, hne, hK3⟩
  have HA3 := Lib.hid (hK3.heap HA.out (fun f => f))
  have HB3 := Lib.hid (hK3.heap HB.out (fun f => f))
  have HO3 := Lib.hid (ownsUp hO (B' := w.heap.size) (fun y hy => by have := (hO.lt y hy).1; omega))
  have HG3 := Lib.hid ((hO.lt g1 rfl).1)
  have HK3 := Lib.hid (HK.out.trans hK3 (fun _ _ f => f))
  have hz3 := hK3.size
  clear hO hH hne hK3
  have dA0 : w3.cell? ⟨w.heap.size, 0, none⟩ = some (.slice none 0 0) := cell_at HA3.out 0
  have fA0 : w3.frozen? ⟨w.heap.size, 0, none⟩ = false := free_at HA3.out 0
  have dA1 : w3.cell? ⟨w.heap.size, 1, none⟩ = some (.slice none 0 0) := cell_at HA3.out 1
  have fA1 : w3.frozen? ⟨w.heap.size, 1, none⟩ = false := free_at HA3.out 1
  have dA2 : w3.cell? ⟨w.heap.size, 2, none⟩ = some (.slice none 0 0) := cell_at HA3.out 2
  have fA2 : w3.frozen? ⟨w.heap.size, 2, none⟩ = false := free_at HA3.out 2
  have dA3 : w3.cell? ⟨w.heap.size, 3, none⟩ = some (.int .u64 0) := cell_at HA3.out 3
  have fA3 : w3.frozen? ⟨w.heap.size, 3, none⟩ = false := free_at HA3.out 3
  have dB0 : w3.cell? ⟨w.heap.size + 1, 0, none⟩ = some (.slice none 0 0) := cell_at HB3.out 0
  have fB0 : w3.frozen? ⟨w.heap.size + 1, 0, none⟩ = false := free_at HB3.out 0
  have dB1 : w3.cell? ⟨w.heap.size + 1, 1, none⟩ = some (.slice none 0 0) := cell_at HB3.out 1
  have fB1 : w3.frozen? ⟨w.heap.size + 1, 1, none⟩ = false := free_at HB3.out 1
  have dB2 : w3.cell? ⟨w.heap.size + 1, 2, none⟩ = some (.slice none 0 0) := cell_at HB3.out 2
  have fB2 : w3.frozen? ⟨w.heap.size + 1, 2, none⟩ = false := free_at HB3.out 2
  have dB3 : w3.cell? ⟨w.heap.size + 1, 3, none⟩ = some (.int .u64 0) := cell_at HB3.out 3
  have fB3 : w3.frozen? ⟨w.heap.size + 1, 3, none⟩ = false := free_at HB3.out 3
  go_wp2_with fail
  have K1 := (HK3.out.setNew (w.heap.size + 1) 0 (.slice (some ⟨g1, 0, none⟩) es.length c1) (by omega)).setNew (w.heap.size + 1) 1 (.slice (some ⟨g2, 0, none⟩) es.length c2) (by omega)
  have K2 := (((K1.setNew w.heap.size 0 (.slice (some ⟨g1, 0, none⟩) es.length c1) (Nat.le_refl _)).setNew w.heap.size 1 (.slice (some ⟨g2, 0, none⟩) es.length c2) (Nat.le_refl _)).setNew w.heap.size 2 (.slice none 0 0) (Nat.le_refl _)).setNew w.heap.size 3 (.int .u64 0) (Nat.le_refl _)
  have n1 : g1 ≠ w.heap.size + 1 := by have := HG3.out; omega
  have n0 : g1 ≠ w.heap.size := by have := HG3.out; omega
  have O1 := ownsRow_setCell_other (ownsRow_setCell_other HO3.out (a := ⟨w.heap.size + 1, 0, none⟩) (ne_row n1) (.slice (some ⟨g1, 0, none⟩) es.length c1)) (a := ⟨w.heap.size + 1, 1, none⟩) (ne_row n1) (.slice (some ⟨g2, 0, none⟩) es.length c2)
  have O2 := ownsRow_setCell_other (ownsRow_setCell_other O1 (a := ⟨w.heap.size, 0, none⟩) (ne_row n0) (.slice (some ⟨g1, 0, none⟩) es.length c1)) (a := ⟨w.heap.size, 1, none⟩) (ne_row n0) (.slice (some ⟨g2, 0, none⟩) es.length c2)
  have O3 := ownsRow_setCell_other (ownsRow_setCell_other O2 (a := ⟨w.heap.size, 2, none⟩) (ne_row n0) (.slice none 0 0)) (a := ⟨w.heap.size, 3, none⟩) (ne_row n0) (.int .u64 0)
  have A1 := set_heap _ ⟨w.heap.size + 1, 1, none⟩ (.slice (some ⟨g2, 0, none⟩) es.length c2) (set_heap w3 ⟨w.heap.size + 1, 0, none⟩ (.slice (some ⟨g1, 0, none⟩) es.length c1) HA3.out (by simp)) (by simp)
  have A2 := heap_setCell_same _ w.heap.size 3 _ _ (.int .u64 0) (heap_setCell_same _ w.heap.size 2 _ _ (.slice none 0 0) (heap_setCell_same _ w.heap.size 1 _ _ (.slice (some ⟨g2, 0, none⟩) es.length c2) (heap_setCell_same _ w.heap.size 0 _ _ (.slice (some ⟨g1, 0, none⟩) es.length c1) A1)))
  refine bodyPost_ret (results_cell_row rfl _ _ w.heap.size 61 _ (0, 0) _ rfl A2 Tryz.underlying61 rfl (by kernel_rfl)) rfl ?_
  exact ⟨g1, c1, g2, c2, rfl, O3, K2⟩
end Go.Proofs.YtegejfhomocloaaGreat

namespace Go.Proofs.YtegejfhomocloaaGreat
open Go.RowKit

theorem row_ne_box {w : World} {p B n : Nat} {v : Value} {xs : List Value} {cs : Array Value} (h : w.heap[p]? = some (.cells cs 113 (0, 0))) (ho : w.ownsRow B 122 1 v n xs) : v.ownBlock ≠ some p := fun e => by
  rcases ho.2 with ⟨h', _⟩ | ⟨g, cap, cur, h', hb, hg, _⟩
  · rw [h'] at e; cases e
  · rw [h'] at e
    have : g = p := Option.some.inj e
    subst this
    rw [h] at hg
    injection hg with hg
    injection hg with _ h2
    cases h2

/-- Entries that are being gathered. -/
def Gather (B pe : Nat) (xs : List Dot) (w : World) : Prop :=
  ∃ s, w.heap[pe]? = some (.cells #[s] 113 (0, 0)) ∧ w.ownsRow B 122 1 s xs.length (xs.map dotV) ∧ B ≤ pe

set_option maxRecDepth 100000 in
set_option maxHeartbeats 800000 in
theorem gather118 (B pe b n : Nat) (xs : List Dot) (d : Dot) (w : World) (hG : Gather B pe xs w) (hN : NdRep w ⟨b, d⟩) (hn : xs.length = n) (hlen : n ≤ 100) :
    Calls Tryz.prog 118 #[.pointer (some ⟨b, 0, none⟩), .pointer (some ⟨pe, 0, none⟩)] w fun e w' => e = .returned (.bool true) ∧ Gather B pe (xs ++ [d]) w' ∧ Keeps (fun y => B ≤ y) w w' := by
  obtain ⟨s, hp, hO, hB⟩ := hG
  rw [hn] at hO
  obtain ⟨i0, hi0, hiz, his, hib⟩ := info_parts info122
  have hne := row_ne_box hp hO
  have cp : w.cell? ⟨pe, 0, none⟩ = some s := cell_at hp 0
  have fp : w.frozen? ⟨pe, 0, none⟩ = false := free_at hp 0
  have cb : w.cell? ⟨b, 1, none⟩ = some (.iface 162 (.agg #[.slice (some ⟨d.a, 0, none⟩) 1 1, .int .i64 d.v])) := cell_at hN 1
  have cp' : ∀ o, (w.alloc o).cell? ⟨pe, 0, none⟩ = some s := fun o => cell_at (alloc_heap w o hp) 0
  have hbl := World.block_lt_of_cell? w _ cb
  have hpl := lt_of_block hp
  have HP := Lib.hid hp; clear hp
  have HO := Lib.hid hO; clear hO
  have HNE := Lib.hid hne; clear hne
  have HN := Lib.hid hn; clear hn hN
  go_enter Tryz.func118, Tryz.ntmps118
  go_wp2_with fail
  go_region_law ((refine step_append_lies _ (by rfl) (.tmp 4) (.tmp 9) 113 (by rfl) B 122 i0 _ 1 16 Tryz.underlying113 hi0 hiz his hib (by rfl) (by omega) s n _ (by rfl) (HO.out.alloc _) ⟨w.heap.size, 0, none⟩ 1 1 [dotV d] (by rfl) (by rfl) (news1 (heap_alloc_new w _)) (one_of rfl) (by omega) (by simp only [maxLen]; omega) (by omega) (by simp; omega) _ rfl ?_); intro g cap w1 hO1 hg1 hat hlt; have hP1 : w1.heap[pe]? = some (.cells #[s] 113 (0, 0)) := grown_heap hg1 (alloc_heap w _ HP.out) (Ne.symm HNE.out); have c1 : w1.cell? ⟨pe, 0, none⟩ = some s := cell_at hP1 0; have f1 : w1.frozen? ⟨pe, 0, none⟩ = false := free_at hP1 0; have HP1 := Lib.hid hP1; clear hP1; have HO1 := Lib.hid hO1; clear hO1; have HG1 := Lib.hid hg1; clear hg1)
  all_goals
    have hgp : g ≠ pe := by
      rcases hat with h | h
      · intro e; exact HNE.out (e ▸ h)
      · simp at h; omega
    have hgB : B ≤ g := (HO1.out.lt g rfl).1
    have hK1 : Keeps (fun y => B ≤ y) w w1 := by
      first
        | exact (((Keeps.refl _ w).alloc _).drew).grown HG1.out (fun b hb _ => (HO.out.lt b hb).1)
        | exact (((Keeps.refl _ w).drew).alloc _).grown HG1.out (fun b hb _ => (HO.out.lt b hb).1)
        | exact ((Keeps.refl _ w).alloc _).grown HG1.out (fun b hb _ => (HO.out.lt b hb).1)
    have HK1 := Lib.hid hK1
    clear hK1 cp' hat cp fp cb c1 f1
    go_wp2_with fail
    go_ret
    refine ⟨rfl, ⟨_, heap_setCell_same w1 pe 0 _ _ _ HP1.out, ?_, hB⟩, HK1.out.setIn pe 0 _ hB⟩
    have hl : (xs ++ [d]).length = n + 1 := by simp [HN.out]
    rw [hl, List.map_append]
    exact ownsRow_setCell_other HO1.out (a := ⟨pe, 0, none⟩) (ne_row hgp) _

def nodeDots (ns : List Nd) : List Dot := ns.map (·.d)

set_option maxRecDepth 100000 in
set_option maxHeartbeats 800000 in
theorem apply123 (B t n pe : Nat) (vp : Option Addr) (vc : Nat) (ns : List Nd) (w : World) (hT : RTree 0 w t (.slice vp n vc) ns) (hn : ns.length = n) (h0 : 0 < n) (hlen : n ≤ 40) (hlt : ∀ x ∈ ns, x.b < B) (hrl : ∀ y, (Value.slice vp n vc).ownBlock = some y → y < B) (hk : ∀ x ∈ ns, 0 ≤ x.d.k ∧ x.d.k ≤ 65535) (hG : Gather B pe [] w) :
    Calls Tryz.prog 123 #[.slice vp n vc, .int .i64 (-1), .int .i64 65536, .func (.func 118) #[] #[.pointer (some ⟨pe, 0, none⟩)]] w fun e w' => e = .returned (.bool true) ∧ Gather B pe (nodeDots ns) w' ∧ Keeps (fun y => B ≤ y) w w' := by
  obtain ⟨num, pv, ht, hO, hnn, hs, hB⟩ := hT
  obtain ⟨vp', vc', hvv, hc⟩ := nodes_cells hO hnn
  rw [hn] at hvv
  injection hvv with e1 _ e3
  subst e1 e3
  have hS := search127 n vc vp (nbOf ns) (nkOf ns) (-1) w (by omega) (by rw [hn] at hc; exact hc) (fun i j h1 h2 => dsrt_keys hs i j h1 (by omega))
  have hk0 : ∀ i, i < n → (-1 : Int) < nkOf ns i ∧ nkOf ns i ≤ 65535 := fun i hi => by
    have := hk _ (List.getElem_mem (show i < ns.length by omega))
    rw [nkOf, List.getElem?_eq_getElem (by omega)]
    simp only [Option.map_some, Option.getD_some]
    omega
  have HC := Lib.hid hc; clear hc
  have HK0 := Lib.hid hk0; clear hk0 hk
  have HN := Lib.hid hn
  have HNN := Lib.hid hnn; clear hnn
  have HO := Lib.hid hO; clear hO
  have HLT := Lib.hid hlt; clear hlt
  have HRL := Lib.hid hrl; clear hrl
  have HG := Lib.hid hG; clear hG
  have HS := Lib.hid hS; clear hS hn ht hs
  go_enter Tryz.func123, Tryz.ntmps123
  go_wp2_with fail
  refine HS.out.mono ?_
  rintro e w1 ⟨p, hp, h1, h2, rfl, hB1⟩
  obtain rfl : p = 0 := by
    rcases Nat.eq_zero_or_pos p with h | h
    · exact h
    · exact absurd (h1 0 h) (by have := HK0.out 0 h0; omega)
  clear h1 h2 HS
  have HK1 := Lib.hid (Keeps.of_new (F := fun _ => False) hB1); clear hB1
  have hin : ((0 : Int) == (n : Int)) = false := by simp; omega
  have HG1 : Hid (Gather B pe [] w1) := by
    obtain ⟨s, a, b, c⟩ := HG.out
    exact ⟨s, HK1.out.heap a (fun f => f), HK1.out.row b (fun _ _ f => f), c⟩
  go_wp2_with fail
  go_loopg [9] n (fun kx s9 wr => ∃ j : Nat, s9 = .int .i64 j ∧ j ≤ n ∧ n - j ≤ kx ∧ Hid (Gather B pe ((nodeDots ns).take j) wr) ∧ Hid (Keeps (fun y => B ≤ y) w wr))
  case atStart => exact ⟨0, rfl, Nat.zero_le _, by omega, HG1.out, HK1.out.mono (fun _ _ f => f.elim)⟩
  case round =>
    obtain ⟨j, rfl, hj, hgk, hGr, hK⟩ := hrel
    by_cases hlt : j < n
    · have hjx : j < ns.length := by rw [HN.out]; exact hlt
      obtain ⟨g, hg', hc1, hc2⟩ := HC.out j hjx
      subst hg'
      have hgl : g < B := HRL.out g rfl
      have hnj : ns[j]? = some ns[j] := List.getElem?_eq_getElem hjx
      have hbj : nbOf ns j = (ns[j]).b := by rw [nbOf, hnj]; rfl
      have hbl := HLT.out _ (List.getElem_mem hjx)
      have r1 : wr.cell? ⟨g, j, none⟩ = some (.pointer (some ⟨nbOf ns j, 0, none⟩)) := hK.out.cell hc1 (Nat.not_le.2 hgl)
      have r2 : wr.cell? ⟨nbOf ns j, 0, none⟩ = some (.int .i64 (nkOf ns j)) := hK.out.cell hc2 (by rw [hbj]; exact Nat.not_le.2 hbl)
      have hNR : NdRep wr ⟨(ns[j]).b, (ns[j]).d⟩ := (HNN.out _ (List.getElem_mem hjx)).1.keeps hK.out (Nat.not_le.2 hbl)
      have hdec : decide ((65536 : Int) < nkOf ns j) = false := by have := HK0.out j hlt; simp; omega
      have hGA := gather118 B pe (ns[j]).b ((nodeDots ns).take j).length _ (ns[j]).d wr hGr.out hNR rfl (by rw [List.length_take]; omega)
      rw [← hbj] at hGA
      have HGA := Lib.hid hGA; clear hGA
      have hnx : (nodeDots ns).take j ++ [(ns[j]).d] = (nodeDots ns).take (j + 1) := by
        rw [List.take_succ_eq_append_getElem (by rw [nodeDots, List.length_map]; exact hjx)]; simp [nodeDots]
      have HNX := Lib.hid hnx; clear hnx
      clear hNR hbj hnj hc1 hc2 hGr hbl
      go_wp2_with fail
      refine HGA.out.mono ?_
      rintro e w2 ⟨rfl, hG2, hK2⟩
      have HG2 := Lib.hid hG2; clear hG2
      have HK2 := Lib.hid (hK.out.trans hK2 (fun _ _ h => h)); clear hK2 HGA r1 r2
      go_wp2_with fail
      go_roundg (n - (j + 1))
      case measure => omega
      case rel => exact ⟨j + 1, by go_num, by omega, Nat.le_refl _, by rw [← HNX.out]; exact HG2.out, HK2⟩
    · obtain rfl : j = n := by omega
      go_wp2_with fail
      go_ret
      have h9 := hGr.out
      rw [List.take_of_length_le (by rw [nodeDots, List.length_map, HN.out]; exact Nat.le_refl _)] at h9
      exact ⟨rfl, h9, hK.out⟩
end Go.Proofs.YtegejfhomocloaaGreat

namespace Go.Proofs.YtegejfhomocloaaGreat
open Go.RowKit

/-- The interval of a query. -/
def spanVR (la ha : Nat) (v3 : Value) : Value := .iface 132 (.agg #[.slice (some ⟨la, 0, none⟩) 1 1, .slice (some ⟨ha, 0, none⟩) 1 1, v3])

set_option maxRecDepth 100000 in
set_option maxHeartbeats 800000 in
theorem apply112 (B t n pe la ha : Nat) (v3 : Value) (vp : Option Addr) (vc : Nat) (ns : List Nd) (w : World) (hT : RTree 0 w t (.slice vp n vc) ns) (hn : ns.length = n) (h0 : 0 < n) (hlen : n ≤ 40) (hlt : ∀ x ∈ ns, x.b < B) (hrl : ∀ y, (Value.slice vp n vc).ownBlock = some y → y < B)
    (hk : ∀ x ∈ ns, 0 ≤ x.d.k ∧ x.d.k ≤ 65535) (hG : Gather B pe [] w) (cl : w.cell? ⟨la, 0, none⟩ = some (.int .i64 (-1))) (ch : w.cell? ⟨ha, 0, none⟩ = some (.int .i64 65536)) :
    Calls Tryz.prog 112 #[.pointer (some ⟨t, 0, none⟩), .slice vp n vc, .iface 132 (.agg #[.slice (some ⟨la, 0, none⟩) 1 1, .slice (some ⟨ha, 0, none⟩) 1 1, v3]), .int .u64 1, .func (.func 118) #[] #[.pointer (some ⟨pe, 0, none⟩)]] w
      fun e w' => e = .returned (.bool true) ∧ Gather B pe (nodeDots ns) w' ∧ Keeps (fun y => B ≤ y) w w' := by
  have HT := Lib.hid hT; clear hT
  have HG := Lib.hid hG; clear hG
  have HK := Lib.hid hk; clear hk
  have HLT := Lib.hid hlt; clear hlt
  have HRL := Lib.hid hrl; clear hrl
  go_enter Tryz.func112, Tryz.ntmps112
  go_wp2_with fail
  have K4 := Lib.hid (((((Keeps.refl (fun _ => False) w).alloc (.cells #[.pointer (some ⟨t, 0, none⟩)] 109)).alloc (.cells #[.iface 132 (.agg #[.slice (some ⟨la, 0, none⟩) 1 1, .slice (some ⟨ha, 0, none⟩) 1 1, v3])] 118)).alloc (.cells #[.int .u64 1] 25)).alloc (.cells #[.func (.func 118) #[] #[.pointer (some ⟨pe, 0, none⟩)]] 271))
  have b5 : ((((w.alloc (.cells #[.pointer (some ⟨t, 0, none⟩)] 109)).alloc (.cells #[.iface 132 (.agg #[.slice (some ⟨la, 0, none⟩) 1 1, .slice (some ⟨ha, 0, none⟩) 1 1, v3])] 118)).alloc (.cells #[.int .u64 1] 25)).alloc (.cells #[.func (.func 118) #[] #[.pointer (some ⟨pe, 0, none⟩)]] 271)).cell? ⟨w.heap.size, 0, none⟩ = some (.pointer (some ⟨t, 0, none⟩)) := cell_at (alloc_heap _ _ (alloc_heap _ _ (alloc_heap _ _ (heap_alloc_new w (.cells #[.pointer (some ⟨t, 0, none⟩)] 109))))) 0
  have b7 : ((((w.alloc (.cells #[.pointer (some ⟨t, 0, none⟩)] 109)).alloc (.cells #[.iface 132 (.agg #[.slice (some ⟨la, 0, none⟩) 1 1, .slice (some ⟨ha, 0, none⟩) 1 1, v3])] 118)).alloc (.cells #[.int .u64 1] 25)).alloc (.cells #[.func (.func 118) #[] #[.pointer (some ⟨pe, 0, none⟩)]] 271)).cell? ⟨w.heap.size + 1, 0, none⟩ = some (.iface 132 (.agg #[.slice (some ⟨la, 0, none⟩) 1 1, .slice (some ⟨ha, 0, none⟩) 1 1, v3])) := cell_at (alloc_heap _ _ (alloc_heap _ _ (alloc_at (w.alloc (.cells #[.pointer (some ⟨t, 0, none⟩)] 109)) (.cells #[.iface 132 (.agg #[.slice (some ⟨la, 0, none⟩) 1 1, .slice (some ⟨ha, 0, none⟩) 1 1, v3])] 118) (w.heap.size + 1) (by simp)))) 0
  have b8 : ((((w.alloc (.cells #[.pointer (some ⟨t, 0, none⟩)] 109)).alloc (.cells #[.iface 132 (.agg #[.slice (some ⟨la, 0, none⟩) 1 1, .slice (some ⟨ha, 0, none⟩) 1 1, v3])] 118)).alloc (.cells #[.int .u64 1] 25)).alloc (.cells #[.func (.func 118) #[] #[.pointer (some ⟨pe, 0, none⟩)]] 271)).cell? ⟨w.heap.size + 1 + 1, 0, none⟩ = some (.int .u64 1) := cell_at (alloc_heap _ _ (alloc_at ((w.alloc (.cells #[.pointer (some ⟨t, 0, none⟩)] 109)).alloc (.cells #[.iface 132 (.agg #[.slice (some ⟨la, 0, none⟩) 1 1, .slice (some ⟨ha, 0, none⟩) 1 1, v3])] 118)) (.cells #[.int .u64 1] 25) (w.heap.size + 1 + 1) (by simp))) 0
  have b9 : ((((w.alloc (.cells #[.pointer (some ⟨t, 0, none⟩)] 109)).alloc (.cells #[.iface 132 (.agg #[.slice (some ⟨la, 0, none⟩) 1 1, .slice (some ⟨ha, 0, none⟩) 1 1, v3])] 118)).alloc (.cells #[.int .u64 1] 25)).alloc (.cells #[.func (.func 118) #[] #[.pointer (some ⟨pe, 0, none⟩)]] 271)).cell? ⟨w.heap.size + 1 + 1 + 1, 0, none⟩ = some (.func (.func 118) #[] #[.pointer (some ⟨pe, 0, none⟩)]) := cell_at (alloc_at (((w.alloc (.cells #[.pointer (some ⟨t, 0, none⟩)] 109)).alloc (.cells #[.iface 132 (.agg #[.slice (some ⟨la, 0, none⟩) 1 1, .slice (some ⟨ha, 0, none⟩) 1 1, v3])] 118)).alloc (.cells #[.int .u64 1] 25)) (.cells #[.func (.func 118) #[] #[.pointer (some ⟨pe, 0, none⟩)]] 271) (w.heap.size + 1 + 1 + 1) (by simp)) 0
  have cl4 := K4.out.cell cl (fun f => f)
  have ch4 := K4.out.cell ch (fun f => f)
  have HL4 := Lib.hid cl4; clear cl4
  have HH4 := Lib.hid ch4; clear ch4 cl ch
  have HT4 := Lib.hid (HT.out.keeps K4.out (fun f => f) (fun _ _ f => f) (fun _ _ f => f))
  have HG4 : Hid (Gather B pe [] ((((w.alloc (.cells #[.pointer (some ⟨t, 0, none⟩)] 109)).alloc (.cells #[.iface 132 (.agg #[.slice (some ⟨la, 0, none⟩) 1 1, .slice (some ⟨ha, 0, none⟩) 1 1, v3])] 118)).alloc (.cells #[.int .u64 1] 25)).alloc (.cells #[.func (.func 118) #[] #[.pointer (some ⟨pe, 0, none⟩)]] 271))) := HG.out.elim fun s h => ⟨s, K4.out.heap h.1 (fun f => f), K4.out.row h.2.1 (fun _ _ f => f), h.2.2⟩
  generalize (((w.alloc (.cells #[.pointer (some ⟨t, 0, none⟩)] 109)).alloc (.cells #[.iface 132 (.agg #[.slice (some ⟨la, 0, none⟩) 1 1, .slice (some ⟨ha, 0, none⟩) 1 1, v3])] 118)).alloc (.cells #[.int .u64 1] 25)).alloc (.cells #[.func (.func 118) #[] #[.pointer (some ⟨pe, 0, none⟩)]] 271) = w4 at K4 b5 b7 b8 b9 HL4 HH4 HT4 HG4 ⊢
  generalize w.heap.size = z at b5 b7 b8 b9 ⊢
  obtain ⟨num, pv, ht4, _⟩ := HT4.out
  have ct : w4.cell? ⟨t, 2, none⟩ = some (.int .u64 1) := cell_at ht4 2
  clear ht4
  go_region_held3 (fun w' => w'.cell? ⟨z + 1, 0, none⟩ = some (.iface 132 (.agg #[.slice (some ⟨la, 0, none⟩) 1 1, .slice (some ⟨ha, 0, none⟩) 1 1, v3])) ∧ w'.cell? ⟨z + 1 + 1, 0, none⟩ = some (.int .u64 1)) (first | go_keep | exact ⟨hk2.out.cell b7 (fun f => f), hk2.out.cell b8 (fun f => f)⟩ | exact ⟨hk1.out.cell b7 (fun f => f), hk1.out.cell b8 (fun f => f)⟩)
    (first
      | (go_at_call 157; refine (lowR157 la ha (-1) v3 w4.drew HL4.out).mono ?_; rintro e w5 ⟨rfl, hB5⟩; have hk1 : Hid (Keeps (fun _ => False) w4 w5) := Keeps.ofDrew (Keeps.of_new hB5); clear hB5)
      | (go_at_call 155; refine (highR155 la ha 65536 v3 w5 (hk1.out.cell HH4.out (fun f => f))).mono ?_; rintro e w6 ⟨rfl, hB6⟩; have hk2 : Hid (Keeps (fun _ => False) w4 w6) := hk1.out.new hB6; clear hB6))
  go_wp2_with fail
  have e5 := hk2.out.cell b5 (fun f => f)
  have et := hk2.out.cell ct (fun f => f)
  have e8 := hk2.out.cell b8 (fun f => f)
  have e9 := hk2.out.cell b9 (fun f => f)
  clear b5 b7 b8 b9 ct
  have K6 := Lib.hid (((K4.out.trans hk2.out (fun _ _ f => f))).drew)
  have HA : Hid (Calls Tryz.prog 123 #[.slice vp n vc, .int .i64 (-1), .int .i64 65536, .func (.func 118) #[] #[.pointer (some ⟨pe, 0, none⟩)]] w6.drew fun e w' => e = .returned (.bool true) ∧ Gather B pe (nodeDots ns) w' ∧ Keeps (fun y => B ≤ y) w6.drew w') := by
    refine apply123 B t n pe vp vc ns w6.drew (HT.out.keeps K6.out (fun f => f) (fun _ _ f => f) (fun _ _ f => f)) hn h0 hlen HLT.out HRL.out HK.out ?_
    exact HG.out.elim fun s h => ⟨s, K6.out.heap h.1 (fun f => f), K6.out.row h.2.1 (fun _ _ f => f), h.2.2⟩
  go_region_held3 (fun w' => w'.cell? ⟨z, 0, none⟩ = some (.pointer (some ⟨t, 0, none⟩)) ∧ w'.cell? ⟨t, 2, none⟩ = some (.int .u64 1) ∧ w'.cell? ⟨z + 1 + 1, 0, none⟩ = some (.int .u64 1)) (go_keep)
    (first | (go_at_call 119; refine (last119 _).mono ?_; rintro e w7 ⟨rfl, rfl⟩))
  go_wp2_with fail
  refine HA.out.mono ?_
  rintro e w8 ⟨rfl, hG8, hK8⟩
  have HG8 := Lib.hid hG8; clear hG8
  have HK8 := Lib.hid ((K6.out.mono (G := fun y => B ≤ y) (fun _ _ f => f.elim)).trans hK8 (fun _ _ h => h)); clear hK8
  clear e5 et e8 e9
  go_wp2_with fail
  go_ret
  exact ⟨rfl, HG8.out, HK8.out⟩

/-- What a query gives. -/
def DotsFound (ds : List Dot) (w : World) (e : Ending) (w' : World) : Prop :=
  ∃ g c : Nat, e = .returned (.slice (some ⟨g, 0, none⟩) ds.length c) ∧ w.heap.size ≤ g ∧ w'.ownsRow w.heap.size 122 1 (.slice (some ⟨g, 0, none⟩) ds.length c) ds.length (ds.map dotV) ∧ Keeps (fun _ => False) w w'

theorem makeEntries (w : World) : (Instr.makeSlice 113 (.int .i64 0) (.int .i64 10)).run Tryz.prog w = .ok (.slice (some ⟨w.heap.size, 0, none⟩) 0 10) (w.alloc (.cells (Array.replicate 10 .nilIface) 122)) := by kernel_rfl

set_option maxRecDepth 100000 in
set_option maxHeartbeats 800000 in
theorem new117 (w : World) : Calls Tryz.prog 117 #[] w fun e w' => e = .returned (.slice (some ⟨w.heap.size, 0, none⟩) 0 10) ∧ w'.ownsRow w.heap.size 122 1 (.slice (some ⟨w.heap.size, 0, none⟩) 0 10) 0 [] ∧ w'.heap.size = w.heap.size + 1 ∧ Keeps (fun _ => False) w w' := by
  have mk := makeEntries
  go_enter Tryz.func117, Tryz.ntmps117
  go_wp2
  go_ret
  exact ⟨rfl, ownsUp (row_made (heap_alloc_new w _) 0 10 (by simp) (by omega) (by simp [maxLen])) (fun y hy => Nat.le_of_eq (Option.some.inj hy)), by simp, (Keeps.refl _ w).alloc _⟩

set_option maxRecDepth 100000 in
set_option maxHeartbeats 800000 in
theorem query109 (t la ha : Nat) (v v3 : Value) (ns : List Nd) (w : World) (hT : RTree 0 w t v ns) (h0 : 0 < ns.length) (hlen : ns.length ≤ 40)
    (hk : ∀ x ∈ ns, 0 ≤ x.d.k ∧ x.d.k ≤ 65535) (cl : w.cell? ⟨la, 0, none⟩ = some (.int .i64 (-1))) (ch : w.cell? ⟨ha, 0, none⟩ = some (.int .i64 65536)) :
    Calls Tryz.prog 109 #[.pointer (some ⟨t, 0, none⟩), .iface 132 (.agg #[.slice (some ⟨la, 0, none⟩) 1 1, .slice (some ⟨ha, 0, none⟩) 1 1, v3])] w (DotsFound (nodeDots ns) w) := by
  obtain ⟨num, pv, ht, hO, hnn, hs, hB⟩ := id hT
  obtain ⟨n, hn⟩ : ∃ n, n = ns.length := ⟨_, rfl⟩
  obtain ⟨vp, vc, rfl⟩ := ownsSlice hO
  rw [← hn] at hT h0 hlen
  have ct : w.cell? ⟨t, 0, none⟩ = some (.slice vp n vc) := by rw [hn]; exact cell_at ht 0
  have hlt : ∀ x ∈ ns, x.b < w.heap.size := fun x hx => lt_of_block (hnn x hx).1
  have hrl : ∀ y, (Value.slice vp n vc).ownBlock = some y → y < w.heap.size := fun y hy => (hO.lt y (by rw [← hn]; exact hy)).2
  have HT := Lib.hid hT; clear hT
  have HK := Lib.hid hk; clear hk
  have HLT := Lib.hid hlt; clear hlt
  have HRL := Lib.hid hrl; clear hrl
  have HCL := Lib.hid cl; clear cl
  have HCH := Lib.hid ch; clear ch
  have HNN := Lib.hid hn; clear hn
  clear ht hO hnn hs hB
  go_enter Tryz.func109, Tryz.ntmps109
  go_wp2_with (first | (go_at_call 117; refine (new117 _).mono ?_; rintro e w1 ⟨rfl, hO1, hz1, hK1⟩; have HO1 := Lib.hid hO1; have HK1 := Lib.hid hK1; have c1 : ∀ o, (w1.alloc o).cell? ⟨t, 0, none⟩ = some (.slice vp n vc) := fun o => (hK1.alloc o).cell ct (fun f => f); clear hO1 hK1 ct))
  have hP2 := heap_alloc_new w1 (.cells #[.slice (some ⟨w.heap.size, 0, none⟩) 0 10] 113)
  have K2 := Lib.hid (HK1.out.alloc (.cells #[.slice (some ⟨w.heap.size, 0, none⟩) 0 10] 113))
  have HO2 := Lib.hid (HO1.out.alloc (.cells #[.slice (some ⟨w.heap.size, 0, none⟩) 0 10] 113))
  rw [hz1] at hP2
  have HP2 := Lib.hid hP2; clear hP2 c1
  generalize w1.alloc (.cells #[.slice (some ⟨w.heap.size, 0, none⟩) 0 10] 113) = w2 at K2 HO2 HP2 ⊢
  refine (apply112 w.heap.size t n (w.heap.size + 1) la ha v3 vp vc ns w2 (HT.out.keeps K2.out (fun f => f) (fun _ _ f => f) (fun _ _ f => f)) HNN.out.symm h0 hlen HLT.out HRL.out HK.out ⟨_, HP2.out, HO2.out, by omega⟩ (K2.out.cell HCL.out (fun f => f)) (K2.out.cell HCH.out (fun f => f))).mono ?_
  rintro e w3 ⟨rfl, ⟨s, hs1, hs2, hs3⟩, hK3⟩
  have hnl : (nodeDots ns).length = n := by rw [nodeDots, List.length_map]; exact HNN.out.symm
  obtain ⟨g, c, rfl, hgb, hgl⟩ := hs2.form (by omega)
  have d1 : w3.cell? ⟨w.heap.size + 1, 0, none⟩ = some (.slice (some ⟨g, 0, none⟩) (nodeDots ns).length c) := cell_at hs1 0
  have HS2 := Lib.hid hs2
  have HK3 := Lib.hid (K2.out.trans hK3 (fun b hb h => by omega))
  clear hs1 hs2 hK3
  go_wp2_with fail
  go_ret
  exact ⟨g, c, by rw [hnl]; rfl, hgb, HS2.out, HK3.out⟩

set_option maxRecDepth 100000 in
set_option maxHeartbeats 800000 in
theorem between34 (c0 c1 c2 c5 c6 c7 c8 : Value) (la ha : Nat) (w : World) :
    Calls Tryz.prog 34 #[.agg #[c0, c1, c2, .slice (some ⟨la, 0, none⟩) 1 1, .slice (some ⟨ha, 0, none⟩) 1 1, c5, c6, c7, c8]] w fun e w' => e = .returned (.iface 132 (.agg #[.slice (some ⟨la, 0, none⟩) 1 1, .slice (some ⟨ha, 0, none⟩) 1 1, .int .u64 0])) ∧ Below w.heap.size w w' := by
  go_enter Tryz.func34, Tryz.ntmps34
  go_wp2
  go_ret
  exact ⟨rfl, by go_grown⟩
end Go.Proofs.YtegejfhomocloaaGreat

namespace Go.Proofs.YtegejfhomocloaaGreat
open Go.RowKit

@[go_sem] theorem na109a (p : Addr) (w : World) : (nilAhead 446 109 (.pointer (some p)) "Add").run Tryz.prog w = .ok (some false) w := by kernel_rfl
@[go_sem] theorem na109q (p : Addr) (w : World) : (nilAhead 446 109 (.pointer (some p)) "Query").run Tryz.prog w = .ok (some false) w := by kernel_rfl

theorem type_ne {w : World} {a b : Nat} {cs cs' : Array Value} {t t' : TypeId} {fr fr' : Nat × Nat} (h : w.heap[a]? = some (.cells cs t fr)) (h' : w.heap[b]? = some (.cells cs' t' fr')) (hne : t ≠ t') : a ≠ b := by
  rintro rfl
  rw [h] at h'
  injection h' with h'
  injection h' with _ h2
  exact hne h2
theorem row_type_ne {w : World} {p B n size : Nat} {v : Value} {xs : List Value} {cs : Array Value} {t e : TypeId} {fr : Nat × Nat} (h : w.heap[p]? = some (.cells cs t fr)) (ho : w.ownsRow B e size v n xs) (hne : t ≠ e) : ∀ y, v.ownBlock = some y → y ≠ p := fun y hy => by
  rcases ho.2 with ⟨h', _⟩ | ⟨g, cap, cur, h', hb, hg, _⟩
  · rw [h'] at hy; cases hy
  · rw [h'] at hy
    have : g = y := Option.some.inj hy
    subst this
    exact (type_ne h hg hne).symm

/-- A tree stays when another kind of block turns. -/
theorem RTree.other {B t b : Nat} {v : Value} {ns : List Nd} {w w' : World} {cs : Array Value} {ty : TypeId} {fr : Nat × Nat} (h : RTree B w t v ns) (k : Keeps (fun y => y = b) w w') (hb : w.heap[b]? = some (.cells cs ty fr)) (h1 : ty ≠ 158) (h2 : ty ≠ 266) (h3 : ty ≠ 269) : RTree B w' t v ns := by
  obtain ⟨num, pv, a1, a2, a3, a4, a5⟩ := id h
  exact h.keeps k (type_ne hb a1 h1).symm (row_type_ne hb a2 h2) (fun x hx => (type_ne hb (a3 x hx).1 h3).symm)

/-- The step that adds. -/
def AddStep (B t : Nat) (ds : List Dot) (w : World) (e : Ending) (w' : World) : Prop :=
  (∃ g c g' c' : Nat, e = .returned (.agg #[.slice (some ⟨g, 0, none⟩) ds.length c, .slice (some ⟨g', 0, none⟩) ds.length c', .slice none 0 0, .int .u64 0])) ∧
    (∃ v' ns', RTree B w' t v' ns' ∧ (ns'.map (·.d)).Perm ds) ∧ Keeps (fun y => y = t) w w'

set_option maxRecDepth 100000 in
set_option maxHeartbeats 800000 in
theorem step20add (B t dg n cap : Nat) (ds : List Dot) (w : World) (hT : RTree B w t (.slice none 0 0) []) (hn : ds.length = n) (h0 : 0 < n) (hlen : n ≤ 40) (hrow : w.ownsRow 0 36 2 (.slice (some ⟨dg, 0, none⟩) n cap) n (dotCells ds)) (hD : DotsAt w ds)
    (hx : (ds.map (·.k)).Nodup) (hda : ∀ d ∈ ds, d.a < B) :
    Calls Tryz.prog 20 #[.iface 109 (.pointer (some ⟨t, 0, none⟩)), .agg #[.int .i64 1, .int .i64 0, .slice (some ⟨dg, 0, none⟩) n cap, .slice none 0 0, .slice none 0 0, .int .u64 0, .int .i64 0, .int .i64 0, .int .i64 0]] w (AddStep B t ds w) := by
  have HT := Lib.hid hT; clear hT
  have HN := Lib.hid hn; clear hn
  have HR := Lib.hid hrow; clear hrow
  have HD := Lib.hid hD; clear hD
  have HX := Lib.hid hx; clear hx
  have HDA := Lib.hid hda; clear hda
  go_enter Tryz.func20, Tryz.ntmps20
  go_wp2_with fail
  have K2 := Lib.hid (((Keeps.refl (fun _ => False) w).alloc (.cells #[.int .i64 1, .int .i64 0, .slice (some ⟨dg, 0, none⟩) n cap, .slice none 0 0, .slice none 0 0, .int .u64 0, .int .i64 0, .int .i64 0, .int .i64 0] 47)).alloc (.cells #[.slice none 0 0, .slice none 0 0, .slice none 0 0, .int .u64 0] 61))
  have bx : ((w.alloc (.cells #[.int .i64 1, .int .i64 0, .slice (some ⟨dg, 0, none⟩) n cap, .slice none 0 0, .slice none 0 0, .int .u64 0, .int .i64 0, .int .i64 0, .int .i64 0] 47)).alloc (.cells #[.slice none 0 0, .slice none 0 0, .slice none 0 0, .int .u64 0] 61)).cell? ⟨w.heap.size, 2, none⟩ = some (.slice (some ⟨dg, 0, none⟩) n cap) := cell_at (alloc_heap _ _ (heap_alloc_new w (.cells #[.int .i64 1, .int .i64 0, .slice (some ⟨dg, 0, none⟩) n cap, .slice none 0 0, .slice none 0 0, .int .u64 0, .int .i64 0, .int .i64 0, .int .i64 0] 47))) 2
  have HA2 := Lib.hid (alloc_at (w.alloc (.cells #[.int .i64 1, .int .i64 0, .slice (some ⟨dg, 0, none⟩) n cap, .slice none 0 0, .slice none 0 0, .int .u64 0, .int .i64 0, .int .i64 0, .int .i64 0] 47)) (.cells #[.slice none 0 0, .slice none 0 0, .slice none 0 0, .int .u64 0] 61) (w.heap.size + 1) (by simp))
  have hz2 : ((w.alloc (.cells #[.int .i64 1, .int .i64 0, .slice (some ⟨dg, 0, none⟩) n cap, .slice none 0 0, .slice none 0 0, .int .u64 0, .int .i64 0, .int .i64 0, .int .i64 0] 47)).alloc (.cells #[.slice none 0 0, .slice none 0 0, .slice none 0 0, .int .u64 0] 61)).heap.size = w.heap.size + 2 := by simp
  generalize (w.alloc (.cells #[.int .i64 1, .int .i64 0, .slice (some ⟨dg, 0, none⟩) n cap, .slice none 0 0, .slice none 0 0, .int .u64 0, .int .i64 0, .int .i64 0, .int .i64 0] 47)).alloc (.cells #[.slice none 0 0, .slice none 0 0, .slice none 0 0, .int .u64 0] 61) = w2 at K2 bx HA2 hz2 ⊢
  have htl : t < w.heap.size := by obtain ⟨_, _, h, _⟩ := HT.out; exact lt_of_block h
  have hBt : B ≤ t := by obtain ⟨_, _, _, _, _, _, h⟩ := HT.out; exact h
  have HDL : Hid (∀ d ∈ ds, d.a ≠ t ∧ (Value.slice none 0 0).ownBlock ≠ some d.a) := fun d hd => ⟨by have := HDA.out d hd; omega, by simp [Value.ownBlock]⟩
  have hzz : w.heap.size = w.heap.size := rfl
  generalize hz : w.heap.size = z at bx HA2 hz2 htl hzz ⊢
  have HZZ := Lib.hid hz; clear hz hzz
  have hnil : ∀ y, (Value.slice none 0 0).ownBlock = some y → False := fun y hy => by cases hy
  have HNIL := Lib.hid hnil; clear hnil
  go_region_held3 (fun w' => w'.cell? ⟨z, 2, none⟩ = some (.slice (some ⟨dg, 0, none⟩) n cap)) (first | go_keep | exact hk5.out.cell bx (fun e => by simp at e; omega) | exact hk4.out.cell bx (fun e => by simp at e; omega) | exact hk3.out.cell bx (fun f => f))
    (first
      | (go_at_call 33; refine (dots33 dg n cap ds w2.drew HN.out h0 hlen (K2.out.row HR.out (ownNot fun f => f))).mono ?_; rintro e w3 ⟨g1, c1, rfl, hg1, hO1, hk⟩; have hk3 : Hid (Keeps (fun _ => False) w2 w3) := Keeps.ofDrew hk; have HO1 := Lib.hid hO1; have hg1 : z + 2 ≤ g1 := Nat.le_trans (Nat.le_of_eq hz2.symm) hg1; clear hO1 hk)
      | (go_at_call 103; refine (add103 B t g1 ds.length c1 (.slice none 0 0) ds w3 (HT.out.keeps (K2.out.trans hk3.out (fun _ _ f => f)) (fun f => f) (fun _ _ f => f) (fun _ _ f => f)) rfl (by rw [HN.out]; exact h0) (by rw [HN.out]; exact hlen) (ownsBase HO1.out) (HD.out.keeps (K2.out.trans hk3.out (fun _ _ f => f)) (fun _ _ f => f)) HX.out ⟨by omega, by simp [Value.ownBlock]⟩ HDL.out).mono ?_; rintro e w4 ⟨g2, rfl, hg2, hO2, v', ns', hT4, hp4, hk⟩; have HT4 := Lib.hid hT4; have HP4 := Lib.hid hp4; have HO2 := Lib.hid hO2; have hk4 : Hid (Keeps (fun y => y = t) w2 w4) := (hk3.out.mono (fun _ _ f => f.elim)).trans hk (fun b hb h => h.elim id (fun h => (HNIL.out b h).elim)); clear hO2 hT4 hp4 hk)
      | (go_at_call 32; refine (answer32 g2 ds.length ds.length (List.replicate ds.length none) w4 (by simp) (by rw [HN.out]; exact h0) (by rw [HN.out]; exact hlen) (by rw [List.map_replicate]; exact HO2.out)).mono ?_; rintro e w5 ⟨g3, c3, g4, c4, rfl, hO3, hk⟩; have hk5 : Hid (Keeps (fun y => y = t) w2 w5) := hk4.out.trans hk (fun _ _ f => f.elim); have HT5 := Lib.hid (HT4.out.keeps hk (fun f => f) (fun _ _ f => f) (fun _ _ f => f)); have HA5 := Lib.hid (hk5.out.heap HA2.out (fun e => by omega)); have p0 : w5.cell? ⟨z + 1, 0, none⟩ = some (.slice none 0 0) := cell_at HA5.out 0; have q0 : w5.frozen? ⟨z + 1, 0, none⟩ = false := free_at HA5.out 0; have p1 : w5.cell? ⟨z + 1, 1, none⟩ = some (.slice none 0 0) := cell_at HA5.out 1; have q1 : w5.frozen? ⟨z + 1, 1, none⟩ = false := free_at HA5.out 1; have p2 : w5.cell? ⟨z + 1, 2, none⟩ = some (.slice none 0 0) := cell_at HA5.out 2; have q2 : w5.frozen? ⟨z + 1, 2, none⟩ = false := free_at HA5.out 2; have p3 : w5.cell? ⟨z + 1, 3, none⟩ = some (.int .u64 0) := cell_at HA5.out 3; have q3 : w5.frozen? ⟨z + 1, 3, none⟩ = false := free_at HA5.out 3; clear hO3 hk))
  all_goals
    go_wp2_with fail
    have A2 := heap_setCell_same _ (z + 1) 3 _ _ (.int .u64 0) (heap_setCell_same _ (z + 1) 2 _ _ (.slice none 0 0) (heap_setCell_same _ (z + 1) 1 _ _ (.slice (some ⟨g4, 0, none⟩) ds.length c4) (heap_setCell_same w5 (z + 1) 0 _ _ (.slice (some ⟨g3, 0, none⟩) ds.length c3) HA5.out)))
    have KF := ((((Keeps.refl (fun y => y = z + 1) w5).setIn (z + 1) 0 (.slice (some ⟨g3, 0, none⟩) ds.length c3) rfl).setIn (z + 1) 1 (.slice (some ⟨g4, 0, none⟩) ds.length c4) rfl).setIn (z + 1) 2 (.slice none 0 0) rfl).setIn (z + 1) 3 (.int .u64 0) rfl
    have HH5 := HA5.out
    have KK := ((K2.out.mono (G := fun y => y = t) (fun _ _ f => f.elim)).trans hk5.out (fun _ _ h => h)).trans KF (fun b hb (e : b = z + 1) => absurd hb (by rw [HZZ.out]; omega))
    refine bodyPost_ret (results_cell_row rfl _ _ (z + 1) 61 _ (0, 0) _ rfl A2 Tryz.underlying61 rfl (by kernel_rfl)) rfl ?_
    exact ⟨⟨g3, c3, g4, c4, by simp [List.length_replicate]⟩, ⟨v', ns', HT5.out.other KF HH5 (by decide) (by decide) (by decide), HP4.out⟩, KK⟩
end Go.Proofs.YtegejfhomocloaaGreat

namespace Go.Proofs.YtegejfhomocloaaGreat
open Go.RowKit

theorem tell_some (ds : List Dot) : tellCells (ds.map some) = dotCells ds := by
  unfold tellCells dotCells
  rw [List.flatMap_map]
  rfl
theorem ent_some (ds : List Dot) : (ds.map some).map entV = ds.map dotV := by
  rw [List.map_map]; rfl

set_option maxRecDepth 100000 in
set_option maxHeartbeats 1600000 in
theorem step20query (t la ha : Nat) (v : Value) (ns : List Nd) (w : World) (hT : RTree 0 w t v ns) (h0 : 0 < ns.length) (hlen : ns.length ≤ 40) (hk : ∀ x ∈ ns, 0 ≤ x.d.k ∧ x.d.k ≤ 65535)
    (cl : w.cell? ⟨la, 0, none⟩ = some (.int .i64 (-1))) (ch : w.cell? ⟨ha, 0, none⟩ = some (.int .i64 65536)) :
    Calls Tryz.prog 20 #[.iface 109 (.pointer (some ⟨t, 0, none⟩)), .agg #[.int .i64 4, .int .i64 0, .slice none 0 0, .slice (some ⟨la, 0, none⟩) 1 1, .slice (some ⟨ha, 0, none⟩) 1 1, .int .u64 0, .int .i64 0, .int .i64 0, .int .i64 0]] w (DotsTold ((nodeDots ns).map some) w) := by
  have HT := Lib.hid hT; clear hT
  have HK := Lib.hid hk; clear hk
  have HCL := Lib.hid cl; clear cl
  have HCH := Lib.hid ch; clear ch
  have hnl : (nodeDots ns).length = ns.length := by rw [nodeDots, List.length_map]
  have HNL := Lib.hid hnl; clear hnl
  go_enter Tryz.func20, Tryz.ntmps20
  go_wp2_with fail
  have K2 := Lib.hid (((Keeps.refl (fun _ => False) w).alloc (.cells #[.int .i64 4, .int .i64 0, .slice none 0 0, .slice (some ⟨la, 0, none⟩) 1 1, .slice (some ⟨ha, 0, none⟩) 1 1, .int .u64 0, .int .i64 0, .int .i64 0, .int .i64 0] 47)).alloc (.cells #[.slice none 0 0, .slice none 0 0, .slice none 0 0, .int .u64 0] 61))
  have hbx := alloc_heap (w.alloc (.cells #[.int .i64 4, .int .i64 0, .slice none 0 0, .slice (some ⟨la, 0, none⟩) 1 1, .slice (some ⟨ha, 0, none⟩) 1 1, .int .u64 0, .int .i64 0, .int .i64 0, .int .i64 0] 47)) (.cells #[.slice none 0 0, .slice none 0 0, .slice none 0 0, .int .u64 0] 61) (heap_alloc_new w (.cells #[.int .i64 4, .int .i64 0, .slice none 0 0, .slice (some ⟨la, 0, none⟩) 1 1, .slice (some ⟨ha, 0, none⟩) 1 1, .int .u64 0, .int .i64 0, .int .i64 0, .int .i64 0] 47))
  have HA2 := Lib.hid (alloc_at (w.alloc (.cells #[.int .i64 4, .int .i64 0, .slice none 0 0, .slice (some ⟨la, 0, none⟩) 1 1, .slice (some ⟨ha, 0, none⟩) 1 1, .int .u64 0, .int .i64 0, .int .i64 0, .int .i64 0] 47)) (.cells #[.slice none 0 0, .slice none 0 0, .slice none 0 0, .int .u64 0] 61) (w.heap.size + 1) (by simp))
  have hz2 : ((w.alloc (.cells #[.int .i64 4, .int .i64 0, .slice none 0 0, .slice (some ⟨la, 0, none⟩) 1 1, .slice (some ⟨ha, 0, none⟩) 1 1, .int .u64 0, .int .i64 0, .int .i64 0, .int .i64 0] 47)).alloc (.cells #[.slice none 0 0, .slice none 0 0, .slice none 0 0, .int .u64 0] 61)).heap.size = w.heap.size + 2 := by simp
  generalize (w.alloc (.cells #[.int .i64 4, .int .i64 0, .slice none 0 0, .slice (some ⟨la, 0, none⟩) 1 1, .slice (some ⟨ha, 0, none⟩) 1 1, .int .u64 0, .int .i64 0, .int .i64 0, .int .i64 0] 47)).alloc (.cells #[.slice none 0 0, .slice none 0 0, .slice none 0 0, .int .u64 0] 61) = w2 at K2 hbx HA2 hz2 ⊢
  have b0 : w2.cell? ⟨w.heap.size, 0, none⟩ = some (.int .i64 4) := cell_at hbx 0
  have b1 : w2.cell? ⟨w.heap.size, 1, none⟩ = some (.int .i64 0) := cell_at hbx 1
  have b2 : w2.cell? ⟨w.heap.size, 2, none⟩ = some (.slice none 0 0) := cell_at hbx 2
  have b3 : w2.cell? ⟨w.heap.size, 3, none⟩ = some (.slice (some ⟨la, 0, none⟩) 1 1) := cell_at hbx 3
  have b4 : w2.cell? ⟨w.heap.size, 4, none⟩ = some (.slice (some ⟨ha, 0, none⟩) 1 1) := cell_at hbx 4
  have b5 : w2.cell? ⟨w.heap.size, 5, none⟩ = some (.int .u64 0) := cell_at hbx 5
  have b6 : w2.cell? ⟨w.heap.size, 6, none⟩ = some (.int .i64 0) := cell_at hbx 6
  have b7 : w2.cell? ⟨w.heap.size, 7, none⟩ = some (.int .i64 0) := cell_at hbx 7
  have b8 : w2.cell? ⟨w.heap.size, 8, none⟩ = some (.int .i64 0) := cell_at hbx 8
  clear hbx
  have hzz : w.heap.size = w.heap.size := rfl
  generalize hz : w.heap.size = z at b0 b1 b2 b3 b4 b5 b6 b7 b8 HA2 hz2 hzz ⊢
  have HZZ := Lib.hid hz; clear hz hzz
  go_region_held3 (fun w' => w'.cell? ⟨z, 0, none⟩ = some (.int .i64 4) ∧ w'.cell? ⟨z, 1, none⟩ = some (.int .i64 0) ∧ w'.cell? ⟨z, 2, none⟩ = some (.slice none 0 0) ∧ w'.cell? ⟨z, 3, none⟩ = some (.slice (some ⟨la, 0, none⟩) 1 1) ∧ w'.cell? ⟨z, 4, none⟩ = some (.slice (some ⟨ha, 0, none⟩) 1 1) ∧ w'.cell? ⟨z, 5, none⟩ = some (.int .u64 0) ∧ w'.cell? ⟨z, 6, none⟩ = some (.int .i64 0) ∧ w'.cell? ⟨z, 7, none⟩ = some (.int .i64 0) ∧ w'.cell? ⟨z, 8, none⟩ = some (.int .i64 0)) (first | go_keep | exact ⟨hk5.out.cell b0 (fun f => f), hk5.out.cell b1 (fun f => f), hk5.out.cell b2 (fun f => f), hk5.out.cell b3 (fun f => f), hk5.out.cell b4 (fun f => f), hk5.out.cell b5 (fun f => f), hk5.out.cell b6 (fun f => f), hk5.out.cell b7 (fun f => f), hk5.out.cell b8 (fun f => f)⟩ | exact ⟨hk4.out.cell b0 (fun f => f), hk4.out.cell b1 (fun f => f), hk4.out.cell b2 (fun f => f), hk4.out.cell b3 (fun f => f), hk4.out.cell b4 (fun f => f), hk4.out.cell b5 (fun f => f), hk4.out.cell b6 (fun f => f), hk4.out.cell b7 (fun f => f), hk4.out.cell b8 (fun f => f)⟩ | exact ⟨hk3.out.cell b0 (fun f => f), hk3.out.cell b1 (fun f => f), hk3.out.cell b2 (fun f => f), hk3.out.cell b3 (fun f => f), hk3.out.cell b4 (fun f => f), hk3.out.cell b5 (fun f => f), hk3.out.cell b6 (fun f => f), hk3.out.cell b7 (fun f => f), hk3.out.cell b8 (fun f => f)⟩)
    (first
      | (go_at_call 34; refine (between34 _ _ _ _ _ _ _ la ha w2.drew).mono ?_; rintro e w3 ⟨rfl, hB3⟩; have hk3 : Hid (Keeps (fun _ => False) w2 w3) := Keeps.ofDrew (Keeps.of_new hB3); clear hB3)
      | (go_at_call 109; refine (query109 t la ha v (.int .u64 0) ns w3 (HT.out.keeps (K2.out.trans hk3.out (fun _ _ f => f)) (fun f => f) (fun _ _ f => f) (fun _ _ f => f)) h0 hlen HK.out ((K2.out.trans hk3.out (fun _ _ f => f)).cell HCL.out (fun f => f)) ((K2.out.trans hk3.out (fun _ _ f => f)).cell HCH.out (fun f => f))).mono ?_; rintro e w4 ⟨g2, c2, rfl, hg2, hO2, hk⟩; have HO2 := Lib.hid hO2; have hk4 : Hid (Keeps (fun _ => False) w2 w4) := hk3.out.trans hk (fun b hb h => h); clear hO2 hk hg2)
      | (go_at_call 32; refine (answer32 g2 (nodeDots ns).length c2 ((nodeDots ns).map some) w4 (by simp) (by rw [HNL.out]; exact h0) (by rw [HNL.out]; exact hlen) (by rw [ent_some]; exact ownsBase HO2.out)).mono ?_; rintro e w5 ⟨g3, c3, g4, c4, rfl, hO3, hk⟩; have HO3 := Lib.hid hO3; have hk5 : Hid (Keeps (fun _ => False) w2 w5) := hk4.out.trans hk (fun _ _ f => f.elim); have HA5 := Lib.hid (hk5.out.heap HA2.out (fun e => e)); have p0 : w5.cell? ⟨z + 1, 0, none⟩ = some (.slice none 0 0) := cell_at HA5.out 0; have q0 : w5.frozen? ⟨z + 1, 0, none⟩ = false := free_at HA5.out 0; have p1 : w5.cell? ⟨z + 1, 1, none⟩ = some (.slice none 0 0) := cell_at HA5.out 1; have q1 : w5.frozen? ⟨z + 1, 1, none⟩ = false := free_at HA5.out 1; have p2 : w5.cell? ⟨z + 1, 2, none⟩ = some (.slice none 0 0) := cell_at HA5.out 2; have q2 : w5.frozen? ⟨z + 1, 2, none⟩ = false := free_at HA5.out 2; have p3 : w5.cell? ⟨z + 1, 3, none⟩ = some (.int .u64 0) := cell_at HA5.out 3; have q3 : w5.frozen? ⟨z + 1, 3, none⟩ = false := free_at HA5.out 3; clear hO3 hk))
  all_goals
    go_wp2_with fail
    have hl : ((nodeDots ns).map some).length = (nodeDots ns).length := by simp
    have hz4 := hk4.out.size
    have hg3 : w4.heap.size ≤ g3 := (HO3.out.lt g3 rfl).1
    have n3 : g3 ≠ z + 1 := by omega
    have A2 := heap_setCell_same _ (z + 1) 3 _ _ (.int .u64 0) (heap_setCell_same _ (z + 1) 2 _ _ (.slice none 0 0) (heap_setCell_same _ (z + 1) 1 _ _ (.slice (some ⟨g4, 0, none⟩) ((nodeDots ns).map some).length c4) (heap_setCell_same w5 (z + 1) 0 _ _ (.slice (some ⟨g3, 0, none⟩) ((nodeDots ns).map some).length c3) HA5.out)))
    have KF := ((((Keeps.refl (fun y => y = z + 1) w5).setIn (z + 1) 0 (.slice (some ⟨g3, 0, none⟩) ((nodeDots ns).map some).length c3) rfl).setIn (z + 1) 1 (.slice (some ⟨g4, 0, none⟩) ((nodeDots ns).map some).length c4) rfl).setIn (z + 1) 2 (.slice none 0 0) rfl).setIn (z + 1) 3 (.int .u64 0) rfl
    rw [hl] at A2 KF
    have KK := (K2.out.trans hk5.out (fun _ _ h => h)).trans KF (fun b hb (e : b = z + 1) => absurd hb (by rw [HZZ.out]; omega))
    have OF := ownsUp (KF.row HO3.out (ownNot n3)) (B' := w.heap.size) (fun y hy => by have h7 : g3 = y := Option.some.inj hy; rw [HZZ.out]; omega)
    refine bodyPost_ret (results_cell_row rfl _ _ (z + 1) 61 _ (0, 0) _ rfl A2 Tryz.underlying61 rfl (by kernel_rfl)) rfl ?_
    refine ⟨g3, c3, g4, c4, by rw [hl]; rfl, OF, KK⟩

/-- What the two steps leave. -/
def DotsOut (ds : List Dot) (w : World) (e : Ending) (w' : World) : Prop :=
  ∃ ag acap g gc : Nat, ∃ ys : List Dot, e = .returned (.slice (some ⟨ag, 0, none⟩) 2 acap) ∧ w'.cell? ⟨ag, 4, none⟩ = some (.slice (some ⟨g, 0, none⟩) ds.length gc) ∧
    w'.ownsRow 0 36 2 (.slice (some ⟨g, 0, none⟩) ds.length gc) ds.length (dotCells ys) ∧ ys.Perm ds ∧ DSrt ys ∧ w.heap.size ≤ ag ∧ w.heap.size ≤ g ∧ Keeps (fun _ => False) w w'
end Go.Proofs.YtegejfhomocloaaGreat

namespace Go.Proofs.YtegejfhomocloaaGreat
open Go.RowKit

theorem info61 : (Tryz.prog.info? 61).map (fun i => (i.zero, i.size, i.bytes)) = some (some (.agg #[.slice none 0 0, .slice none 0 0, .slice none 0 0, .int .u64 0]), 4, 80) := by kernel_rfl
theorem news4 {w : World} {b : Nat} {x y z u : Value} {t : TypeId} {fr : Nat × Nat} (h : w.heap[b]? = some (.cells #[x, y, z, u] t fr)) : ∀ j v, [x, y, z, u][j]? = some v → w.cell? ((⟨b, 0, none⟩ : Addr).add j) = some v := World.news_of_block h
theorem four_of {x y z u : Value} (h : x.oneCell' = true) (h' : y.oneCell' = true) (h'' : z.oneCell' = true) (h3 : u.oneCell' = true) : ∀ v ∈ [x, y, z, u], v.oneCell' = true := fun v hv => by
  simp only [List.mem_cons, List.not_mem_nil, or_false] at hv
  rcases hv with rfl | rfl | rfl | rfl <;> assumption
theorem RTree.base {B t : Nat} {v : Value} {ns : List Nd} {w : World} (h : RTree B w t v ns) : RTree 0 w t v ns := by
  obtain ⟨num, pv, h1, h2, h3, h4, h5⟩ := h
  exact ⟨num, pv, h1, ownsBase h2, fun x hx => ⟨(h3 x hx).1, Nat.zero_le _⟩, h4, Nat.zero_le _⟩
theorem RTree.tl {B t : Nat} {v : Value} {ns : List Nd} {w : World} (h : RTree B w t v ns) : B ≤ t ∧ t < w.heap.size := by
  obtain ⟨num, pv, h1, h2, h3, h4, h5⟩ := h
  exact ⟨h5, lt_of_block h1⟩
theorem RTree.srt {B t : Nat} {v : Value} {ns : List Nd} {w : World} (h : RTree B w t v ns) : DSrt (nodeDots ns) := by
  obtain ⟨num, pv, h1, h2, h3, h4, h5⟩ := h
  exact h4

/-- Between the steps. -/
def DStepRel (ds : List Dot) (t : Nat) (w : World) (kx : Nat) (s6 s13 : Value) (wr : World) : Prop :=
  (s13 = .int .i64 0 ∧ s6 = .slice none 0 0 ∧ 2 ≤ kx ∧ RTree w.heap.size wr t (.slice none 0 0) [] ∧ Keeps (fun _ => False) w wr) ∨
  (s13 = .int .i64 1 ∧ 1 ≤ kx ∧ (∃ og oc, s6 = .slice (some ⟨og, 0, none⟩) 1 oc ∧ ∃ cs, wr.ownsRow w.heap.size 61 4 s6 1 cs) ∧ (∃ v ns, RTree w.heap.size wr t v ns ∧ (nodeDots ns).Perm ds) ∧ Keeps (fun _ => False) w wr) ∨
  (s13 = .int .i64 2 ∧ DotsOut ds w (.returned s6) wr)

set_option maxRecDepth 100000 in
set_option maxHeartbeats 1600000 in
theorem rtRun6 (sg sc dg n dcap la ha : Nat) (ds : List Dot) (w : World) (hn : ds.length = n) (h0 : 0 < n) (hlen : n ≤ 40) (hx : (ds.map (·.k)).Nodup) (hr : ∀ d ∈ ds, 0 ≤ d.k ∧ d.k ≤ 65535)
    (hS : w.heap[sg]? = some (.cells #[.int .i64 1, .int .i64 0, .slice (some ⟨dg, 0, none⟩) n dcap, .slice none 0 0, .slice none 0 0, .int .u64 0, .int .i64 0, .int .i64 0, .int .i64 0, .int .i64 4, .int .i64 0, .slice none 0 0, .slice (some ⟨la, 0, none⟩) 1 1, .slice (some ⟨ha, 0, none⟩) 1 1, .int .u64 0, .int .i64 0, .int .i64 0, .int .i64 0] 47 (0, 0)))
    (hW : w.ownsRow 0 36 2 (.slice (some ⟨dg, 0, none⟩) n dcap) n (dotCells ds)) (hD : DotsAt w ds) (cl : w.cell? ⟨la, 0, none⟩ = some (.int .i64 (-1))) (ch : w.cell? ⟨ha, 0, none⟩ = some (.int .i64 65536)) :
    Calls Tryz.prog 6 #[.int .u64 1, .slice (some ⟨sg, 0, none⟩) 2 sc] w (DotsOut ds w) := by
  obtain ⟨i0, hi0, hiz, his, hib⟩ := info_parts info61
  have hda : ∀ d ∈ ds, d.a < w.heap.size := fun d hd => World.block_lt_of_cell? w _ (hD d hd)
  have HN := Lib.hid hn; clear hn
  have HX := Lib.hid hx; clear hx
  have HRR := Lib.hid hr; clear hr
  have HS := Lib.hid hS; clear hS
  have HW := Lib.hid hW; clear hW
  have HD := Lib.hid hD; clear hD
  have HDA := Lib.hid hda; clear hda
  have HCL := Lib.hid cl; clear cl
  have HCH := Lib.hid ch; clear ch
  go_enter Tryz.func6, Tryz.ntmps6
  go_wp2_with fail
  refine (rnew19 w).mono ?_
  rintro e w1 ⟨t, rfl, hT, hK⟩
  have HT := Lib.hid hT; clear hT
  have HK := Lib.hid hK; clear hK
  go_wp2_with fail
  go_loopg [6, 13] 2 (fun kx s6 s13 wr => Hid (DStepRel ds t w kx s6 s13 wr))
  case atStart => exact .inl ⟨rfl, rfl, Nat.le_refl _, HT.out, HK.out⟩
  case round =>
    rcases hrel.out with ⟨e13, e6, hk, hT, hK⟩ | ⟨e13, hk, ⟨og, oc, e6, cs, hO⟩, ⟨v, ns, hT, hp⟩, hK⟩ | ⟨e13, hout⟩
    · subst e13 e6
      have HT1 := Lib.hid hT; clear hT
      have HK1 := Lib.hid hK; clear hK
      clear hrel
      have hs1 := HK1.out.heap HS.out (fun f => f)
      have a0 : wr.cell? ⟨sg, 0, none⟩ = some (.int .i64 1) := cell_at hs1 0
      have a1 : wr.cell? ⟨sg, 1, none⟩ = some (.int .i64 0) := cell_at hs1 1
      have a2 : wr.cell? ⟨sg, 2, none⟩ = some (.slice (some ⟨dg, 0, none⟩) n dcap) := cell_at hs1 2
      have a3 : wr.cell? ⟨sg, 3, none⟩ = some (.slice none 0 0) := cell_at hs1 3
      have a4 : wr.cell? ⟨sg, 4, none⟩ = some (.slice none 0 0) := cell_at hs1 4
      have a5 : wr.cell? ⟨sg, 5, none⟩ = some (.int .u64 0) := cell_at hs1 5
      have a6 : wr.cell? ⟨sg, 6, none⟩ = some (.int .i64 0) := cell_at hs1 6
      have a7 : wr.cell? ⟨sg, 7, none⟩ = some (.int .i64 0) := cell_at hs1 7
      have a8 : wr.cell? ⟨sg, 8, none⟩ = some (.int .i64 0) := cell_at hs1 8
      have KA := Lib.hid (Keeps.alloc (Keeps.refl (fun _ => False) wr) (.cells #[.int .i64 1, .int .i64 0, .slice (some ⟨dg, 0, none⟩) n dcap, .slice none 0 0, .slice none 0 0, .int .u64 0, .int .i64 0, .int .i64 0, .int .i64 0] 47))
      have hwz := HK1.out.size
      have HA := Lib.hid (step20add w.heap.size t dg n dcap ds (wr.alloc (.cells #[.int .i64 1, .int .i64 0, .slice (some ⟨dg, 0, none⟩) n dcap, .slice none 0 0, .slice none 0 0, .int .u64 0, .int .i64 0, .int .i64 0, .int .i64 0] 47)) (HT1.out.keeps KA.out (fun f => f) (fun _ _ f => f) (fun _ _ f => f)) HN.out h0 hlen ((HK1.out.row HW.out (ownNot fun f => f)).alloc _) ((HD.out.keeps HK1.out (fun _ _ f => f)).keeps KA.out (fun _ _ f => f)) HX.out HDA.out)
      have htl := HT1.out.tl
      clear hs1
      go_wp2_with fail
      refine HA.out.mono ?_
      rintro e w2 ⟨⟨g1, c1, g2, c2, rfl⟩, ⟨v', ns', hT2, hp2⟩, hK2⟩
      have HT2 := Lib.hid hT2; clear hT2
      have HP2 := Lib.hid hp2; clear hp2
      have HK2 := Lib.hid ((HK1.out.trans KA.out (fun _ _ f => f)).trans hK2 (fun b hb h => by omega)); clear hK2
      have hz2 := HK2.out.size
      clear a0 a1 a2 a3 a4 a5 a6 a7 a8 HA
      go_wp2_with (at_builtin; refine wpList_append_lies _ rfl (.tmp 17) (.tmp 21) 44 rfl w.heap.size 61 i0 _ 4 80 Tryz.underlying44 hi0 hiz his hib rfl (by omega) (.slice none 0 0) 0 [] rfl (World.ownsRow_nil _ _ _ _) ⟨w2.heap.size, 0, none⟩ 1 1 [.slice (some ⟨g1, 0, none⟩) ds.length c1, .slice (some ⟨g2, 0, none⟩) ds.length c2, .slice none 0 0, .int .u64 0] rfl (by rfl) (news4 (heap_alloc_new w2 _)) (four_of rfl rfl rfl rfl) (by omega) (by simp only [maxLen]; omega) (by omega) (by simp; omega) _ rfl ?_; intro og oc w5 hO hg hat hlt; clear hat; have HO5 := Lib.hid hO; have HK5 := Lib.hid ((HK2.out.alloc _).grown hg (fun b hb _ => by cases hb)); have HT5 := Lib.hid (HT2.out.keeps (((Keeps.refl (fun _ => False) w2).alloc _).grown hg (fun b hb _ => by cases hb)) (fun f => f) (fun _ _ f => f) (fun _ _ f => f)); clear hO hg)
      go_roundg (1)
      case measure => omega
      case rel => exact .inr (.inl ⟨rfl, by omega, ⟨og, oc, rfl, _, HO5.out⟩, ⟨v', ns', HT5.out, HP2.out⟩, HK5.out⟩)
    · subst e13 e6
      have HO1 := Lib.hid hO; clear hO
      have hnl : ns.length = n := by have := hp.length_eq; rw [nodeDots, List.length_map, HN.out] at this; exact this
      have hkr : ∀ x ∈ ns, 0 ≤ x.d.k ∧ x.d.k ≤ 65535 := fun x hx => HRR.out _ (hp.mem_iff.1 (List.mem_map.2 ⟨x, hx, rfl⟩))
      have HSR := Lib.hid hT.srt
      have HT1 := Lib.hid hT.base; clear hT
      have HP := Lib.hid hp; clear hp
      have HK1 := Lib.hid hK; clear hK
      have HKR := Lib.hid hkr; clear hkr
      clear hrel
      have hs1 := HK1.out.heap HS.out (fun f => f)
      have a0 : wr.cell? ⟨sg, 9, none⟩ = some (.int .i64 4) := cell_at hs1 9
      have a1 : wr.cell? ⟨sg, 10, none⟩ = some (.int .i64 0) := cell_at hs1 10
      have a2 : wr.cell? ⟨sg, 11, none⟩ = some (.slice none 0 0) := cell_at hs1 11
      have a3 : wr.cell? ⟨sg, 12, none⟩ = some (.slice (some ⟨la, 0, none⟩) 1 1) := cell_at hs1 12
      have a4 : wr.cell? ⟨sg, 13, none⟩ = some (.slice (some ⟨ha, 0, none⟩) 1 1) := cell_at hs1 13
      have a5 : wr.cell? ⟨sg, 14, none⟩ = some (.int .u64 0) := cell_at hs1 14
      have a6 : wr.cell? ⟨sg, 15, none⟩ = some (.int .i64 0) := cell_at hs1 15
      have a7 : wr.cell? ⟨sg, 16, none⟩ = some (.int .i64 0) := cell_at hs1 16
      have a8 : wr.cell? ⟨sg, 17, none⟩ = some (.int .i64 0) := cell_at hs1 17
      have KA := Lib.hid (Keeps.alloc (Keeps.refl (fun _ => False) wr) (.cells #[.int .i64 4, .int .i64 0, .slice none 0 0, .slice (some ⟨la, 0, none⟩) 1 1, .slice (some ⟨ha, 0, none⟩) 1 1, .int .u64 0, .int .i64 0, .int .i64 0, .int .i64 0] 47))
      have hwz := HK1.out.size
      have K1A := Lib.hid (HK1.out.trans KA.out (fun _ _ f => f))
      have HA := Lib.hid (step20query t la ha v ns (wr.alloc (.cells #[.int .i64 4, .int .i64 0, .slice none 0 0, .slice (some ⟨la, 0, none⟩) 1 1, .slice (some ⟨ha, 0, none⟩) 1 1, .int .u64 0, .int .i64 0, .int .i64 0, .int .i64 0] 47)) (HT1.out.keeps KA.out (fun f => f) (fun _ _ f => f) (fun _ _ f => f)) (by omega) (by omega) HKR.out (K1A.out.cell HCL.out (fun f => f)) (K1A.out.cell HCH.out (fun f => f)))
      have HOG := Lib.hid (HO1.out.lt og rfl)
      have HOA := Lib.hid (HO1.out.alloc (.cells #[.int .i64 4, .int .i64 0, .slice none 0 0, .slice (some ⟨la, 0, none⟩) 1 1, .slice (some ⟨ha, 0, none⟩) 1 1, .int .u64 0, .int .i64 0, .int .i64 0, .int .i64 0] 47))
      have hza : (wr.alloc (.cells #[.int .i64 4, .int .i64 0, .slice none 0 0, .slice (some ⟨la, 0, none⟩) 1 1, .slice (some ⟨ha, 0, none⟩) 1 1, .int .u64 0, .int .i64 0, .int .i64 0, .int .i64 0] 47)).heap.size = wr.heap.size + 1 := by simp
      have HNL := Lib.hid hnl; clear hnl hs1
      go_wp2_with fail
      generalize wr.alloc (.cells #[.int .i64 4, .int .i64 0, .slice none 0 0, .slice (some ⟨la, 0, none⟩) 1 1, .slice (some ⟨ha, 0, none⟩) 1 1, .int .u64 0, .int .i64 0, .int .i64 0, .int .i64 0] 47) = wa at KA K1A HA HOA hza ⊢
      refine HA.out.mono ?_
      rintro e w2 ⟨g1, c1, g2, c2, rfl, hO2, hK2⟩
      have HO2 := Lib.hid (HK1.out.size)
      have hg1 := (hO2.lt g1 rfl).1
      have HW2 := Lib.hid hO2; clear hO2
      have HOW := Lib.hid (hK2.row HOA.out (ownNot fun f => f))
      have HK2 := Lib.hid (K1A.out.trans hK2 (fun _ _ f => f)); clear hK2
      have hz2 := HK2.out.size
      have hel : ((nodeDots ns).map some).length = n := by rw [List.length_map, nodeDots, List.length_map]; exact HNL.out
      have HEL := Lib.hid hel; clear hel
      have hng : some g1 ≠ (Value.slice (some ⟨og, 0, none⟩) 1 oc).ownBlock := fun e => by
        have h7 : g1 = og := Option.some.inj e
        have := HOG.out.2
        omega
      have HNG := Lib.hid hng; clear hng
      clear a0 a1 a2 a3 a4 a5 a6 a7 a8 HA
      go_wp2_with (at_builtin; refine wpList_append_lies _ rfl (.tmp 17) (.tmp 21) 44 rfl w.heap.size 61 i0 _ 4 80 Tryz.underlying44 hi0 hiz his hib rfl (by omega) (.slice (some ⟨og, 0, none⟩) 1 oc) 1 cs rfl (HOW.out.alloc _) ⟨w2.heap.size, 0, none⟩ 1 1 [.slice (some ⟨g1, 0, none⟩) (nodeDots ns).length c1, .slice (some ⟨g2, 0, none⟩) (nodeDots ns).length c2, .slice none 0 0, .int .u64 0] rfl (by rfl) (news4 (heap_alloc_new w2 _)) (four_of rfl rfl rfl rfl) (by omega) (by simp only [maxLen]; omega) (by omega) (by simp; omega) _ rfl ?_; intro ag acap w6 hO hg hat hlt; clear hat; have HO6 := Lib.hid hO; have HV6 := Lib.hid ((HW2.out.alloc _).kept hg (.inr HNG.out)); have HG6 := Lib.hid hg; clear hO hg)
      go_roundg (0)
      case measure => omega
      case rel =>
        have hdl : (nodeDots ns).length = ds.length := by rw [nodeDots, List.length_map, HNL.out, HN.out]
        have hcl := HO1.out.1
        have hV := HV6.out
        rw [tell_some, List.length_map, hdl] at hV
        refine .inr (.inr ⟨rfl, ag, acap, g1, c1, nodeDots ns, rfl, ?_, ownsBase hV, HP.out, HSR.out, (HO6.out.lt ag rfl).1, by omega, ?_⟩)
        · rw [HO6.out.cellAt 4 (by omega), List.getElem?_append_right (by omega), hcl, ← hdl]; rfl
        · exact (HK2.out.alloc _).grown HG6.out (fun b hb hlt => by have : og = b := Option.some.inj hb; have := HOG.out.1; omega)
    · obtain ⟨ag, acap, g', gc, ys, he, hr⟩ := hout
      injection he with he
      subst e13 he
      have HR := Lib.hid hr; clear hr hrel
      go_wp2_with fail
      go_ret
      exact ⟨ag, acap, g', gc, ys, rfl, HR.out⟩
end Go.Proofs.YtegejfhomocloaaGreat
