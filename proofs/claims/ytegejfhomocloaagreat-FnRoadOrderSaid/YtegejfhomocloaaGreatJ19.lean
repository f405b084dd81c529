/- A part of the proof of FnRoadOrder: the law walked. No conditions but those of the theorems. -/
import Derived.Test.YtegejfhomocloaaGreatJ18
import Derived.Deep.DeepCutAuto
import Derived.BigQuiet
import Derived.Deep.QuietTactic
set_option linter.all false
namespace Go.Proofs.YtegejfhomocloaaGreat
open Go.RowKit

theorem info31 : (Tryz.prog.info? 31).map (fun i => (i.zero, i.size, i.bytes)) = some (some (.agg #[.int .i64 0, .int .i64 0, .int .i64 0, .int .u64 0, .int .i64 0, .bool false]), 6, 48) := by kernel_rfl
theorem six_of {x y z u v t : Value} (h1 : x.oneCell' = true) (h2 : y.oneCell' = true) (h3 : z.oneCell' = true) (h4 : u.oneCell' = true) (h5 : v.oneCell' = true) (h6 : t.oneCell' = true) : ∀ a ∈ [x, y, z, u, v, t], a.oneCell' = true := fun a ha => by
  simp only [List.mem_cons, List.not_mem_nil, or_false] at ha
  rcases ha with rfl | rfl | rfl | rfl | rfl | rfl <;> assumption

def bitsOf (ks : List Nat) : List (Int × Nat) := (2, 0) :: ks.map fun k => ((3 : Int), k)
/-- Behind some rounds of the first loop. -/
def RoadRel (B : Nat) (ks : List Nat) (w1 : World) (j : Nat) (s4 s5 s6 s7 s8 : Value) (wr : World) : Prop :=
  ∃ ds is, ds.map dotPair = (wordsOf ks).take j ∧ is.map ivPair = (wordsOf ks).take j ∧
    RR B wr j j j j (j + 1) ((wordsOf ks).take j) ds is ((ks.take j).map fun k : Nat => (k : Int)) (bitsOf (ks.take j)) s4 s5 s6 s7 s8 ∧ Keeps (fun _ => False) w1 wr

theorem bitsOf_snoc (ks : List Nat) (k : Nat) : bitsOf (ks ++ [k]) = bitsOf ks ++ [((3 : Int), k)] := by simp [bitsOf]

set_option maxRecDepth 100000 in
set_option maxHeartbeats 8000000 in
theorem road3 (n cap : Nat) (vp : Option Addr) (raw : Nat → Nat) (w : World) (hbig : n ≤ 2147483647) (hraw : ∀ i, i < n → raw i ≤ 65535 ∧ ∃ b o, vp = some ⟨b, o, none⟩ ∧ w.cell? ⟨b, o + i, none⟩ = some (.int .u16 (raw i : Int))) :
    Calls Tryz.prog 3 #[.slice vp n cap] w (Gives (.bool true) w) := by
  have HT := Lib.hid (turned4 n cap vp raw w hbig hraw)
  clear hraw
  obtain ⟨i34, a34, b34, c34, d34⟩ := info_parts info34
  obtain ⟨i36, a36, b36, c36, d36⟩ := info_parts info36
  obtain ⟨i38, a38, b38, c38, d38⟩ := info_parts info38
  obtain ⟨i2, a2, b2, c2, d2⟩ := info_parts info2
  obtain ⟨i31, a31, b31, c31, d31⟩ := info_parts info31
  go_enter Tryz.func3, Tryz.ntmps3
  go_wp2_with fail
  refine HT.out.mono ?_
  rintro e w1 ⟨v, ks, rfl, hOK, hK⟩
  have K1 := Lib.hid hK; clear hK HT
  obtain ⟨hk1, hk2, hk3, hkO⟩ := hOK
  obtain ⟨m, hm⟩ : ∃ m, m = ks.length := ⟨_, rfl⟩
  have HM := Lib.hid hm
  rw [← hm] at hk3 hkO
  clear hm
  have HK1 := Lib.hid hk1; clear hk1
  have HK2 := Lib.hid hk2; clear hk2
  obtain ⟨kp, kc, rfl⟩ := ownsSlice hkO
  by_cases h0 : m = 0
  · subst h0
    clear hkO
    go_wp2_with fail
    go_ret
    exact ⟨rfl, K1.out⟩
  · have h0' : 0 < m := by omega
    have h0b : ((m : Int) == 0) = false := by simp; omega
    obtain ⟨kg, kc', he, hkb, hkl⟩ := hkO.form h0'
    injection he with he1 _ he3
    subst he1 he3
    have HO := Lib.hid hkO; clear hkO h0
    go_wp2_with fail
    have hBz : w1.heap.size = w1.heap.size := rfl
    generalize hB : w1.heap.size = B at hBz ⊢
    have HBB := Lib.hid hB; clear hB hBz
    have K2 := Lib.hid ((Keeps.refl (fun _ => False) w1).alloc (.cells #[.int .i64 2, .int .i64 0, .int .i64 0, .int .u64 0, .int .i64 0, .bool false] 31))
    have R2 : Hid (RR B (w1.alloc (.cells #[.int .i64 2, .int .i64 0, .int .i64 0, .int .u64 0, .int .i64 0, .bool false] 31)) 0 0 0 0 1 [] [] [] [] (bitsOf []) (.slice none 0 0) (.slice none 0 0) (.slice none 0 0) (.slice none 0 0) (.slice (some ⟨B, 0, none⟩) 1 1)) := by
      refine ⟨World.ownsRow_nil _ _ _ _, World.ownsRow_nil _ _ _ _, World.ownsRow_nil _ _ _ _, World.ownsRow_nil _ _ _ _, ?_, fun d hd => (by cases hd), fun i hi => (by cases hi)⟩
      exact ⟨rfl, .inr ⟨B, 1, _, rfl, Nat.le_refl _, alloc_at w1 _ B HBB.out.symm, by omega, by simp [maxLen], rfl, rfl⟩⟩
    generalize w1.alloc (.cells #[.int .i64 2, .int .i64 0, .int .i64 0, .int .u64 0, .int .i64 0, .bool false] 31) = w2 at K2 R2 ⊢
    go_loopg [4, 5, 6, 7, 8, 9] m (fun kx s4 s5 s6 s7 s8 s9 wr => ∃ j : Nat, s9 = .int .i64 j ∧ j ≤ m ∧ m - j ≤ kx ∧ Hid (RoadRel B ks w1 j s4 s5 s6 s7 s8 wr))
    case atStart => exact ⟨0, rfl, Nat.zero_le _, by omega, [], [], rfl, rfl, by rw [List.take_zero, List.take_zero]; exact R2.out, K2.out⟩
    case round =>
      obtain ⟨j, rfl, hj, hgk, hrel⟩ := hrel
      obtain ⟨ds, is, hds, his, hRR, hKK⟩ := hrel.out
      clear hrel R2 K2
      have R := Lib.hid hRR; clear hRR
      have KR := Lib.hid hKK; clear hKK
      have HDS := Lib.hid hds; clear hds
      have HIS := Lib.hid his; clear his
      have hzr : B ≤ wr.heap.size := by have := KR.out.size; have := HBB.out; omega
      by_cases hlt : j < m
      · have hd1 : decide ((j : Int) < (m : Int)) = true := by simp; omega
        obtain ⟨k, hkj⟩ : ∃ k, ks[j]? = some k := ⟨_, List.getElem?_eq_getElem (by rw [← HM.out]; exact hlt)⟩
        have hk16 : k ≤ 65535 := HK2.out k (List.mem_of_getElem? hkj)
        have CJ : Hid (w1.cell? ⟨kg, j, none⟩ = some (.int .u64 (k : Int))) := by
          show w1.cell? ⟨kg, j, none⟩ = some (.int .u64 (k : Int))
          rw [HO.out.cellAt j (by omega), List.getElem?_map, List.getElem?_map, hkj]; rfl
        have cj : wr.cell? ⟨kg, j, none⟩ = some (.int .u64 (k : Int)) := KR.out.cell CJ.out (fun f => f)
        have HKJ := Lib.hid hkj; clear hkj
        go_wp2_with (first
          | (at_builtin; refine wpList_append_lies _ rfl (.tmp 42) (.tmp 46) 26 rfl B 34 i34 _ 2 16 Tryz.underlying26 a34 b34 c34 d34 rfl (by omega) u4 j _ rfl (R.out.r4.alloc _) ⟨wr.heap.size, 0, none⟩ 1 1 [.int .i64 (k : Int), .int .i64 (j : Int)] rfl (by rfl) (news2' (heap_alloc_new wr _)) (two_of' rfl rfl) (by omega) (by simp only [maxLen]; omega) (by omega) (by simp; omega) _ rfl ?_; intro g4 q4 w4 hO hg hat hlt4; clear hat; have R4 := Lib.hid ((R.out.keeps ((Keeps.refl _ wr).alloc _)).grow4 hg (ws' := (wordsOf ks).take (j + 1)) (by rw [wordsOf_take HKJ.out, wordCells_append]; exact hO)); have K4 := Lib.hid ((KR.out.alloc _).grown hg (fun b hb hlt' => absurd (R.out.r4.lt b hb).1 (by have := HBB.out; omega))); have hz4 : B ≤ w4.heap.size := (by have := K4.out.size; have := HBB.out; omega); clear hO hg)
          | (at_builtin; refine wpList_append_lies _ rfl (.tmp 48) (.tmp 53) 27 rfl B 36 i36 _ 2 32 Tryz.underlying27 a36 b36 c36 d36 rfl (by omega) u5 j _ rfl ((R4.out.r5.alloc _).alloc _) ⟨w4.heap.size + 1, 0, none⟩ 1 1 [.slice (some ⟨w4.heap.size, 0, none⟩) 1 1, .int .i64 (j : Int)] rfl (by rfl) (news2' (alloc_at _ _ _ (by simp))) (two_of' rfl rfl) (by omega) (by simp only [maxLen]; omega) (by omega) (by simp; omega) _ rfl ?_; intro g5 q5 w5 hO hg hat hlt5; clear hat; have R5 := Lib.hid ((R4.out.keeps (((Keeps.refl _ w4).alloc _).alloc _)).grow5 hg (d := ⟨w4.heap.size, k, j⟩) hO (alloc_heap _ _ (heap_alloc_new w4 _)) (R4.out.lt7 (Nat.le_refl _))); have K5 := Lib.hid (((K4.out.alloc _).alloc _).grown hg (fun b hb hlt' => absurd (R4.out.r5.lt b hb).1 (by have := HBB.out; omega))); have hz5 : B ≤ w5.heap.size := (by have := K5.out.size; have := HBB.out; omega); clear hO hg)
          | (at_builtin; refine wpList_append_lies _ rfl (.tmp 55) (.tmp 64) 28 rfl B 38 i38 _ 3 56 Tryz.underlying28 a38 b38 c38 d38 rfl (by omega) u6 j _ rfl (((R5.out.r6.alloc _).alloc _).alloc _) ⟨w5.heap.size + 1 + 1, 0, none⟩ 1 1 [.slice (some ⟨w5.heap.size, 0, none⟩) 1 1, .slice (some ⟨w5.heap.size + 1, 0, none⟩) 1 1, .int .u64 ((j : Int) + 1)] rfl (by rfl) (news3 (alloc_at _ _ _ (by simp))) (three_of rfl rfl rfl) (by omega) (by simp only [maxLen]; omega) (by omega) (by simp; omega) _ rfl ?_; intro g6 q6 w6 hO hg hat hlt6; clear hat; have R6 := Lib.hid ((R5.out.keeps ((((Keeps.refl _ w5).alloc _).alloc _).alloc _)).grow6 hg (i := ⟨w5.heap.size, w5.heap.size + 1, k, j + 1⟩) hO (alloc_heap _ _ (alloc_heap _ _ (heap_alloc_new w5 _))) (R5.out.lt7 (Nat.le_refl _)) (alloc_heap _ _ (alloc_at _ _ _ (by simp))) (R5.out.lt7 (Nat.le_succ _))); have K6 := Lib.hid ((((K5.out.alloc _).alloc _).alloc _).grown hg (fun b hb hlt' => absurd (R5.out.r6.lt b hb).1 (by have := HBB.out; omega))); have hz6 : B ≤ w6.heap.size := (by have := K6.out.size; have := HBB.out; omega); clear hO hg)
          | (at_builtin; refine wpList_append_lies _ rfl (.tmp 66) (.tmp 68) 29 rfl B 2 i2 _ 1 8 Tryz.underlying29 a2 b2 c2 d2 rfl (by omega) u7 j _ rfl (R6.out.r7.alloc _) ⟨w6.heap.size, 0, none⟩ 1 1 [.int .i64 (k : Int)] rfl (by rfl) (news1 (heap_alloc_new w6 _)) (one_of rfl) (by omega) (by simp only [maxLen]; omega) (by omega) (by simp; omega) _ rfl ?_; intro g7 q7 w7 hO hg hat hlt7; have R7 := Lib.hid ((R6.out.keeps ((Keeps.refl _ w6).alloc _)).grow7 hg (ls' := (ks.take (j + 1)).map fun k : Nat => (k : Int)) (by rw [keys_take HKJ.out, List.map_append, List.map_append]; exact hO) hat); have K7 := Lib.hid ((K6.out.alloc _).grown hg (fun b hb hlt' => absurd (R6.out.r7.lt b hb).1 (by have := HBB.out; omega))); have hz7 : B ≤ w7.heap.size := (by have := K7.out.size; have := HBB.out; omega); have cj7 : w7.cell? ⟨kg, j, none⟩ = some (.int .u64 (k : Int)) := K7.out.cell CJ.out (fun f => f); clear hO hg hat)
          | (at_builtin; refine wpList_append_lies _ rfl (.tmp 70) (.tmp 76) 32 rfl B 31 i31 _ 6 48 Tryz.underlying32 a31 b31 c31 d31 rfl (by omega) u8 (j + 1) _ rfl (R7.out.r8.alloc _) ⟨w7.heap.size, 0, none⟩ 1 1 [.int .i64 3, .int .i64 0, .int .i64 0, .int .u64 (k : Int), .int .i64 0, .bool false] rfl (by rfl) (World.news_of_block (heap_alloc_new w7 _)) (six_of rfl rfl rfl rfl rfl rfl) (by omega) (by simp only [maxLen]; omega) (by omega) (by simp; omega) _ rfl ?_; intro g8 q8 w8 hO hg hat hlt8; clear hat; have R8 := Lib.hid ((R7.out.keeps ((Keeps.refl _ w7).alloc _)).grow8 hg (bs' := bitsOf (ks.take (j + 1))) (by rw [keys_take HKJ.out, bitsOf_snoc, List.flatMap_append]; exact hO)); have K8 := Lib.hid ((K7.out.alloc _).grown hg (fun b hb hlt' => absurd (R7.out.r8.lt b hb).1 (by have := HBB.out; omega))); clear hO hg))
        go_roundg (m - (j + 1))
        case measure => omega
        case rel =>
          refine ⟨j + 1, by go_num, by omega, Nat.le_refl _, _, _, ?_, ?_, R8.out, K8.out⟩
          · rw [List.map_append, HDS.out, wordsOf_take HKJ.out]; rfl
          · rw [List.map_append, HIS.out, wordsOf_take HKJ.out]
            have : ivPair ⟨w5.heap.size, w5.heap.size + 1, k, j + 1⟩ = ((k : Int), (j : Int)) := by
              unfold ivPair
              rw [Prod.mk.injEq]
              exact ⟨rfl, by simp⟩
            simp only [List.map_cons, List.map_nil, this]
      · obtain rfl : j = m := by omega
        have hwl : (wordsOf ks).length ≤ j := by rw [wordsOf_length, ← HM.out]; exact Nat.le_refl _
        have hkl : ks.length ≤ j := by rw [← HM.out]; exact Nat.le_refl _
        have RF := R.out
        rw [List.take_of_length_le hwl, List.take_of_length_le hkl] at RF
        have hds := HDS.out
        have his := HIS.out
        rw [List.take_of_length_le hwl] at hds his
        have HDS' := Lib.hid hds
        have HIS' := Lib.hid his
        obtain ⟨wg, wc, rfl, -, -⟩ := RF.r4.form h0'
        obtain ⟨dg, dc, rfl, -, -⟩ := RF.r5.form h0'
        obtain ⟨ig, ic, rfl, -, -⟩ := RF.r6.form h0'
        obtain ⟨lg, lc, rfl, -, -⟩ := RF.r7.form h0'
        obtain ⟨bg, bc, rfl, -, -⟩ := RF.r8.form (by omega)
        have RF := Lib.hid RF
        clear R HDS HIS hwl hkl hds his
        go_wp2_with fail
        have K0 := Lib.hid ((((KR.out.alloc (.cells #[.int .i64 (-1)] 2)).alloc (.cells #[.int .i64 65536] 2)).alloc (.cells #[.int .i64 (-1), .int .i64 0] 34)).alloc (.cells #[.int .i64 1, .slice (some ⟨wg, 0, none⟩) j wc, .int .i64 0, .int .i64 3, .slice (some ⟨wr.heap.size + 1 + 1, 0, none⟩) 1 1, .int .i64 100] 42))
        have RA := Lib.hid (RF.out.keeps (((((Keeps.refl (fun _ => False) wr).alloc (.cells #[.int .i64 (-1)] 2)).alloc (.cells #[.int .i64 65536] 2)).alloc (.cells #[.int .i64 (-1), .int .i64 0] 34)).alloc (.cells #[.int .i64 1, .slice (some ⟨wg, 0, none⟩) j wc, .int .i64 0, .int .i64 3, .slice (some ⟨wr.heap.size + 1 + 1, 0, none⟩) 1 1, .int .i64 100] 42)))
        have LO := Lib.hid (alloc_heap _ (.cells #[.int .i64 1, .slice (some ⟨wg, 0, none⟩) j wc, .int .i64 0, .int .i64 3, .slice (some ⟨wr.heap.size + 1 + 1, 0, none⟩) 1 1, .int .i64 100] 42) (alloc_heap _ (.cells #[.int .i64 (-1), .int .i64 0] 34) (alloc_heap _ (.cells #[.int .i64 65536] 2) (heap_alloc_new wr (.cells #[.int .i64 (-1)] 2)))))
        have HI0 := Lib.hid (alloc_heap _ (.cells #[.int .i64 1, .slice (some ⟨wg, 0, none⟩) j wc, .int .i64 0, .int .i64 3, .slice (some ⟨wr.heap.size + 1 + 1, 0, none⟩) 1 1, .int .i64 100] 42) (alloc_heap _ (.cells #[.int .i64 (-1), .int .i64 0] 34) (alloc_at (wr.alloc (.cells #[.int .i64 (-1)] 2)) (.cells #[.int .i64 65536] 2) (wr.heap.size + 1) (by simp))))
        have HQ := Lib.hid (alloc_heap _ (.cells #[.int .i64 1, .slice (some ⟨wg, 0, none⟩) j wc, .int .i64 0, .int .i64 3, .slice (some ⟨wr.heap.size + 1 + 1, 0, none⟩) 1 1, .int .i64 100] 42) (alloc_at ((wr.alloc (.cells #[.int .i64 (-1)] 2)).alloc (.cells #[.int .i64 65536] 2)) (.cells #[.int .i64 (-1), .int .i64 0] 34) (wr.heap.size + 1 + 1) (by simp)))
        have HS := Lib.hid (alloc_at (((wr.alloc (.cells #[.int .i64 (-1)] 2)).alloc (.cells #[.int .i64 65536] 2)).alloc (.cells #[.int .i64 (-1), .int .i64 0] 34)) (.cells #[.int .i64 1, .slice (some ⟨wg, 0, none⟩) j wc, .int .i64 0, .int .i64 3, .slice (some ⟨wr.heap.size + 1 + 1, 0, none⟩) 1 1, .int .i64 100] 42) (wr.heap.size + 1 + 1 + 1) (by simp))
        clear RF KR
        generalize (((wr.alloc (.cells #[.int .i64 (-1)] 2)).alloc (.cells #[.int .i64 65536] 2)).alloc (.cells #[.int .i64 (-1), .int .i64 0] 34)).alloc (.cells #[.int .i64 1, .slice (some ⟨wg, 0, none⟩) j wc, .int .i64 0, .int .i64 3, .slice (some ⟨wr.heap.size + 1 + 1, 0, none⟩) 1 1, .int .i64 100] 42) = wa at K0 RA LO HI0 HQ HS ⊢
        clear hzr
        generalize wr.heap.size = z at LO HI0 HQ HS ⊢
        have WL : Hid ((wordsOf ks).length = j) := by show (wordsOf ks).length = j; rw [wordsOf_length]; exact HM.out.symm
        have KN : Hid ((ks.map fun k : Nat => (k : Int)).Nodup) := keys_nodup HK1.out
        refine (ptRun5 (z + 1 + 1 + 1) 2 wg j wc (z + 1 + 1) (wordsOf ks) wa WL.out h0' hk3 (by rw [wordsOf_fst]; exact KN.out) (fun x hx => by obtain ⟨k, _, e⟩ := wordsOf_mem hx; omega) HS.out (ownsBase RA.out.r4) HQ.out).mono ?_
        rintro e w3 ⟨pa, pac, pg, pgc, pw, rfl, hpc, hpO, hpp, hps, hn1, hn2, hk⟩
        rw [WL.out] at hpc hpO
        have NP : Hid (pa ≠ bg ∧ pg ≠ bg) := by have := (RA.out.r8.lt bg rfl).2; exact ⟨by omega, by omega⟩
        clear hn1 hn2
        have PC := Lib.hid hpc; clear hpc
        have PO := Lib.hid hpO; clear hpO
        have PP := Lib.hid hpp; clear hpp
        have PS := Lib.hid hps; clear hps
        have RB := Lib.hid (RA.out.keeps hk)
        have LB := Lib.hid (hk.heap LO.out (fun f => f))
        have HB := Lib.hid (hk.heap HI0.out (fun f => f))
        have K3 := Lib.hid (K0.out.trans hk (fun _ _ f => f))
        clear RA LO HI0 HQ HS K0 hk
        go_wp2_with fail
        have KA := Lib.hid ((Keeps.refl (fun _ => False) w3).alloc (.cells #[.int .i64 1, .int .i64 0, .slice (some ⟨dg, 0, none⟩) j dc, .slice none 0 0, .slice none 0 0, .int .u64 0, .int .i64 0, .int .i64 0, .int .i64 0, .int .i64 4, .int .i64 0, .slice none 0 0, .slice (some ⟨z, 0, none⟩) 1 1, .slice (some ⟨z + 1, 0, none⟩) 1 1, .int .u64 0, .int .i64 0, .int .i64 0, .int .i64 0] 47))
        have HS := Lib.hid (heap_alloc_new w3 (.cells #[.int .i64 1, .int .i64 0, .slice (some ⟨dg, 0, none⟩) j dc, .slice none 0 0, .slice none 0 0, .int .u64 0, .int .i64 0, .int .i64 0, .int .i64 0, .int .i64 4, .int .i64 0, .slice none 0 0, .slice (some ⟨z, 0, none⟩) 1 1, .slice (some ⟨z + 1, 0, none⟩) 1 1, .int .u64 0, .int .i64 0, .int .i64 0, .int .i64 0] 47))
        generalize w3.alloc (.cells #[.int .i64 1, .int .i64 0, .slice (some ⟨dg, 0, none⟩) j dc, .slice none 0 0, .slice none 0 0, .int .u64 0, .int .i64 0, .int .i64 0, .int .i64 0, .int .i64 4, .int .i64 0, .slice none 0 0, .slice (some ⟨z, 0, none⟩) 1 1, .slice (some ⟨z + 1, 0, none⟩) 1 1, .int .u64 0, .int .i64 0, .int .i64 0, .int .i64 0] 47) = wb at KA HS ⊢
        have DL : Hid (ds.length = j) := by have h9 := congrArg List.length HDS'.out; rw [List.length_map] at h9; exact h9.trans WL.out
        have RB' := Lib.hid (RB.out.keeps KA.out)
        refine (rtRun6 w3.heap.size 2 dg j dc z (z + 1) ds wb DL.out h0' hk3 (by rw [dots_keys HDS'.out]; exact KN.out) (dots_range HDS'.out HK2.out) HS.out (ownsBase RB'.out.r5) RB'.out.dots (cell_at (KA.out.heap LB.out (fun f => f)) 0) (cell_at (KA.out.heap HB.out (fun f => f)) 0)).mono ?_
        rintro e w4 ⟨ra, rac, rg, rgc, pd, rfl, hpc, hpO, hpp, hps, hn1, hn2, hk⟩
        rw [DL.out] at hpc hpO
        have NR : Hid (ra ≠ bg ∧ rg ≠ bg) := by have := (RB'.out.r8.lt bg rfl).2; exact ⟨by omega, by omega⟩
        clear hn1 hn2
        have RC := Lib.hid hpc; clear hpc
        have RO := Lib.hid hpO; clear hpO
        have RP := Lib.hid hpp; clear hpp
        have RS := Lib.hid hps; clear hps
        have k4 := KA.out.trans hk (fun _ _ f => f)
        have R4 := Lib.hid (RB.out.keeps k4)
        have L4 := Lib.hid (k4.heap LB.out (fun f => f))
        have H4 := Lib.hid (k4.heap HB.out (fun f => f))
        have PC4 := Lib.hid (k4.cell PC.out (fun f => f))
        have PO4 := Lib.hid (k4.row PO.out (fun _ _ f => f))
        have K4 := Lib.hid (K3.out.trans k4 (fun _ _ f => f))
        clear RB RB' LB HB K3 hk k4 KA HS PC PO
        go_wp2_with fail
        have KA := Lib.hid (((Keeps.refl (fun _ => False) w4).alloc (.cells #[.slice (some ⟨z, 0, none⟩) 1 1, .slice (some ⟨z + 1, 0, none⟩) 1 1, .int .u64 0] 38)).alloc (.cells #[.int .i64 1, .slice (some ⟨ig, 0, none⟩) j ic, .int .i64 3, .slice (some ⟨w4.heap.size, 0, none⟩) 1 1] 52))
        have HQ := Lib.hid (alloc_heap _ (.cells #[.int .i64 1, .slice (some ⟨ig, 0, none⟩) j ic, .int .i64 3, .slice (some ⟨w4.heap.size, 0, none⟩) 1 1] 52) (heap_alloc_new w4 (.cells #[.slice (some ⟨z, 0, none⟩) 1 1, .slice (some ⟨z + 1, 0, none⟩) 1 1, .int .u64 0] 38)))
        have HS := Lib.hid (alloc_at (w4.alloc (.cells #[.slice (some ⟨z, 0, none⟩) 1 1, .slice (some ⟨z + 1, 0, none⟩) 1 1, .int .u64 0] 38)) (.cells #[.int .i64 1, .slice (some ⟨ig, 0, none⟩) j ic, .int .i64 3, .slice (some ⟨w4.heap.size, 0, none⟩) 1 1] 52) (w4.heap.size + 1) (by simp))
        generalize (w4.alloc (.cells #[.slice (some ⟨z, 0, none⟩) 1 1, .slice (some ⟨z + 1, 0, none⟩) 1 1, .int .u64 0] 38)).alloc (.cells #[.int .i64 1, .slice (some ⟨ig, 0, none⟩) j ic, .int .i64 3, .slice (some ⟨w4.heap.size, 0, none⟩) 1 1] 52) = wb at KA HQ HS ⊢
        have IL : Hid (is.length = j) := by have h9 := congrArg List.length HIS'.out; rw [List.length_map] at h9; exact h9.trans WL.out
        have RB' := Lib.hid (R4.out.keeps KA.out)
        refine (atRun7 (w4.heap.size + 1) 2 ig j ic w4.heap.size 1 z (z + 1) is wb IL.out h0' hk3 (by rw [ivs_keys HIS'.out]; exact KN.out) (ivs_ids HIS'.out) (RB'.out.ivok (ivs_range HIS'.out HK2.out)) HS.out (ownsBase RB'.out.r6) (cell_at HQ.out 0) (cell_at HQ.out 1) (cell_at HQ.out 2) (cell_at (KA.out.heap L4.out (fun f => f)) 0) (cell_at (KA.out.heap H4.out (fun f => f)) 0)).mono ?_
        rintro e w5 ⟨ta, tac, tg, tgc, pi, rfl, hpc, hpO, hpp, hps, hn1, hn2, hk⟩
        rw [IL.out] at hpc hpO
        have NT : Hid (ta ≠ bg ∧ tg ≠ bg) := by have := (RB'.out.r8.lt bg rfl).2; exact ⟨by omega, by omega⟩
        clear hn1 hn2
        have TC := Lib.hid hpc; clear hpc
        have TO := Lib.hid hpO; clear hpO
        have TP := Lib.hid hpp; clear hpp
        have TS := Lib.hid hps; clear hps
        have k5 := KA.out.trans hk (fun _ _ f => f)
        have R5 := Lib.hid (R4.out.keeps k5)
        have PC5 := Lib.hid (k5.cell PC4.out (fun f => f))
        have PO5 := Lib.hid (k5.row PO4.out (fun _ _ f => f))
        have RC5 := Lib.hid (k5.cell RC.out (fun f => f))
        have RO5 := Lib.hid (k5.row RO.out (fun _ _ f => f))
        have K5 := Lib.hid (K4.out.trans k5 (fun _ _ f => f))
        have hz5 : B ≤ w5.heap.size := by have := K5.out.size; have := HBB.out; omega
        clear R4 RB' L4 H4 K4 hk k5 KA HQ HS PC4 PO4 RC RO
        go_wp2_with (first
          | (at_builtin; refine wpList_append_lies _ rfl (.tmp 103) (.tmp 105) 32 rfl B 31 i31 _ 6 48 Tryz.underlying32 a31 b31 c31 d31 rfl (by omega) (.slice (some ⟨bg, 0, none⟩) (j + 1) bc) (j + 1) _ rfl (R5.out.r8.alloc _) ⟨w5.heap.size, 0, none⟩ 1 1 [.int .i64 14, .int .i64 0, .int .i64 0, .int .u64 0, .int .i64 0, .bool false] rfl (by rfl) (World.news_of_block (heap_alloc_new w5 _)) (six_of rfl rfl rfl rfl rfl rfl) (by omega) (by simp only [maxLen]; omega) (by omega) (by simp; omega) _ rfl ?_; intro g8 q8 w6 hO hg hat hlt8; clear hat; have R6 := Lib.hid ((R5.out.keeps ((Keeps.refl _ w5).alloc _)).grow8 hg (bs' := bitSteps ks) (by rw [show bitSteps ks = bitsOf ks ++ [((14 : Int), 0)] from rfl, List.flatMap_append]; exact hO)); have k6 : Hid (Keeps (fun x => (Value.slice (some ⟨bg, 0, none⟩) (j + 1) bc).ownBlock = some x) w5 w6) := ((Keeps.refl _ w5).alloc _).grown hg (fun b hb hlt' => hb); have K6 := Lib.hid ((K5.out.alloc _).grown hg (fun b hb hlt' => absurd (R5.out.r8.lt b hb).1 (by have := HBB.out; omega))); clear hO hg))
        have hb : ∀ {a : Nat}, a ≠ bg → ¬ (Value.slice (some ⟨bg, 0, none⟩) (j + 1) bc).ownBlock = some a := fun h e => h (Option.some.inj e).symm
        have PC6 := Lib.hid (k6.out.cell PC5.out (hb NP.out.1))
        have PO6 := Lib.hid (k6.out.row PO5.out (fun b hb' => by obtain rfl := Option.some.inj hb'; exact hb NP.out.2))
        have RC6 := Lib.hid (k6.out.cell RC5.out (hb NR.out.1))
        have RO6 := Lib.hid (k6.out.row RO5.out (fun b hb' => by obtain rfl := Option.some.inj hb'; exact hb NR.out.2))
        have TC6 := Lib.hid (k6.out.cell TC.out (hb NT.out.1))
        have TO6 := Lib.hid (k6.out.row TO.out (fun b hb' => by obtain rfl := Option.some.inj hb'; exact hb NT.out.2))
        clear hb R5 K5 k6 PC5 PO5 RC5 RO5 TC TO NP NR NT
        as_aux_lemma =>
          refine (answers8 g8 q8 j ks w6 HM.out.symm h0' hk3 HK1.out HK2.out (ownsBase R6.out.r8)).mono ?_
          rintro e w7 ⟨ba, bac, xg, xgc, xs, rfl, hcalm, hpc, hpO, hpp, hps, -, -, hk⟩
          rw [← HM.out] at hpc hpO
          have BC := Lib.hid hpc; clear hpc
          have BO := Lib.hid hpO; clear hpO
          have BP := Lib.hid hpp; clear hpp
          have BS := Lib.hid hps; clear hps
          have R7 := Lib.hid (R6.out.keeps hk)
          have k7 := Lib.hid hk; clear hk hcalm R6
          have K7 := Lib.hid (K6.out.trans k7.out (fun _ _ f => f)); clear K6
          have KL : Hid ((ks.map fun k : Nat => (k : Int)).length = j) := by show (ks.map fun k : Nat => (k : Int)).length = j; rw [List.length_map]; exact HM.out.symm
          rw [← HM.out]
          go_wp2_with fail
          refine (isSort9 lg j lc (ks.map fun k : Nat => (k : Int)) w7 KL.out h0' (by omega) (ownsBase R7.out.r7)).mono ?_
          rintro e w8 ⟨sg, sgc, ts, rfl, hsp, hss, -, hsO, hk⟩
          rw [KL.out] at hsO ⊢
          have SO := Lib.hid hsO; clear hsO
          have SP := Lib.hid hsp; clear hsp
          have SS := Lib.hid hss; clear hss
          have k8 := Lib.hid (k7.out.trans hk (fun _ _ f => f))
          have BC8 := Lib.hid (hk.cell BC.out (fun f => f))
          have BO8 := Lib.hid (hk.row BO.out (fun _ _ f => f))
          have R8 := Lib.hid (R7.out.keeps hk)
          have K8 := Lib.hid (K7.out.trans hk (fun _ _ f => f))
          clear BC BO R7 K7 hk k7
          have SA : Hid (Same ks.length pw pd pi xs ts) := all_same HDS'.out HIS'.out PP.out PS.out RP.out RS.out TP.out TS.out BP.out BS.out SP.out SS.out
          have pc8 : w8.cell? ⟨pa, 3, none⟩ = some (.slice (some ⟨pg, 0, none⟩) j pgc) := k8.out.cell PC6.out (fun f => f)
          have rc8 : w8.cell? ⟨ra, 4, none⟩ = some (.slice (some ⟨rg, 0, none⟩) j rgc) := k8.out.cell RC6.out (fun f => f)
          have tc8 : w8.cell? ⟨ta, 2, none⟩ = some (.slice (some ⟨tg, 0, none⟩) j tgc) := k8.out.cell TC6.out (fun f => f)
          have bc8 : w8.cell? ⟨ba, (j + 1) * 4 + 2, none⟩ = some (.slice (some ⟨xg, 0, none⟩) j xgc) := BC8.out
          have PO8 := Lib.hid (k8.out.row PO6.out (fun _ _ f => f))
          have RO8 := Lib.hid (k8.out.row RO6.out (fun _ _ f => f))
          have TO8 := Lib.hid (k8.out.row TO6.out (fun _ _ f => f))
          clear PC6 PO6 RC6 RO6 TC6 TO6 BC8 k8
          go_wp2_with fail
          go_loopg [19] j (fun kx s19 wx => ∃ i : Nat, s19 = .int .i64 i ∧ i ≤ j ∧ j - i ≤ kx ∧ ∃ nn, wx = w8.drewN nn)
          case atStart => exact ⟨0, rfl, Nat.zero_le _, by omega, 0, rfl⟩
          case round =>
            obtain ⟨i, rfl, hi, hgi, nn, rfl⟩ := hrel
            by_cases hlt2 : i < j
            · have hd3 : decide ((i : Int) < (j : Int)) = true := by simp; omega
              obtain ⟨k, v, d, x, hk16, hvl, a1, ⟨a2, a3, a4⟩, ⟨a5, a6, a7⟩, a8, a9⟩ := SA.out.at' PP.out HK2.out (i := i) (by rw [← HM.out]; exact hlt2)
              have hv40 : v < 40 := by rw [← HM.out] at hvl; omega
              have q1 : w8.cell? ⟨pg, i * 2, none⟩ = some (.int .i64 (k : Int)) := by
                have := (two_cells (fun x : Int × Int => Value.int .i64 x.1) (fun x => Value.int .i64 x.2) pw i (List.getElem?_eq_some_iff.1 a1).1).1
                rw [PO8.out.cellAt _ (by omega), Nat.mul_comm i 2]; rw [(List.getElem?_eq_some_iff.1 a1).2] at this; exact this
              have q2 : w8.cell? ⟨pg, i * 2 + 1, none⟩ = some (.int .i64 (v : Int)) := by
                have := (two_cells (fun x : Int × Int => Value.int .i64 x.1) (fun x => Value.int .i64 x.2) pw i (List.getElem?_eq_some_iff.1 a1).1).2
                rw [PO8.out.cellAt _ (by omega), Nat.mul_comm i 2]; rw [(List.getElem?_eq_some_iff.1 a1).2] at this; exact this
              obtain ⟨q3, q4⟩ := row_dot RO8.out a2 hlt2
              rw [a4] at q4
              obtain ⟨q5, -, q6⟩ := row_span TO8.out a5 hlt2
              rw [a7] at q6
              have q7 : w8.cell? ⟨d.a, 0, none⟩ = some (.int .i64 (k : Int)) := by rw [← a3]; exact cell_at (R8.out.dd d (RP.out.mem_iff.1 (List.mem_of_getElem? a2))).1 0
              have q8 : w8.cell? ⟨x.la, 0, none⟩ = some (.int .i64 (k : Int)) := by rw [← a6]; exact cell_at (R8.out.ii x (TP.out.mem_iff.1 (List.mem_of_getElem? a5))).1.1 0
              have q9 : w8.cell? ⟨xg, i, none⟩ = some (.int .u64 (k : Int)) := by rw [BO8.out.cellAt i (by omega), List.getElem?_map, a8]; rfl
              have q10 : w8.cell? ⟨sg, i, none⟩ = some (.int .i64 (k : Int)) := by rw [SO.out.cellAt i (by omega), List.getElem?_map, a9]; rfl
              have q6' : w8.cell? ⟨tg, i * 3 + 2, none⟩ = some (.int .u64 ((v : Int) + 1)) := q6
              clear a1 a2 a3 a4 a5 a6 a7 a8 a9 q6 hvl
              generalize d.a = da at q3 q7
              generalize x.la = xl at q5 q8
              go_wp2_with fail
              simp only [List.append]
              refine wp_region_quiet_lit (by as_aux_lemma => kernel_rfl) (by as_aux_lemma => kernel_rfl) ?_
              iterate 13 (first | go_big_quiet_step (fail) | quiet_step (fail))
              as_aux_lemma =>
                iterate 13 (first | go_big_quiet_step (fail) | quiet_step (fail))
                as_aux_lemma =>
                  iterate 13 (first | go_big_quiet_step (fail) | quiet_step (fail))
                  as_aux_lemma =>
                    iterate 13 (first | go_big_quiet_step (fail) | quiet_step (fail))
                    as_aux_lemma =>
                      iterate 13 (first | go_big_quiet_step (fail) | quiet_step (fail))
                      as_aux_lemma =>
                        iterate 13 (first | go_big_quiet_step (fail) | quiet_step (fail))
                        as_aux_lemma =>
                          iterate 13 (first | go_big_quiet_step (fail) | quiet_step (fail))
                          as_aux_lemma =>
                            repeat (first | go_big_quiet_step (fail) | quiet_step (fail))
                            refine wpQuiet_nil ?_
                            intro _ hw'
                            obtain ⟨nq, hw''⟩ := hw'
                            subst hw''
                            go_wp2_with fail
                            go_roundg (j - (i + 1))
                            case measure => omega
                            case rel => exact ⟨i + 1, by go_num, by omega, Nat.le_refl _, nn + nq, rfl⟩
            · have hd3 : decide ((i : Int) < (j : Int)) = false := by simp; omega
              clear pc8 rc8 tc8 bc8
              go_wp2_with fail
              go_ret
              exact ⟨rfl, (K1.out.trans K8.out (fun _ _ f => f)).drewN _⟩
end Go.Proofs.YtegejfhomocloaaGreat
