/- A part of the proof of FnRoadOrder: the plus tree: many insertions, iterators. No conditions but those of the theorems. -/
import Derived.Test.YtegejfhomocloaaGreatJ2
set_option linter.all false
namespace Go.Proofs.YtegejfhomocloaaGreat
open Go.RowKit

theorem splitChild (t ib sg ng : Nat) (root num : Value) (ls : List Leaf) (c : Nat) (l : Leaf) (w : World) (ht : w.heap[t]? = some (.cells #[root, .int .u64 12, num] 105 (0, 0)))
    (hN : NodeRep w ib sg ng ls) (hC : ChainRep w ls) (hl : ls[c]? = some l) (hn : l.ks.length = 12) (hd : (t :: ib :: sg :: ng :: blks ls).Nodup) (hlen : ls.length ≤ 10) (hsep : SepAt ls c (kOf l.ks 6)) :
    Calls Tryz.prog 44 #[.pointer (some ⟨t, 0, none⟩), .iface 204 (.pointer (some ⟨ib, 0, none⟩)), .iface 146 (.pointer (some ⟨l.b, 0, none⟩))] w (ChildSplit ib sg ng ls c l w) := by
  cases c with
  | zero => exact splitChild0 t ib sg ng root num ls 0 l w ht hN hC hl hn hd hlen hsep rfl
  | succ m =>
    have hc := (List.getElem?_eq_some_iff.1 hl).1
    exact splitChild1 t ib sg ng root num ls m l ls[m] w ht hN hC hl (List.getElem?_eq_getElem (by omega)) hn hd hlen hsep

set_option maxRecDepth 100000 in
set_option maxHeartbeats 800000 in
theorem nodeInsert (t ib sg ng : Nat) (root num : Value) (ls : List Leaf) (k v : Int) (w : World) (ht : w.heap[t]? = some (.cells #[root, .int .u64 12, num] 105 (0, 0)))
    (hN : NodeRep w ib sg ng ls) (hC : ChainRep w ls) (hd : (t :: ib :: sg :: ng :: blks ls).Nodup) (hlen : ls.length ≤ 9) (hlen2 : 2 ≤ ls.length)
    (hs : Srt (flat ls)) (hsz : ∀ l ∈ ls, 6 ≤ l.ks.length ∧ l.ks.length ≤ 11) (hk : ∀ x ∈ flat ls, x.1 ≠ k) :
    Calls Tryz.prog 168 #[.pointer (some ⟨ib, 0, none⟩), .pointer (some ⟨t, 0, none⟩), .iface 84 (.agg #[.int .i64 k, .int .i64 v])] w (NodeIns ib sg ng ls k v w) := by
  have hne : ∀ l ∈ ls, 0 < l.ks.length := fun l hl => by have := hsz l hl; omega
  obtain ⟨hI, hS, hNN⟩ := hN
  have c0 : w.cell? ⟨ib, 0, none⟩ = some (.slice (some ⟨sg, 0, none⟩) (ls.length - 1) 12) := cell_at hI 0
  have hSr := search60 ib sg (ls.length - 1) 12 (kOf (seps ls)) (vOf (seps ls)) k v w (by omega) ((hS.lt sg rfl).2) c0 (row_keys hS) (seps_mono hs hne)
  have HT := Lib.hid ht; clear ht
  have HI := Lib.hid hI; clear hI
  have HS := Lib.hid hS; clear hS
  have HNN := Lib.hid hNN; clear hNN
  have HC := Lib.hid hC; clear hC
  have HD := Lib.hid hd; clear hd
  have HSO := Lib.hid hs; clear hs
  have HSZ := Lib.hid hsz; clear hsz
  have HNE := Lib.hid hne; clear hne
  have HK := Lib.hid hk; clear hk
  clear c0
  go_enter Tryz.func168, Tryz.ntmps168
  go_wp2_with fail
  refine hSr.mono ?_
  rintro e w1 ⟨p, hp, s1, s2, rfl, hB1⟩
  clear hSr
  have HF := Lib.hid (⟨s1, s2⟩ : (∀ i, i < p → kOf (seps ls) i < k) ∧ (∀ i, p ≤ i → i < ls.length - 1 → k ≤ kOf (seps ls) i)); clear s1 s2
  have hpl : p < ls.length := by omega
  obtain ⟨l, hl⟩ : ∃ l, ls[p]? = some l := ⟨ls[p], List.getElem?_eq_getElem hpl⟩
  have hz1 := hB1.size
  have HK1 := Lib.hid (Keeps.of_new (F := fun _ => False) hB1); clear hB1
  have HI1 := Lib.hid (HK1.out.heap HI.out (fun f => f))
  have HS1 := Lib.hid (HK1.out.row HS.out (fun _ _ f => f))
  have HN1 := Lib.hid (HK1.out.row HNN.out (fun _ _ f => f))
  have HL := Lib.hid hl; clear hl
  have c10 : w1.cell? ⟨ib, 0, none⟩ = some (.slice (some ⟨sg, 0, none⟩) (ls.length - 1) 12) := cell_at HI1.out 0
  have c11 : w1.cell? ⟨ib, 1, none⟩ = some (.slice (some ⟨ng, 0, none⟩) ls.length 13) := cell_at HI1.out 1
  have c1n : w1.cell? ⟨ng, p, none⟩ = some (.iface 146 (.pointer (some ⟨l.b, 0, none⟩))) := by
    rw [HN1.out.cellAt p (by omega), List.getElem?_map, HL.out]; rfl
  rcases Nat.lt_or_ge p (ls.length - 1) with hpn | hpn
  · have hpe : ((p : Int) == ((ls.length - 1 : Nat) : Int)) = false := by simp; omega
    have c1s := row_keys HS1.out p (by omega)
    have hlt : k < kOf (seps ls) p := by
      have h1 := HF.out.2 p (Nat.le_refl _) hpn
      have h2 : p + 1 < ls.length := by omega
      rw [seps_kOf (List.getElem?_eq_getElem h2)] at h1 ⊢
      obtain ⟨y, hy, hyk⟩ := kOf_mem (HNE.out _ (List.getElem_mem h2))
      have h3 := HK.out y (List.mem_flatMap.2 ⟨_, List.getElem_mem h2, hy⟩)
      omega
    have hC := compare_any (kOf (seps ls) p) (vOf (seps ls) p) k v w1
    rw [cmpK_lt hlt] at hC
    go_wp2_with fail
    refine hC.mono ?_
    rintro e w2 ⟨rfl, hB2⟩
    clear hC c1s
    have HK2 := Lib.hid (HK1.out.new hB2)
    have c10 := (Keeps.of_new (F := fun _ => False) hB2).cell c10 (fun f => f)
    have c11 := (Keeps.of_new (F := fun _ => False) hB2).cell c11 (fun f => f)
    have c1n := (Keeps.of_new (F := fun _ => False) hB2).cell c1n (fun f => f)
    clear hB2
    go_wp2_with fail
    clear hlt hpe c10 c11 c1n
    have hLp := (HC.out p l HL.out).keeps HK2.out (fun f => f) (fun f => f)
    have hlsz := HSZ.out l (List.mem_of_getElem? HL.out)
    have hdd := HD.out
    simp only [List.nodup_cons, List.mem_cons, not_or] at hdd
    have hlm := blks_mem (List.mem_of_getElem? HL.out)
    have hLI := leafInsert l _ 0 k v (.pointer (some ⟨t, 0, none⟩)) w2 hLp hlsz.2 (blks_self hdd.2.2.2.2 (List.mem_of_getElem? HL.out)) (srt_kOf ((srt_flat HSO.out).1 l (List.mem_of_getElem? HL.out)))
      (fun i hi => by
        obtain ⟨y, hy, hyk⟩ := kOf_mem hi
        rw [← hyk]; exact HK.out y (List.mem_flatMap.2 ⟨l, List.mem_of_getElem? HL.out, hy⟩)) rfl
    clear hLp
    have htb : ¬ (t = l.b ∨ t = l.g) := fun e => e.elim (fun e => hdd.1.2.2.2 (e ▸ hlm.1)) (fun e => hdd.1.2.2.2 (e ▸ hlm.2))
    clear hdd hlm
    refine hLI.mono ?_
    rintro e w3 ⟨q, hq, q1, q2, rfl, hL3, hK3⟩
    clear hLI
    have hA := after_leaf (t := t) ⟨HI.out, HS.out, HNN.out⟩ HC.out HD.out HSO.out HSZ.out HK.out HL.out HF.out HK2.out hq q1 q2 hL3 hK3
    have HA := Lib.hid hA; clear hA
    have ht3 := hK3.heap (HK2.out.heap HT.out (fun f => f)) htb
    have c31 : w3.cell? ⟨t, 1, none⟩ = some (.int .u64 12) := cell_at ht3 1
    have HT3 := Lib.hid ht3; clear ht3
    have hil := ins_length l.ks q (k, v) hq
    have c3l : w3.cell? ⟨l.b, 1, none⟩ = some (.slice (some ⟨l.g, 0, none⟩) (ins l.ks q (k, v)).length 12) := cell_at hL3.1 1
    have hn12 : (ins l.ks q (k, v)).length ≤ 12 := by omega
    have HL3 := Lib.hid hL3; clear hL3 hK3 q1 q2
    have hin := Lib.hid hil; clear hil
    generalize hnn : (ins l.ks q (k, v)).length = n at c3l hn12
    have HNN2 := Lib.hid hnn; clear hnn
    have HNL := Lib.hid hlsz; clear hlsz
    go_wp2_with fail
    go_region_held3 (fun w' => w'.cell? ⟨t, 1, none⟩ = some (.int .u64 12)) (go_keep) (first | (go_at_call 161; refine (needs161 l.b l.g n _ hn12 (by go_keep)).mono ?_; rintro e w' ⟨rfl, rfl⟩))
    by_cases hfull : n = 12
    · have hdec : decide (12 ≤ n) = true := by simp; omega
      have hA2 := HA.out.drew
      have h12 : (ins l.ks q (k, v)).length = 12 := HNN2.out.trans hfull
      have hSC := splitChild t ib sg ng root num _ p _ w3.drew HT3.out hA2.node hA2.chain hA2.at_ h12 hA2.apart (by rw [List.length_set]; omega) (sepAt_of hA2.srt (hA2.pos HSZ.out (by omega)) hA2.at_ (by omega) (by simp only [h12]; omega))
      have HFIN := Lib.hid (fun (e : Ending) (w4 : World) h => nodeIns_cut (e := e) (w4 := w4) hA2 HSZ.out hlen2 h12 (blks_lt HC.out) h)
      clear hA2 h12
      have HSC := Lib.hid hSC; clear hSC
      go_wp2_with fail
      refine HSC.out.mono ?_
      rintro e w4 hcs
      have hfin := HFIN.out e w4 hcs
      have HFI := Lib.hid hfin; clear hfin
      obtain ⟨b', g', g'', rfl, _⟩ := hcs
      clear HFIN HSC
      go_wp2_with fail
      go_ret
      exact HFI.out
    · have hdec : decide (12 ≤ n) = false := by simp; omega
      have HFIN := Lib.hid (nodeIns_plain HA.out.drew HL.out HSZ.out hlen2 (by rw [HNN2.out]; omega) hq)
      go_wp2_with fail
      go_ret
      exact HFIN.out
  · have hpe : ((p : Int) == ((ls.length - 1 : Nat) : Int)) = true := by simp; omega
    have hpe2 : (ls.length : Int) - 1 = (p : Int) := by omega
    have hwr : IntKind.i64.wrap ((ls.length : Int) - 1) = (p : Int) := by rw [IntWalk.i64_in _ (by omega)]; omega
    have hp0 : (0 : Int) ≤ (p : Int) := by omega
    have hp1 : (p : Int) < (ls.length : Int) := by omega
    go_wp2_with fail
    go_quiet (fail)
    go_wp2_with fail
    have HK2 := Lib.hid (HK1.out.drewN nq)
    generalize w1.drewN nq = w2 at HK2 ⊢
    clear hpe hpe2 hwr hp0 hp1 c10 c11 c1n
    have hLp := (HC.out p l HL.out).keeps HK2.out (fun f => f) (fun f => f)
    have hlsz := HSZ.out l (List.mem_of_getElem? HL.out)
    have hdd := HD.out
    simp only [List.nodup_cons, List.mem_cons, not_or] at hdd
    have hlm := blks_mem (List.mem_of_getElem? HL.out)
    have hLI := leafInsert l _ 0 k v (.pointer (some ⟨t, 0, none⟩)) w2 hLp hlsz.2 (blks_self hdd.2.2.2.2 (List.mem_of_getElem? HL.out)) (srt_kOf ((srt_flat HSO.out).1 l (List.mem_of_getElem? HL.out)))
      (fun i hi => by
        obtain ⟨y, hy, hyk⟩ := kOf_mem hi
        rw [← hyk]; exact HK.out y (List.mem_flatMap.2 ⟨l, List.mem_of_getElem? HL.out, hy⟩)) rfl
    clear hLp
    have htb : ¬ (t = l.b ∨ t = l.g) := fun e => e.elim (fun e => hdd.1.2.2.2 (e ▸ hlm.1)) (fun e => hdd.1.2.2.2 (e ▸ hlm.2))
    clear hdd hlm
    refine hLI.mono ?_
    rintro e w3 ⟨q, hq, q1, q2, rfl, hL3, hK3⟩
    clear hLI
    have hA := after_leaf (t := t) ⟨HI.out, HS.out, HNN.out⟩ HC.out HD.out HSO.out HSZ.out HK.out HL.out HF.out HK2.out hq q1 q2 hL3 hK3
    have HA := Lib.hid hA; clear hA
    have ht3 := hK3.heap (HK2.out.heap HT.out (fun f => f)) htb
    have c31 : w3.cell? ⟨t, 1, none⟩ = some (.int .u64 12) := cell_at ht3 1
    have HT3 := Lib.hid ht3; clear ht3
    have hil := ins_length l.ks q (k, v) hq
    have c3l : w3.cell? ⟨l.b, 1, none⟩ = some (.slice (some ⟨l.g, 0, none⟩) (ins l.ks q (k, v)).length 12) := cell_at hL3.1 1
    have hn12 : (ins l.ks q (k, v)).length ≤ 12 := by omega
    have HL3 := Lib.hid hL3; clear hL3 hK3 q1 q2
    have hin := Lib.hid hil; clear hil
    generalize hnn : (ins l.ks q (k, v)).length = n at c3l hn12
    have HNN2 := Lib.hid hnn; clear hnn
    have HNL := Lib.hid hlsz; clear hlsz
    go_wp2_with fail
    go_region_held3 (fun w' => w'.cell? ⟨t, 1, none⟩ = some (.int .u64 12)) (go_keep) (first | (go_at_call 161; refine (needs161 l.b l.g n _ hn12 (by go_keep)).mono ?_; rintro e w' ⟨rfl, rfl⟩))
    by_cases hfull : n = 12
    · have hdec : decide (12 ≤ n) = true := by simp; omega
      have hA2 := HA.out.drew
      have h12 : (ins l.ks q (k, v)).length = 12 := HNN2.out.trans hfull
      have hSC := splitChild t ib sg ng root num _ p _ w3.drew HT3.out hA2.node hA2.chain hA2.at_ h12 hA2.apart (by rw [List.length_set]; omega) (sepAt_of hA2.srt (hA2.pos HSZ.out (by omega)) hA2.at_ (by omega) (by simp only [h12]; omega))
      have HFIN := Lib.hid (fun (e : Ending) (w4 : World) h => nodeIns_cut (e := e) (w4 := w4) hA2 HSZ.out hlen2 h12 (blks_lt HC.out) h)
      clear hA2 h12
      have HSC := Lib.hid hSC; clear hSC
      go_wp2_with fail
      refine HSC.out.mono ?_
      rintro e w4 hcs
      have hfin := HFIN.out e w4 hcs
      have HFI := Lib.hid hfin; clear hfin
      obtain ⟨b', g', g'', rfl, _⟩ := hcs
      clear HFIN HSC
      go_wp2_with fail
      go_ret
      exact HFI.out
    · have hdec : decide (12 ≤ n) = false := by simp; omega
      have HFIN := Lib.hid (nodeIns_plain HA.out.drew HL.out HSZ.out hlen2 (by rw [HNN2.out]; omega) hq)
      go_wp2_with fail
      go_ret
      exact HFIN.out
end Go.Proofs.YtegejfhomocloaaGreat

namespace Go.Proofs.YtegejfhomocloaaGreat
open Go.RowKit

/-- A plus tree of one leaf. -/
def POne (w : World) (t : Nat) (l : Leaf) : Prop :=
  ∃ num : Int, w.heap[t]? = some (.cells #[.iface 146 (.pointer (some ⟨l.b, 0, none⟩)), .int .u64 12, .int .u64 num] 105 (0, 0)) ∧ LeafRep w none l ∧ [t, l.b, l.g].Nodup ∧ l.ks.length ≤ 11 ∧ Srt (flat [l])
/-- A plus tree of an inner node over leaves. -/
def PTwo (w : World) (t ib sg ng : Nat) (ls : List Leaf) : Prop :=
  ∃ num : Int, w.heap[t]? = some (.cells #[.iface 204 (.pointer (some ⟨ib, 0, none⟩)), .int .u64 12, .int .u64 num] 105 (0, 0)) ∧ NodeRep w ib sg ng ls ∧ ChainRep w ls ∧ (t :: ib :: sg :: ng :: blks ls).Nodup ∧
    2 ≤ ls.length ∧ (∀ l ∈ ls, 6 ≤ l.ks.length ∧ l.ks.length ≤ 11) ∧ Srt (flat ls)
/-- A plus tree in memory: its footprint, its leaves. -/
def PTree (w : World) (t : Nat) (fp : List Nat) (ls : List Leaf) : Prop :=
  (∃ l, ls = [l] ∧ fp = [t, l.b, l.g] ∧ POne w t l) ∨ (∃ ib sg ng, fp = t :: ib :: sg :: ng :: blks ls ∧ PTwo w t ib sg ng ls)

theorem flat_len {ls : List Leaf} (h : ∀ l ∈ ls, 6 ≤ l.ks.length) : 6 * ls.length ≤ (flat ls).length := by
  induction ls with
  | nil => simp
  | cons a r ih =>
    have h1 := h a (by simp)
    have h2 := ih fun l hl => h l (by simp [hl])
    rw [flat_cons, List.length_append, List.length_cons]; omega

/-- A key put into a plus tree. -/
def TreeIns (t : Nat) (fp : List Nat) (ls : List Leaf) (k v : Int) (w : World) (e : Ending) (w' : World) : Prop :=
  e = .returned (.tuple #[]) ∧ ∃ fp' ls', PTree w' t fp' ls' ∧ (∃ i, i ≤ (flat ls).length ∧ flat ls' = ins (flat ls) i (k, v)) ∧ (∀ x ∈ fp', x ∈ fp ∨ w.heap.size ≤ x) ∧ Keeps (fun x => x ∈ fp) w w'

set_option maxRecDepth 100000 in
set_option maxHeartbeats 800000 in
theorem treeInsertTwo (t ib sg ng : Nat) (ls : List Leaf) (num k v : Int) (w : World) (ht : w.heap[t]? = some (.cells #[.iface 204 (.pointer (some ⟨ib, 0, none⟩)), .int .u64 12, .int .u64 num] 105 (0, 0)))
    (hN : NodeRep w ib sg ng ls) (hC : ChainRep w ls) (hd : (t :: ib :: sg :: ng :: blks ls).Nodup) (hlen : 2 ≤ ls.length) (hsz : ∀ l ∈ ls, 6 ≤ l.ks.length ∧ l.ks.length ≤ 11) (hs : Srt (flat ls))
    (hk : ∀ x ∈ flat ls, x.1 ≠ k) (hcount : (flat ls).length ≤ 39) :
    Calls Tryz.prog 28 #[.pointer (some ⟨t, 0, none⟩), .iface 84 (.agg #[.int .i64 k, .int .i64 v])] w (TreeIns t (t :: ib :: sg :: ng :: blks ls) ls k v w) := by
  have h6 := flat_len (fun l hl => (hsz l hl).1)
  have hI := nodeInsert t ib sg ng _ _ ls k v w ht hN hC hd (by omega) hlen hs hsz hk
  have c0 : w.cell? ⟨t, 0, none⟩ = some (.iface 204 (.pointer (some ⟨ib, 0, none⟩))) := cell_at ht 0
  have htl := lt_of_block ht
  have HT := Lib.hid ht; clear ht
  have HI := Lib.hid hI; clear hI
  have HD := Lib.hid hd; clear hd
  have HN := Lib.hid hN; clear hN
  have HC := Lib.hid hC; clear hC
  have HSZ := Lib.hid hsz; clear hsz
  clear hs hk
  go_enter Tryz.func28, Tryz.ntmps28
  go_wp2_with fail
  refine HI.out.mono ?_
  rintro e w1 ⟨ls', rfl, hN', hC', ⟨i, hi, hput⟩, hs', hsz', hbl', hnd', hlen', hK⟩
  clear HI c0
  have hdd := HD.out
  simp only [List.nodup_cons, List.mem_cons, not_or] at hdd
  obtain ⟨⟨d1, d2, d3, d4⟩, ⟨d5, d6, d7⟩, ⟨d8, d9⟩, d10, d11⟩ := hdd
  have ht1 := hK.heap HT.out (fun h => h.elim d1 (fun h => h.elim d2 (fun h => h.elim d3 d4)))
  have h6' := flat_len (fun l hl => (hsz' l hl).1)
  have hputl : (flat ls').length = (flat ls).length + 1 := by rw [hput]; exact ins_length _ _ _ hi
  have hz1 := hK.size
  have c10 : w1.cell? ⟨t, 0, none⟩ = some (.iface 204 (.pointer (some ⟨ib, 0, none⟩))) := cell_at ht1 0
  have c11 : w1.cell? ⟨t, 1, none⟩ = some (.int .u64 12) := cell_at ht1 1
  have c12 : w1.cell? ⟨t, 2, none⟩ = some (.int .u64 num) := cell_at ht1 2
  have f12 : w1.frozen? ⟨t, 2, none⟩ = false := free_at ht1 2
  have HT1 := Lib.hid ht1; clear ht1
  have HN' := Lib.hid hN'; clear hN'
  have HC' := Lib.hid hC'; clear hC'
  have HPUT := Lib.hid hput; clear hput
  have HSZ' := Lib.hid hsz'; clear hsz'
  have HBL' := Lib.hid hbl'; clear hbl'
  have HND' := Lib.hid hnd'; clear hnd'
  have HK := Lib.hid hK; clear hK
  have HS' := Lib.hid hs'; clear hs'
  have hl12 : ls'.length - 1 ≤ 12 := by omega
  have hl11 : ls'.length - 1 < 12 := by omega
  clear hputl h6' h6
  have c1i : w1.cell? ⟨ib, 0, none⟩ = some (.slice (some ⟨sg, 0, none⟩) (ls'.length - 1) 12) := cell_at HN'.out.1 0
  have nti : ¬ ib = t := Ne.symm d1
  clear d1 d2 d3 d4 d5 d6 d7 d8 d9 d10 d11
  go_wp2_with fail
  have kset : Keeps (fun x => x = t) w1 (w1.setCell ⟨t, 2, none⟩ (.int .u64 (IntKind.u64.wrap (num + 1)))) := (Keeps.refl _ _).setIn t 2 _ rfl
  have ht2 := heap_setCell_same w1 t 2 _ _ (.int .u64 (IntKind.u64.wrap (num + 1))) HT1.out
  clear c10 c11 c12 f12
  generalize w1.setCell ⟨t, 2, none⟩ (.int .u64 (IntKind.u64.wrap (num + 1))) = w2 at kset ht2 ⊢
  have c20 : w2.cell? ⟨t, 0, none⟩ = some (.iface 204 (.pointer (some ⟨ib, 0, none⟩))) := cell_at ht2 0
  have c21 : w2.cell? ⟨t, 1, none⟩ = some (.int .u64 12) := cell_at ht2 1
  have c2i := kset.cell c1i nti
  have HKS := Lib.hid kset; clear kset
  have HT2 := Lib.hid ht2; clear ht2 c1i
  go_region_held3 (fun w' => w'.cell? ⟨t, 0, none⟩ = some (.iface 204 (.pointer (some ⟨ib, 0, none⟩))) ∧ w'.cell? ⟨t, 1, none⟩ = some (.int .u64 12)) (go_keep) (first | (go_at_call 169; refine (needs169 ib sg (ls'.length - 1) _ hl12 (by go_keep)).mono ?_; rintro e w' ⟨rfl, rfl⟩))
  have hdec : decide (12 ≤ ls'.length - 1) = false := by simp; omega
  go_wp2_with fail
  go_end0
  have hdd := HD.out
  simp only [List.nodup_cons, List.mem_cons, not_or] at hdd
  obtain ⟨⟨d1, d2, d3, d4⟩, ⟨d5, d6, d7⟩, ⟨d8, d9⟩, d10, d11⟩ := hdd
  have fresh : ∀ x, x ∉ blks ls → x < w.heap.size → x ∉ blks ls' := fun x hx hlt h => (HBL'.out x h).elim hx (fun h => absurd hlt (Nat.not_lt.2 h))
  have ib1 := lt_of_block HN.out.1
  have sg1 := (HN.out.2.1.lt sg rfl).2
  have ng1 := (HN.out.2.2.lt ng rfl).2
  have kset := HKS.out.drew
  refine ⟨rfl, _, ls', .inr ⟨ib, sg, ng, rfl, _, HT2.out, ⟨?_, ?_, ?_⟩, fun j x hj => ?_, ?_, hlen', HSZ'.out, HS'.out⟩, ⟨i, hi, HPUT.out⟩, fun x hx => ?_, ?_⟩
  · exact kset.heap HN'.out.1 (Ne.symm d1)
  · exact kset.row HN'.out.2.1 (ownNot (Ne.symm d2))
  · exact kset.row HN'.out.2.2 (ownNot (Ne.symm d3))
  · have hm := blks_mem (List.mem_of_getElem? hj)
    exact (HC'.out j x hj).keeps kset (fun e => fresh t d4 htl (e ▸ hm.1)) (fun e => fresh t d4 htl (e ▸ hm.2))
  · simp only [List.nodup_cons, List.mem_cons, not_or]
    exact ⟨⟨d1, d2, d3, fresh t d4 htl⟩, ⟨d5, d6, fresh ib d7 ib1⟩, ⟨d8, fresh sg d9 sg1⟩, fresh ng d10 ng1, HND'.out⟩
  · simp only [List.mem_cons] at hx ⊢
    rcases hx with h | h | h | h | h
    · exact .inl (.inl h)
    · exact .inl (.inr (.inl h))
    · exact .inl (.inr (.inr (.inl h)))
    · exact .inl (.inr (.inr (.inr (.inl h))))
    · exact (HBL'.out x h).elim (fun h => .inl (.inr (.inr (.inr (.inr h))))) .inr
  · refine (HK.out.mono (G := fun x => x ∈ t :: ib :: sg :: ng :: blks ls) (fun x _ h => ?_)).trans kset (fun x _ h => ?_)
    · simp only [List.mem_cons]
      exact .inr h
    · simp only [List.mem_cons]
      exact .inl h
end Go.Proofs.YtegejfhomocloaaGreat

namespace Go.Proofs.YtegejfhomocloaaGreat
open Go.RowKit

theorem one_srt {ks : List (Int × Int)} {k v : Int} {q : Nat} (hs : Srt ks) (q1 : ∀ i, i < q → kOf ks i < k) (q2 : ∀ i, q ≤ i → i < ks.length → k < kOf ks i) : Srt (ins ks q (k, v)) := by
  refine srt_ins hs (fun x hx => ?_) (fun x hx => ?_)
  · obtain ⟨i, hi, rfl⟩ := List.getElem_of_mem hx
    rw [List.length_take] at hi
    have := q1 i (by omega)
    rw [kOf, List.getD_eq_getElem?_getD, List.getElem?_eq_getElem (by omega)] at this
    rw [List.getElem_take]; exact this
  · obtain ⟨i, hi, rfl⟩ := List.getElem_of_mem hx
    rw [List.length_drop] at hi
    have := q2 (q + i) (by omega) (by omega)
    rw [kOf, List.getD_eq_getElem?_getD, List.getElem?_eq_getElem (by omega)] at this
    rw [List.getElem_drop]; exact this

set_option maxRecDepth 100000 in
set_option maxHeartbeats 800000 in
theorem treeInsertOne (t : Nat) (l : Leaf) (k v : Int) (w : World) (h : POne w t l) (hk : ∀ x ∈ l.ks, x.1 ≠ k) :
    Calls Tryz.prog 28 #[.pointer (some ⟨t, 0, none⟩), .iface 84 (.agg #[.int .i64 k, .int .i64 v])] w (TreeIns t [t, l.b, l.g] [l] k v w) := by
  obtain ⟨num, ht, hl, hd, hn, hs⟩ := h
  simp only [List.nodup_cons, List.mem_cons, List.not_mem_nil, or_false, not_or, List.nodup_nil, and_true, not_false_eq_true] at hd
  obtain ⟨⟨d1, d2⟩, d3⟩ := hd
  have hs' : Srt l.ks := by rw [flat_cons] at hs; simpa [flat] using hs
  have hI := leafInsert l none 0 k v (.pointer (some ⟨t, 0, none⟩)) w hl hn d3 (srt_kOf hs') (fun i hi => by
    obtain ⟨y, hy, hyk⟩ := kOf_mem hi
    rw [← hyk]; exact hk y hy) rfl
  have c0 : w.cell? ⟨t, 0, none⟩ = some (.iface 146 (.pointer (some ⟨l.b, 0, none⟩))) := cell_at ht 0
  have htl := lt_of_block ht
  have HT := Lib.hid ht; clear ht
  have HI := Lib.hid hI; clear hI
  have HL := Lib.hid hl; clear hl
  have HS := Lib.hid hs'; clear hs' hs hk
  have hn : l.ks.length ≤ 11 := hn
  go_enter Tryz.func28, Tryz.ntmps28
  go_wp2_with fail
  refine HI.out.mono ?_
  rintro e w1 ⟨q, hq, q1, q2, rfl, hL1, hK1⟩
  clear HI c0
  have hsrt := one_srt (v := v) HS.out q1 q2
  have hil := ins_length l.ks q (k, v) hq
  have ht1 := hK1.heap HT.out (fun e => e.elim d1 d2)
  have hz1 := hK1.size
  have c12 : w1.cell? ⟨t, 2, none⟩ = some (.int .u64 num) := cell_at ht1 2
  have f12 : w1.frozen? ⟨t, 2, none⟩ = false := free_at ht1 2
  have c10 : w1.cell? ⟨t, 0, none⟩ = some (.iface 146 (.pointer (some ⟨l.b, 0, none⟩))) := cell_at ht1 0
  have HT1 := Lib.hid ht1; clear ht1
  have HL1 := Lib.hid hL1; clear hL1
  have HK1 := Lib.hid hK1; clear hK1
  have HSRT := Lib.hid hsrt; clear hsrt
  have HIL := Lib.hid hil; clear hil q1 q2
  go_wp2_with fail
  have kset : Keeps (fun x => x = t) w1 (w1.setCell ⟨t, 2, none⟩ (.int .u64 (IntKind.u64.wrap (num + 1)))) := (Keeps.refl _ _).setIn t 2 _ rfl
  have ht2 := heap_setCell_same w1 t 2 _ _ (.int .u64 (IntKind.u64.wrap (num + 1))) HT1.out
  clear c12 f12 c10
  generalize w1.setCell ⟨t, 2, none⟩ (.int .u64 (IntKind.u64.wrap (num + 1))) = w2 at kset ht2 ⊢
  have hL2 := HL1.out.keeps kset (fun e => d1 e.symm) (fun e => d2 e.symm)
  have c20 : w2.cell? ⟨t, 0, none⟩ = some (.iface 146 (.pointer (some ⟨l.b, 0, none⟩))) := cell_at ht2 0
  have c21 : w2.cell? ⟨t, 1, none⟩ = some (.int .u64 12) := cell_at ht2 1
  have f20 : w2.frozen? ⟨t, 0, none⟩ = false := free_at ht2 0
  have c2l : w2.cell? ⟨l.b, 1, none⟩ = some (.slice (some ⟨l.g, 0, none⟩) (ins l.ks q (k, v)).length 12) := cell_at hL2.1 1
  have hn12 : (ins l.ks q (k, v)).length ≤ 12 := by rw [HIL.out]; omega
  have HKS := Lib.hid kset; clear kset
  have HT2 := Lib.hid ht2; clear ht2
  have HL2 := Lib.hid hL2; clear hL2
  have HKF : Hid (Keeps (fun x => x ∈ [t, l.b, l.g]) w w2) := (HK1.out.mono (G := fun x => x ∈ [t, l.b, l.g]) (fun x _ h => by simp only [List.mem_cons]; exact .inr (h.elim .inl (fun h => .inr (.inl h))))).trans HKS.out (fun x _ h => by simp only [List.mem_cons]; exact .inl h)
  generalize hnn : (ins l.ks q (k, v)).length = n at c2l hn12
  have HNN2 := Lib.hid hnn; clear hnn
  go_region_held3 (fun w' => w'.cell? ⟨t, 0, none⟩ = some (.iface 146 (.pointer (some ⟨l.b, 0, none⟩))) ∧ w'.cell? ⟨t, 1, none⟩ = some (.int .u64 12)) (go_keep) (first | (go_at_call 161; refine (needs161 l.b l.g n _ hn12 (by go_keep)).mono ?_; rintro e w' ⟨rfl, rfl⟩))
  by_cases hfull : n = 12
  · have hdec : decide (12 ≤ n) = true := by simp; omega
    have h12 : (ins l.ks q (k, v)).length = 12 := HNN2.out.trans hfull
    have hSR := splitRoot t l.b l.g _ _ (ins l.ks q (k, v)) w2.drew HT2.out HL2.out h12 d1
    have HSR := Lib.hid hSR; clear hSR
    have H12 := Lib.hid h12; clear h12
    go_wp2_with fail
    refine HSR.out.mono ?_
    rintro e w3 ⟨ib, sg, ng, b', g', g'', rfl, hN, hC, hfr, hnd, hK3⟩
    clear HSR
    have hK3 := hK3.ofDrew
    have ht3 := hK3.heap HT2.out d1
    clear c20 c21 f20 c2l
    have c30 : w3.cell? ⟨t, 0, none⟩ = some (.iface 146 (.pointer (some ⟨l.b, 0, none⟩))) := cell_at ht3 0
    have f30 : w3.frozen? ⟨t, 0, none⟩ = false := free_at ht3 0
    have HT3 := Lib.hid ht3; clear ht3
    have HN := Lib.hid hN; clear hN
    have HC := Lib.hid hC; clear hC
    have HFR := Lib.hid hfr; clear hfr
    have HND := Lib.hid hnd; clear hnd
    have HK3 := Lib.hid hK3; clear hK3
    go_wp2_with fail
    go_end0
    have hz2 := HKF.out.size
    have hbl := HL.out.ltb
    have fr : ∀ x ∈ [ib, sg, ng, b', g', g''], w.heap.size ≤ x := fun x hx => Nat.le_trans hz2 (HFR.out x hx)
    have fi := fr ib (by simp)
    have fs := fr sg (by simp)
    have fn := fr ng (by simp)
    have fb := fr b' (by simp)
    have fg := fr g' (by simp)
    have fh := fr g'' (by simp)
    have kset : Keeps (fun x => x = t) w3 (w3.setCell ⟨t, 0, none⟩ (.iface 204 (.pointer (some ⟨ib, 0, none⟩)))) := (Keeps.refl _ _).setIn t 0 _ rfl
    have lt_ne : ∀ {a b : Nat}, a < w.heap.size → w.heap.size ≤ b → a ≠ b := fun h1 h2 e => absurd (e ▸ h1) (Nat.not_lt.2 h2)
    have hks : (ins l.ks q (k, v)).take 6 ++ (ins l.ks q (k, v)).drop 6 = ins l.ks q (k, v) := List.take_append_drop _ _
    have hb2 : blks [⟨b', g', (ins l.ks q (k, v)).take 6⟩, ⟨l.b, g'', (ins l.ks q (k, v)).drop 6⟩] = [b', g', l.b, g''] := rfl
    have hf2 : flat [⟨b', g', (ins l.ks q (k, v)).take 6⟩, ⟨l.b, g'', (ins l.ks q (k, v)).drop 6⟩] = ins l.ks q (k, v) := by
      simp only [flat, List.flatMap_cons, List.flatMap_nil, List.append_nil]; exact hks
    have hf1 : flat [l] = l.ks := by simp only [flat, List.flatMap_cons, List.flatMap_nil, List.append_nil]
    refine ⟨rfl, _, [⟨b', g', (ins l.ks q (k, v)).take 6⟩, ⟨l.b, g'', (ins l.ks q (k, v)).drop 6⟩], .inr ⟨ib, sg, ng, rfl, _, heap_setCell_same w3 t 0 _ _ _ HT3.out, ⟨?_, ?_, ?_⟩, fun j x hj => ?_, ?_, by simp, fun x hx => ?_, ?_⟩, ⟨q, ?_, ?_⟩, fun x hx => ?_, ?_⟩
    · exact kset.heap HN.out.1 (Ne.symm (lt_ne htl fi))
    · exact kset.row HN.out.2.1 (ownNot (Ne.symm (lt_ne htl fs)))
    · exact kset.row HN.out.2.2 (ownNot (Ne.symm (lt_ne htl fn)))
    · refine (HC.out j x hj).keeps kset (fun e => ?_) (fun e => ?_)
      · match j, hj with
        | 0, hj => obtain rfl := Option.some.inj hj; exact lt_ne htl fb e.symm
        | 1, hj => obtain rfl := Option.some.inj hj; exact d1 e.symm
      · match j, hj with
        | 0, hj => obtain rfl := Option.some.inj hj; exact lt_ne htl fg e.symm
        | 1, hj => obtain rfl := Option.some.inj hj; exact lt_ne htl fh e.symm
    · have hnd := HND.out
      simp only [List.nodup_cons, List.mem_cons, List.not_mem_nil, or_false, not_or, List.nodup_nil, and_true, not_false_eq_true] at hnd
      obtain ⟨⟨a1, a2, a3, a4, a5⟩, ⟨a6, a7, a8, a9⟩, ⟨b1, b2, b3⟩, ⟨b4, b5⟩, b6⟩ := hnd
      simp only [hb2, List.nodup_cons, List.mem_cons, List.not_mem_nil, or_false, not_or, List.nodup_nil, and_true, not_false_eq_true]
      exact ⟨⟨lt_ne htl fi, lt_ne htl fs, lt_ne htl fn, lt_ne htl fb, lt_ne htl fg, d1, lt_ne htl fh⟩, ⟨a1, a2, a3, a4, Ne.symm (lt_ne hbl fi), a5⟩, ⟨a6, a7, a8, Ne.symm (lt_ne hbl fs), a9⟩, ⟨b1, b2, Ne.symm (lt_ne hbl fn), b3⟩,
        ⟨b4, Ne.symm (lt_ne hbl fb), b5⟩, ⟨Ne.symm (lt_ne hbl fg), b6⟩, lt_ne hbl fh⟩
    · simp only [List.mem_cons, List.not_mem_nil, or_false] at hx
      rcases hx with rfl | rfl
      · simp only [List.length_take, H12.out]; omega
      · simp only [List.length_drop, H12.out]; omega
    · rw [hf2]; exact HSRT.out
    · rw [hf1]; exact hq
    · rw [hf1, hf2]
    · simp only [hb2, List.mem_cons, List.not_mem_nil, or_false] at hx ⊢
      rcases hx with rfl | rfl | rfl | rfl | rfl | rfl | rfl | rfl
      · exact .inl (.inl rfl)
      · exact .inr fi
      · exact .inr fs
      · exact .inr fn
      · exact .inr fb
      · exact .inr fg
      · exact .inl (.inr (.inl rfl))
      · exact .inr fh
    · refine (HKF.out.trans HK3.out (fun x _ h => ?_)).trans kset (fun x _ h => ?_)
      · simp only [List.mem_cons]; exact .inr (.inl h)
      · simp only [List.mem_cons]; exact .inl h
  · have hdec : decide (12 ≤ n) = false := by simp; omega
    go_wp2_with fail
    go_end0
    refine ⟨rfl, _, [⟨l.b, l.g, ins l.ks q (k, v)⟩], .inl ⟨_, rfl, rfl, _, HT2.out, HL2.out, ?_, ?_, ?_⟩, ⟨q, ?_, ?_⟩, fun x hx => .inl hx, HKF.out.drew⟩
    · simp only [List.nodup_cons, List.mem_cons, List.not_mem_nil, or_false, not_or, List.nodup_nil, and_true, not_false_eq_true]
      exact ⟨⟨d1, d2⟩, d3⟩
    · show (ins l.ks q (k, v)).length ≤ 11
      rw [HNN2.out]; omega
    · rw [flat_cons]; simpa [flat] using HSRT.out
    · rw [flat_cons]; simpa [flat] using hq
    · simp [flat]
end Go.Proofs.YtegejfhomocloaaGreat

namespace Go.Proofs.YtegejfhomocloaaGreat
open Go.RowKit

theorem flat_one (l : Leaf) : flat [l] = l.ks := by simp only [flat, List.flatMap_cons, List.flatMap_nil, List.append_nil]

theorem treeInsert (t : Nat) (fp : List Nat) (ls : List Leaf) (k v : Int) (w : World) (h : PTree w t fp ls) (hk : ∀ x ∈ flat ls, x.1 ≠ k) (hcount : (flat ls).length ≤ 39) :
    Calls Tryz.prog 28 #[.pointer (some ⟨t, 0, none⟩), .iface 84 (.agg #[.int .i64 k, .int .i64 v])] w (TreeIns t fp ls k v w) := by
  rcases h with ⟨l, rfl, rfl, h⟩ | ⟨ib, sg, ng, rfl, num, ht, hN, hC, hd, hlen, hsz, hs⟩
  · exact treeInsertOne t l k v w h (fun x hx => hk x (by rw [flat_one]; exact hx))
  · exact treeInsertTwo t ib sg ng ls num k v w ht hN hC hd hlen hsz hs hk hcount

theorem PTree.srt {w : World} {t : Nat} {fp : List Nat} {ls : List Leaf} (h : PTree w t fp ls) : Srt (flat ls) := by
  rcases h with ⟨l, rfl, rfl, _, _, _, _, _, hs⟩ | ⟨ib, sg, ng, rfl, num, ht, hN, hC, hd, hlen, hsz, hs⟩ <;> exact hs

/-- Many keys put into a plus tree. -/
def TreeMany (t : Nat) (fp : List Nat) (xs : List (Int × Int)) (w : World) (e : Ending) (w' : World) : Prop :=
  e = .returned (.tuple #[]) ∧ ∃ fp' ls', PTree w' t fp' ls' ∧ (flat ls').Perm xs ∧ (∀ x ∈ fp', x ∈ fp ∨ w.heap.size ≤ x) ∧ Keeps (fun x => x ∈ fp) w w'

/-- The tree behind some rounds. -/
def TreeRel (t : Nat) (fp : List Nat) (xs : List (Int × Int)) (w : World) (j : Nat) (w' : World) : Prop :=
  ∃ fp' ls', PTree w' t fp' ls' ∧ (flat ls').Perm (xs.take j) ∧ (∀ x ∈ fp', x ∈ fp ∨ w.heap.size ≤ x) ∧ Keeps (fun x => x ∈ fp) w w'

theorem take_next {xs : List (Int × Int)} {j : Nat} (h : j < xs.length) : xs.take (j + 1) = xs.take j ++ [(kOf xs j, vOf xs j)] := by
  rw [List.take_succ_eq_append_getElem h, kOf, vOf, List.getD_eq_getElem?_getD, List.getElem?_eq_getElem h]; rfl
theorem fresh_key {xs : List (Int × Int)} {j : Nat} {L : List (Int × Int)} (h : j < xs.length) (hx : (xs.map (·.1)).Nodup) (hp : L.Perm (xs.take j)) : ∀ x ∈ L, x.1 ≠ kOf xs j := by
  intro x hxL e
  have hm := hp.mem_iff.1 hxL
  obtain ⟨i, hi, rfl⟩ := List.getElem_of_mem hm
  rw [List.length_take] at hi
  rw [List.getElem_take] at e
  rw [kOf, List.getD_eq_getElem?_getD, List.getElem?_eq_getElem h] at e
  have h1 := List.pairwise_iff_getElem.1 hx i j (by simp; omega) (by simpa using h) (by omega)
  apply h1
  rw [List.getElem_map, List.getElem_map]
  exact e

theorem TreeRel.step {t : Nat} {fp : List Nat} {xs : List (Int × Int)} {w w1 w2 : World} {j : Nat} {fp' : List Nat} {ls' : List Leaf} (h : j < xs.length) (hP : (flat ls').Perm (xs.take j)) (hF : ∀ x ∈ fp', x ∈ fp ∨ w.heap.size ≤ x)
    (hK : Keeps (fun x => x ∈ fp) w w1) {e : Ending} (hi : TreeIns t fp' ls' (kOf xs j) (vOf xs j) w1 e w2) : TreeRel t fp xs w (j + 1) w2 := by
  obtain ⟨_, fp2, ls2, hT, ⟨i, hi, hput⟩, hF2, hK2⟩ := hi
  have hz := hK.size
  refine ⟨fp2, ls2, hT, ?_, fun x hx => ?_, hK.trans hK2 fun x hx h => ?_⟩
  · rw [hput, take_next h]
    exact (ins_perm _ _ _).trans ((List.Perm.cons _ hP).trans (List.perm_append_singleton _ _).symm)
  · rcases hF2 x hx with h | h
    · exact hF x h
    · exact .inr (Nat.le_trans hz h)
  · exact (hF x h).elim id (fun h => absurd hx (Nat.not_lt.2 h))

set_option maxRecDepth 100000 in
set_option maxHeartbeats 800000 in
theorem treeInsertMany (t kb n cap : Nat) (fp : List Nat) (ls : List Leaf) (xs : List (Int × Int)) (w : World) (h : PTree w t fp ls) (h0 : flat ls = []) (hx : (xs.map (·.1)).Nodup) (hlen : n ≤ 40) (hn : xs.length = n)
    (hrow : w.ownsRow 0 78 1 (.slice (some ⟨kb, 0, none⟩) n cap) n (xs.map keyV)) (hkb : kb ∉ fp) :
    Calls Tryz.prog 13 #[.pointer (some ⟨t, 0, none⟩), .slice (some ⟨kb, 0, none⟩) n cap] w (TreeMany t fp xs w) := by
  have HR := Lib.hid hrow; clear hrow
  have HT := Lib.hid h; clear h
  have HX := Lib.hid hx; clear hx
  have H0 := Lib.hid h0; clear h0
  have hkl := (HR.out.lt kb rfl).2
  have HN := Lib.hid hn; clear hn
  have HKB := Lib.hid hkb; clear hkb
  go_enter Tryz.func13, Tryz.ntmps13
  go_wp2_with fail
  go_loopg [8] n (fun kx s8 wr => ∃ j : Nat, s8 = .int .i64 j ∧ j ≤ n ∧ n - j ≤ kx ∧ Hid (TreeRel t fp xs w j wr))
  case atStart => exact ⟨0, rfl, Nat.zero_le _, by omega, ⟨fp, ls, HT.out, by rw [H0.out]; exact List.Perm.nil, fun x hx => .inl hx, Keeps.refl _ _⟩⟩
  case round =>
    obtain ⟨j, rfl, hj, hg, hrel⟩ := hrel
    by_cases hlt : j < n
    · have hR := hrel.out
      obtain ⟨fp', ls', hT, hP, hF, hK⟩ := hR
      have hrow := hK.row HR.out (ownNot HKB.out)
      have cj := row_keys hrow j hlt
      have hjx : j < xs.length := by rw [HN.out]; exact hlt
      have hI := treeInsert t fp' ls' (kOf xs j) (vOf xs j) wr hT (fresh_key hjx HX.out hP) (by rw [hP.length_eq, List.length_take]; omega)
      have HI := Lib.hid hI; clear hI
      have HS := Lib.hid (fun (e : Ending) (w2 : World) (hi : TreeIns t fp' ls' (kOf xs j) (vOf xs j) wr e w2) => TreeRel.step hjx hP hF hK hi)
      clear hT hP hF hK hrow hjx
      go_wp2_with fail
      refine HI.out.mono ?_
      rintro e w2 hi
      have HS2 := Lib.hid (HS.out e w2 hi)
      obtain ⟨rfl, _⟩ := hi
      clear HI HS
      go_wp2_with fail
      go_roundg (n - (j + 1))
      case measure => omega
      case rel => exact ⟨j + 1, rfl, by omega, Nat.le_refl _, HS2⟩
    · obtain rfl : j = n := by omega
      go_wp2_with fail
      go_end0
      have hR := hrel.out
      obtain ⟨fp', ls', hT, hP, hF, hK⟩ := hR
      rw [List.take_of_length_le (by rw [HN.out]; exact Nat.le_refl _)] at hP
      exact ⟨rfl, fp', ls', hT, hP, hF, hK⟩
end Go.Proofs.YtegejfhomocloaaGreat

namespace Go.Proofs.YtegejfhomocloaaGreat
open Go.RowKit

/-- Words in a row: two cells each. -/
def wordCells (xs : List (Int × Int)) : List Value := xs.flatMap fun x => [.int .i64 x.1, .int .i64 x.2]

theorem two_cells {α : Type} (f g : α → Value) (xs : List α) (i : Nat) (hi : i < xs.length) :
    (xs.flatMap fun x => [f x, g x])[2 * i]? = some (f xs[i]) ∧ (xs.flatMap fun x => [f x, g x])[2 * i + 1]? = some (g xs[i]) := by
  induction xs generalizing i with
  | nil => simp at hi
  | cons a r ih =>
    cases i with
    | zero => simp
    | succ i =>
      have := ih i (by simpa using hi)
      simp only [List.flatMap_cons, List.getElem_cons_succ]
      rw [show 2 * (i + 1) = 2 * i + 2 by omega, show 2 * i + 2 + 1 = (2 * i + 1) + 2 by omega]
      simpa using this

theorem row_word {w : World} {g n cap : Nat} {xs : List (Int × Int)} (h : w.ownsRow 0 34 2 (.slice (some ⟨g, 0, none⟩) n cap) n (wordCells xs)) (hn : xs.length = n) (i : Nat) (hi : i < n) :
    w.cell? ⟨g, i * 2, none⟩ = some (.int .i64 (kOf xs i)) ∧ w.cell? ⟨g, i * 2 + 1, none⟩ = some (.int .i64 (vOf xs i)) := by
  have h2 := two_cells (fun x : Int × Int => Value.int .i64 x.1) (fun x => Value.int .i64 x.2) xs i (by omega)
  rw [h.cellAt _ (by omega), h.cellAt _ (by omega), Nat.mul_comm i 2]
  rw [kOf, vOf, List.getD_eq_getElem?_getD, List.getElem?_eq_getElem (l := xs) (i := i) (by omega)]
  exact h2

theorem rowNew {w wr : World} {e : TypeId} {size : Nat} {v : Value} {n : Nat} {xs : List Value} (h : wr.ownsRow w.heap.size e size v n xs) : ∀ b, v.ownBlock = some b → b < w.heap.size → False := fun b hb hlt => absurd hlt (Nat.not_lt.2 (h.lt b hb).1)

/-- Keys made of words. -/
def KeysMade (xs : List (Int × Int)) (w : World) (e : Ending) (w' : World) : Prop :=
  ∃ g cap : Nat, e = .returned (.slice (some ⟨g, 0, none⟩) xs.length cap) ∧ w.heap.size ≤ g ∧ w'.ownsRow w.heap.size 78 1 (.slice (some ⟨g, 0, none⟩) xs.length cap) xs.length (xs.map keyV) ∧ Keeps (fun _ => False) w w'

set_option maxRecDepth 100000 in
set_option maxHeartbeats 800000 in
theorem keys14 (g n cap : Nat) (xs : List (Int × Int)) (w : World) (hn : xs.length = n) (h0 : 0 < n) (hlen : n ≤ 40)
    (hrow : w.ownsRow 0 34 2 (.slice (some ⟨g, 0, none⟩) n cap) n (wordCells xs)) :
    Calls Tryz.prog 14 #[.slice (some ⟨g, 0, none⟩) n cap] w (KeysMade xs w) := by
  obtain ⟨i0, hi0, hiz, his, hib⟩ := info_parts info78
  have HR := Lib.hid hrow; clear hrow
  have HN := Lib.hid hn; clear hn
  have hgl := (HR.out.lt g rfl).2
  go_enter Tryz.func14, Tryz.ntmps14
  go_wp2_with fail
  go_loopg [3, 8] n (fun kx s3 s8 wr => ∃ j : Nat, s8 = .int .i64 j ∧ j ≤ n ∧ n - j ≤ kx ∧ Hid (wr.ownsRow w.heap.size 78 1 s3 j ((xs.take j).map keyV)) ∧ Hid (Keeps (fun _ => False) w wr))
  case atStart => exact ⟨0, rfl, Nat.zero_le _, by omega, World.ownsRow_nil _ _ _ _, Keeps.refl _ _⟩
  case round =>
    obtain ⟨j, rfl, hj, hg, hO, hK⟩ := hrel
    by_cases hlt : j < n
    · have hrow := hK.out.row HR.out (ownNot (fun f => f))
      obtain ⟨cj0, cj1⟩ := row_word hrow HN.out j hlt
      have hzr := hK.out.size
      clear hrow
      have hjx : j < xs.length := by rw [HN.out]; exact hlt
      have HJX := Lib.hid hjx; clear hjx
      go_wp2_with (at_builtin; (refine wpList_append_lies _ rfl (.tmp 12) (.tmp 16) 73 rfl w.heap.size 78 i0 .nilIface 1 16 Tryz.underlying73 hi0 hiz his hib rfl (by omega) u3 j _ rfl ((hO.out.alloc _).alloc _) ⟨wr.heap.size + 1, 0, none⟩ 1 1 [keyV (kOf xs j, vOf xs j)] rfl (by rfl) (cell_new_at (by simp)) (one_of rfl) (by omega) (by simp only [maxLen]; omega) (by omega) (by simp; omega) _ rfl ?_); intro g' cap' w1 hO1 hg1 hat hlt1; clear hat; have HO1 := Lib.hid hO1; clear hO1; have HK1 := Lib.hid (((hK.out.alloc _).alloc _).grown hg1 (rowNew hO.out)); clear hg1)
      go_roundg (n - (j + 1))
      case measure => omega
      case rel =>
        refine ⟨j + 1, by go_num, by omega, Nat.le_refl _, ?_, HK1⟩
        have h3 := HO1.out
        rw [show (xs.take j).map keyV ++ [keyV (kOf xs j, vOf xs j)] = (xs.take (j + 1)).map keyV by rw [take_next HJX.out, List.map_append]; rfl] at h3
        exact h3
    · obtain rfl : j = n := by omega
      have hO2 := hO.out
      rw [List.take_of_length_le (by rw [HN.out]; exact Nat.le_refl _)] at hO2
      obtain ⟨g', cap', rfl, hb, hl⟩ := hO2.form h0
      have HO2 := Lib.hid hO2; clear hO2
      go_wp2_with fail
      go_ret
      refine ⟨g', cap', by rw [HN.out]; rfl, hb, by rw [HN.out]; exact HO2.out, hK.out⟩
end Go.Proofs.YtegejfhomocloaaGreat

namespace Go.Proofs.YtegejfhomocloaaGreat
open Go.RowKit

/-- A new plus tree. -/
def NewTree (w : World) (e : Ending) (w' : World) : Prop :=
  ∃ t b g : Nat, e = .returned (.pointer (some ⟨t, 0, none⟩)) ∧ PTree w' t [t, b, g] [⟨b, g, []⟩] ∧ (∀ x ∈ [t, b, g], w.heap.size ≤ x) ∧ Keeps (fun _ => False) w w'

set_option maxRecDepth 100000 in
set_option maxHeartbeats 400000 in
theorem newTree27 (w : World) : Calls Tryz.prog 27 #[.int .u64 12] w (NewTree w) := by
  go_enter Tryz.func27, Tryz.ntmps27
  go_wp2_with fail
  refine (newLeaf _).mono ?_
  rintro e w1 ⟨b, g, rfl, hb, hg, hbg, hL, hK⟩
  have hz := hK.size
  have HL := Lib.hid hL; clear hL
  have HK := Lib.hid hK; clear hK
  go_wp2_with fail
  go_ret
  have hbl := HL.out.ltb
  have hgl := HL.out.ltg
  simp only [] at hbl hgl
  refine ⟨w1.heap.size, b, g, rfl, .inl ⟨_, rfl, rfl, 0, alloc_at _ _ _ rfl, HL.out.keeps ((Keeps.refl (fun _ => False) _).alloc _) (fun f => f) (fun f => f), ?_, ?_, ?_⟩, ?_, HK.out.alloc _⟩
  · simp only [List.nodup_cons, List.mem_cons, List.not_mem_nil, or_false, not_or, List.nodup_nil, and_true, not_false_eq_true]
    exact ⟨⟨by omega, by omega⟩, hbg⟩
  · simp
  · rw [flat_one]; exact List.Pairwise.nil
  · intro x hx
    simp only [List.mem_cons, List.not_mem_nil, or_false] at hx
    omega

set_option maxRecDepth 100000 in
set_option maxHeartbeats 400000 in
theorem newTree12 (w : World) : Calls Tryz.prog 12 #[.int .u64 12] w (NewTree w) := by
  go_enter Tryz.func12, Tryz.ntmps12
  go_wp2_with fail
  refine (newTree27 _).mono ?_
  rintro e w1 ⟨t, b, g, rfl, hT, hx, hK⟩
  have HT := Lib.hid hT; clear hT
  have HK := Lib.hid hK; clear hK
  have HX := Lib.hid hx; clear hx
  go_wp2_with fail
  go_ret
  exact ⟨t, b, g, rfl, HT.out, HX.out, HK.out⟩

/-- An iterator made: its block holds the leaf before whose key p it stands. -/
def IterMade (lb : Nat) (p : Int) (w : World) (e : Ending) (w' : World) : Prop :=
  ∃ it : Nat, e = .returned (.pointer (some ⟨it, 0, none⟩)) ∧ w.heap.size ≤ it ∧ w'.heap[it]? = some (.cells #[.pointer (some ⟨lb, 0, none⟩), .int .i64 p] 153 (0, 0)) ∧ Keeps (fun _ => False) w w'

set_option maxRecDepth 100000 in
set_option maxHeartbeats 400000 in
theorem leafFind (nx : Option Nat) (l : Leaf) (w : World) (k v : Int) (h : LeafRep w nx l) (h0 : 0 < l.ks.length) (hn : l.ks.length ≤ 12)
    (hmono : ∀ i j, i < j → j < l.ks.length → kOf l.ks i < kOf l.ks j) (hk : ∀ i, i < l.ks.length → k < kOf l.ks i) :
    Calls Tryz.prog 160 #[.pointer (some ⟨l.b, 0, none⟩), .iface 84 (.agg #[.int .i64 k, .int .i64 v])] w (IterMade l.b (-1) w) := by
  obtain ⟨b, g, ks⟩ := l
  obtain ⟨hb, hrow⟩ := h
  simp only at hb hrow hn hmono h0 hk
  obtain ⟨n, hnn⟩ : ∃ n, n = ks.length := ⟨_, rfl⟩
  rw [← hnn] at hb hrow hn hmono h0 hk
  have c1 : w.cell? ⟨b, 1, none⟩ = some (.slice (some ⟨g, 0, none⟩) n 12) := cell_at hb 1
  have hS := search162 b g n 12 (kOf ks) (vOf ks) k v w hn (hrow.lt g rfl).2 c1 (row_keys hrow) hmono
  have hbl := lt_of_block hb
  have HB := Lib.hid hb; clear hb
  have HR := Lib.hid hrow; clear hrow
  have HK := Lib.hid hk; clear hk
  have HS := Lib.hid hS; clear hS hmono
  go_enter Tryz.func160, Tryz.ntmps160
  go_wp2_with fail
  refine HS.out.mono ?_
  rintro e w1 ⟨p, hp, h1, h2, rfl, hB⟩
  obtain rfl : p = 0 := by
    rcases Nat.eq_zero_or_pos p with h | h
    · exact h
    · exact absurd (h1 0 h) (by have := HK.out 0 h0; omega)
  clear h1 h2 HS
  have hk1 : Keeps (fun _ => False) w w1 := Keeps.of_new hB
  have hz := hB.size
  have HB1 := Lib.hid (hk1.heap HB.out (fun f => f))
  clear c1
  have c1 : w1.cell? ⟨b, 1, none⟩ = some (.slice (some ⟨g, 0, none⟩) n 12) := cell_at HB1.out 1
  have HK1 := Lib.hid hk1; clear hk1 hB
  have hin : ((0 : Int) == (n : Int)) = false := by simp; omega
  go_wp2
  go_ret
  exact ⟨_, rfl, hz, alloc_at _ _ _ rfl, HK1.out.alloc _⟩
end Go.Proofs.YtegejfhomocloaaGreat

namespace Go.Proofs.YtegejfhomocloaaGreat
open Go.RowKit

set_option maxRecDepth 100000 in
set_option maxHeartbeats 400000 in
theorem nodeFind (ib sg ng : Nat) (ls : List Leaf) (l : Leaf) (k v : Int) (w : World) (hN : NodeRep w ib sg ng ls) (hC : ChainRep w ls) (hl : ls[0]? = some l) (hlen : 2 ≤ ls.length) (hlen2 : ls.length ≤ 13)
    (hs : Srt (flat ls)) (hsz : ∀ l ∈ ls, 6 ≤ l.ks.length ∧ l.ks.length ≤ 11) (hk : ∀ x ∈ flat ls, k < x.1) :
    Calls Tryz.prog 167 #[.pointer (some ⟨ib, 0, none⟩), .iface 84 (.agg #[.int .i64 k, .int .i64 v])] w (IterMade l.b (-1) w) := by
  have hne : ∀ l ∈ ls, 0 < l.ks.length := fun l hl => by have := hsz l hl; omega
  obtain ⟨hI, hS, hNN⟩ := hN
  have c0 : w.cell? ⟨ib, 0, none⟩ = some (.slice (some ⟨sg, 0, none⟩) (ls.length - 1) 12) := cell_at hI 0
  have hSr := search60 ib sg (ls.length - 1) 12 (kOf (seps ls)) (vOf (seps ls)) k v w (by omega) ((hS.lt sg rfl).2) c0 (row_keys hS) (seps_mono hs hne)
  have hks : ∀ i, i < ls.length - 1 → k < kOf (seps ls) i := fun i hi => by
    have h2 : i + 1 < ls.length := by omega
    rw [seps_kOf (List.getElem?_eq_getElem h2)]
    obtain ⟨y, hy, hyk⟩ := kOf_mem (hne _ (List.getElem_mem h2))
    rw [← hyk]; exact hk y (List.mem_flatMap.2 ⟨_, List.getElem_mem h2, hy⟩)
  have hkl : ∀ i, i < l.ks.length → k < kOf l.ks i := fun i hi => by
    obtain ⟨y, hy, hyk⟩ := kOf_mem hi
    rw [← hyk]; exact hk y (List.mem_flatMap.2 ⟨_, List.mem_of_getElem? hl, hy⟩)
  have hlm := List.mem_of_getElem? hl
  have hsl := srt_kOf ((srt_flat hs).1 l hlm)
  have h611 := hsz l hlm
  have HI := Lib.hid hI; clear hI
  have HS := Lib.hid hS; clear hS
  have HNN := Lib.hid hNN; clear hNN
  have HC := Lib.hid hC; clear hC
  have HKS := Lib.hid hks; clear hks
  have HKL := Lib.hid hkl; clear hkl
  have HL := Lib.hid hl; clear hl
  have HSL := Lib.hid hsl; clear hsl
  have HSR := Lib.hid hSr; clear hSr
  clear hs hsz hk hne hlm c0
  go_enter Tryz.func167, Tryz.ntmps167
  go_wp2_with fail
  refine HSR.out.mono ?_
  rintro e w1 ⟨p, hp, h1, h2, rfl, hB⟩
  obtain rfl : p = 0 := by
    rcases Nat.eq_zero_or_pos p with h | h
    · exact h
    · exact absurd (h1 0 h) (by have := HKS.out 0 (by omega); omega)
  clear h1 h2 HSR
  have hk1 : Keeps (fun _ => False) w w1 := Keeps.of_new hB
  have hz := hB.size
  have HI1 := Lib.hid (hk1.heap HI.out (fun f => f))
  have HS1 := Lib.hid (hk1.row HS.out (fun _ _ f => f))
  have HN1 := Lib.hid (hk1.row HNN.out (fun _ _ f => f))
  have HK1 := Lib.hid hk1; clear hk1 hB
  have c10 : w1.cell? ⟨ib, 0, none⟩ = some (.slice (some ⟨sg, 0, none⟩) (ls.length - 1) 12) := cell_at HI1.out 0
  have c11 : w1.cell? ⟨ib, 1, none⟩ = some (.slice (some ⟨ng, 0, none⟩) ls.length 13) := cell_at HI1.out 1
  have c1n : w1.cell? ⟨ng, 0, none⟩ = some (.iface 146 (.pointer (some ⟨l.b, 0, none⟩))) := by
    rw [HN1.out.cellAt 0 (by omega), List.getElem?_map, HL.out]; rfl
  have c1s := row_keys HS1.out 0 (by omega)
  have hin : ((0 : Int) == ((ls.length - 1 : Nat) : Int)) = false := by simp; omega
  have hC := compare_any (kOf (seps ls) 0) (vOf (seps ls) 0) k v w1
  rw [cmpK_lt (HKS.out 0 (by omega))] at hC
  go_wp2_with fail
  refine hC.mono ?_
  rintro e w2 ⟨rfl, hB2⟩
  have hz2 := hB2.size
  clear hC c1s
  have HK2 := Lib.hid (HK1.out.new hB2)
  have c10 := (Keeps.of_new (F := fun _ => False) hB2).cell c10 (fun f => f)
  have c11 := (Keeps.of_new (F := fun _ => False) hB2).cell c11 (fun f => f)
  have c1n := (Keeps.of_new (F := fun _ => False) hB2).cell c1n (fun f => f)
  clear hB2
  have hL2 := (HC.out 0 l HL.out).keeps HK2.out (fun f => f) (fun f => f)
  have hF := leafFind _ l w2 k v hL2 (by omega) (by omega) HSL.out HKL.out
  have HF := Lib.hid hF; clear hF hL2
  go_wp2_with fail
  refine HF.out.mono ?_
  rintro e w3 ⟨it, rfl, h1, h2, h3⟩
  have H2 := Lib.hid h2; clear h2
  have H3 := Lib.hid h3; clear h3
  go_wp2_with fail
  go_ret
  exact ⟨it, rfl, by omega, H2.out, HK2.out.trans H3.out fun _ _ f => f⟩

/-- An iterator behind an interface. -/
def IterSet (lb : Nat) (p : Int) (w : World) (e : Ending) (w' : World) : Prop :=
  ∃ it : Nat, e = .returned (.iface 106 (.pointer (some ⟨it, 0, none⟩))) ∧ w.heap.size ≤ it ∧ w'.heap[it]? = some (.cells #[.pointer (some ⟨lb, 0, none⟩), .int .i64 p] 153 (0, 0)) ∧ Keeps (fun _ => False) w w'

set_option maxRecDepth 100000 in
set_option maxHeartbeats 400000 in
theorem iterOne (t : Nat) (l : Leaf) (k v : Int) (w : World) (h : POne w t l) (h0 : 0 < l.ks.length) (hk : ∀ x ∈ l.ks, k < x.1) :
    Calls Tryz.prog 17 #[.pointer (some ⟨t, 0, none⟩), .iface 84 (.agg #[.int .i64 k, .int .i64 v])] w (IterSet l.b (-1) w) := by
  obtain ⟨num, ht, hl, hd, hn, hs⟩ := h
  rw [flat_one] at hs
  have hkl : ∀ i, i < l.ks.length → k < kOf l.ks i := fun i hi => by
    obtain ⟨y, hy, hyk⟩ := kOf_mem hi
    rw [← hyk]; exact hk y hy
  have c0 : w.cell? ⟨t, 0, none⟩ = some (.iface 146 (.pointer (some ⟨l.b, 0, none⟩))) := cell_at ht 0
  have HF := Lib.hid (leafFind none l w k v hl h0 (by omega) (srt_kOf hs) hkl)
  clear ht hl hd hs hk hkl
  go_enter Tryz.func17, Tryz.ntmps17
  go_wp2_with fail
  refine HF.out.mono ?_
  rintro e w3 ⟨it, rfl, h1, h2, h3⟩
  have H2 := Lib.hid h2; clear h2
  have H3 := Lib.hid h3; clear h3
  go_wp2_with fail
  go_ret
  exact ⟨it, rfl, h1, H2.out, H3.out⟩

set_option maxRecDepth 100000 in
set_option maxHeartbeats 400000 in
theorem iterTwo (t ib sg ng : Nat) (ls : List Leaf) (l : Leaf) (k v : Int) (w : World) (h : PTwo w t ib sg ng ls) (hlen : ls.length ≤ 13) (hl : ls[0]? = some l) (hk : ∀ x ∈ flat ls, k < x.1) :
    Calls Tryz.prog 17 #[.pointer (some ⟨t, 0, none⟩), .iface 84 (.agg #[.int .i64 k, .int .i64 v])] w (IterSet l.b (-1) w) := by
  obtain ⟨num, ht, hN, hC, hd, hlen2, hsz, hs⟩ := h
  have c0 : w.cell? ⟨t, 0, none⟩ = some (.iface 204 (.pointer (some ⟨ib, 0, none⟩))) := cell_at ht 0
  have HF := Lib.hid (nodeFind ib sg ng ls l k v w hN hC hl hlen2 hlen hs hsz hk)
  clear ht hN hC hd hs hsz hk hl
  go_enter Tryz.func17, Tryz.ntmps17
  go_wp2_with fail
  refine HF.out.mono ?_
  rintro e w3 ⟨it, rfl, h1, h2, h3⟩
  have H2 := Lib.hid h2; clear h2
  have H3 := Lib.hid h3; clear h3
  go_wp2_with fail
  go_ret
  exact ⟨it, rfl, h1, H2.out, H3.out⟩

theorem iter17 (t : Nat) (fp : List Nat) (ls : List Leaf) (k v : Int) (w : World) (h : PTree w t fp ls) (h0 : flat ls ≠ []) (hlen : (flat ls).length ≤ 40) (hk : ∀ x ∈ flat ls, k < x.1) :
    ∃ l, ls[0]? = some l ∧ Calls Tryz.prog 17 #[.pointer (some ⟨t, 0, none⟩), .iface 84 (.agg #[.int .i64 k, .int .i64 v])] w (IterSet l.b (-1) w) := by
  rcases h with ⟨l, rfl, rfl, h⟩ | ⟨ib, sg, ng, rfl, h⟩
  · rw [flat_one] at h0 hk
    exact ⟨l, rfl, iterOne t l k v w h (List.length_pos_iff.2 h0) hk⟩
  · have h2 := h
    obtain ⟨num, ht, hN, hC, hd, hlen2, hsz, hs⟩ := h2
    have := flat_len (fun l hl => (hsz l hl).1)
    exact ⟨ls[0], List.getElem?_eq_getElem (by omega), iterTwo t ib sg ng ls _ k v w h (by omega) (List.getElem?_eq_getElem (by omega)) hk⟩
end Go.Proofs.YtegejfhomocloaaGreat

namespace Go.Proofs.YtegejfhomocloaaGreat
open Go.RowKit

/-- What a step of an iterator does: it stands before place q of a leaf of n keys, whose next is nx. -/
def NextSet (it lb : Nat) (nx : Option Addr) (n : Nat) (q : Int) (w : World) (e : Ending) (w' : World) : Prop :=
  e = .returned (.bool (decide (q + 1 < n) || nx.isSome)) ∧
    w'.heap[it]? = some (.cells (if q + 1 < n then #[.pointer (some ⟨lb, 0, none⟩), .int .i64 (q + 1)] else if nx.isSome then #[.pointer nx, .int .i64 0] else #[.pointer none, .int .i64 (-2)]) 153 (0, 0)) ∧ Keeps (fun x => x = it) w w'

set_option maxRecDepth 100000 in
set_option maxHeartbeats 400000 in
theorem next45 (it lb lg : Nat) (nx : Option Addr) (n : Nat) (q : Int) (w : World) (hI : w.heap[it]? = some (.cells #[.pointer (some ⟨lb, 0, none⟩), .int .i64 q] 153 (0, 0)))
    (hL : w.heap[lb]? = some (.cells #[.pointer nx, .slice (some ⟨lg, 0, none⟩) n 12] 199 (0, 0))) (hne : it ≠ lb) (hq0 : -1 ≤ q) (hq : q < n) (hn : n ≤ 12) :
    Calls Tryz.prog 45 #[.pointer (some ⟨it, 0, none⟩)] w (NextSet it lb nx n q w) := by
  have hwrap : IntKind.i64.wrap (q + 1) = q + 1 := IntWalk.i64_in _ (by omega)
  have c0 : w.cell? ⟨it, 1, none⟩ = some (.int .i64 q) := cell_at hI 1
  have f0 : w.frozen? ⟨it, 1, none⟩ = false := free_at hI 1
  have hI1 := heap_setCell_same w it 1 _ _ (.int .i64 (q + 1)) hI
  have hL1 := set_heap w ⟨it, 1, none⟩ (.int .i64 (q + 1)) hL hne.symm
  have hK1 : Keeps (fun x => x = it) w (w.setCell ⟨it, 1, none⟩ (.int .i64 (q + 1))) := (Keeps.refl _ _).setIn it 1 _ rfl
  have hz := hK1.size
  have H1 := Lib.hid hI1; clear hI1 hI
  have H2 := Lib.hid hL1; clear hL1 hL
  have H3 := Lib.hid hK1; clear hK1
  have hq2 : (q == (-2 : Int)) = false := by simp; omega
  have hitl := World.block_lt_of_cell? w _ c0
  go_enter Tryz.func45, Tryz.ntmps45
  go_wp2_with fail
  clear c0 f0
  generalize w.setCell ⟨it, 1, none⟩ (.int .i64 (q + 1)) = w1 at H1 H2 H3 hz ⊢
  have c10 : w1.cell? ⟨it, 0, none⟩ = some (.pointer (some ⟨lb, 0, none⟩)) := cell_at H1.out 0
  have f10 : w1.frozen? ⟨it, 0, none⟩ = false := free_at H1.out 0
  have f11 : w1.frozen? ⟨it, 1, none⟩ = false := free_at H1.out 1
  have c11 : w1.cell? ⟨it, 1, none⟩ = some (.int .i64 (q + 1)) := cell_at H1.out 1
  have c1l : w1.cell? ⟨lb, 1, none⟩ = some (.slice (some ⟨lg, 0, none⟩) n 12) := cell_at H2.out 1
  have c1n : w1.cell? ⟨lb, 0, none⟩ = some (.pointer nx) := cell_at H2.out 0
  by_cases hlt : q + 1 < (n : Int)
  · have hdec : decide ((n : Int) ≤ q + 1) = false := by simp; omega
    go_quiet (fail)
    go_wp2
    go_ret
    refine ⟨by simp [hlt], ?_, H3.out.drewN _⟩
    rw [if_pos hlt]; exact H1.out
  · have hdec : decide ((n : Int) ≤ q + 1) = true := by simp; omega
    go_quiet (fail)
    cases nx with
    | none =>
      go_wp2_with fail
      go_ret
      refine ⟨by simp [hlt], ?_, ((H3.out.drewN nq).setIn it 0 (.pointer none) rfl).setIn it 1 (.int .i64 (-2)) rfl⟩
      rw [if_neg (by omega)]
      exact heap_setCell_same _ it 1 _ _ _ (heap_setCell_same (w1.drewN nq) it 0 _ _ (.pointer none) H1.out)
    | some a =>
      go_wp2_with fail
      go_ret
      refine ⟨by simp, ?_, ((H3.out.drewN nq).setIn it 0 (.pointer (some a)) rfl).setIn it 1 (.int .i64 0) rfl⟩
      rw [if_neg (by omega)]
      exact heap_setCell_same _ it 1 _ _ _ (heap_setCell_same (w1.drewN nq) it 0 _ _ (.pointer (some a)) H1.out)

set_option maxRecDepth 100000 in
set_option maxHeartbeats 400000 in
theorem value46 (it : Nat) (l : Leaf) (nx : Option Nat) (q : Nat) (w : World) (hI : w.heap[it]? = some (.cells #[.pointer (some ⟨l.b, 0, none⟩), .int .i64 q] 153 (0, 0)))
    (hL : LeafRep w nx l) (hq : q < l.ks.length) (hn : l.ks.length ≤ 12) :
    Calls Tryz.prog 46 #[.pointer (some ⟨it, 0, none⟩)] w fun e w' => e = .returned (.iface 84 (.agg #[.int .i64 (kOf l.ks q), .int .i64 (vOf l.ks q)])) ∧ Below w.heap.size w w' := by
  obtain ⟨b, g, ks⟩ := l
  obtain ⟨hb, hrow⟩ := hL
  simp only at hb hrow hn hq hI ⊢
  obtain ⟨n, hnn⟩ : ∃ n, n = ks.length := ⟨_, rfl⟩
  rw [← hnn] at hb hrow hn hq
  have c0 : w.cell? ⟨it, 0, none⟩ = some (.pointer (some ⟨b, 0, none⟩)) := cell_at hI 0
  have c1 : w.cell? ⟨it, 1, none⟩ = some (.int .i64 q) := cell_at hI 1
  have c2 : w.cell? ⟨b, 1, none⟩ = some (.slice (some ⟨g, 0, none⟩) n 12) := cell_at hb 1
  have c3 := row_keys hrow q hq
  have hk := Keeps.refl (fun _ => False) w
  clear hb hrow hI hnn
  have hd1 : ((q : Int) == (-2 : Int)) = false := by rw [beq_eq_false_iff_ne]; omega
  have hd2 : decide ((q : Int) < 0) = false := by simp
  have hd3 : decide ((n : Int) ≤ (q : Int)) = false := by simp; omega
  go_enter Tryz.func46, Tryz.ntmps46
  go_wp2_with fail
  go_quiet (fail)
  go_wp2_with fail
  go_quiet (fail)
  go_wp2_with fail
  go_ret
  exact ⟨rfl, ((hk.drewN _).drewN _).below (Nat.le_refl _) (fun _ _ f => f)⟩
end Go.Proofs.YtegejfhomocloaaGreat
