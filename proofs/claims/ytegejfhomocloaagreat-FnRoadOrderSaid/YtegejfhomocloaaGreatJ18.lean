/- A part of the proof of FnRoadOrder: the five answers are the same; the rows that are being built. No conditions but those of the theorems. -/
import Derived.Test.YtegejfhomocloaaGreatJ17
import Derived.Test.YtegejfhomocloaaGreatJ9
import Derived.Test.YtegejfhomocloaaGreatJ10
set_option linter.all false
namespace Go.Proofs.YtegejfhomocloaaGreat
open Go.RowKit

theorem perm_unique {α : Type} {R : α → α → Prop} (hR : ∀ a b, R a b → R b a → a = b) : ∀ {l1 l2 : List α}, l1.Perm l2 → l1.Pairwise R → l2.Pairwise R → l1 = l2
  | [], l2, h, _, _ => h.nil_eq
  | a :: t1, [], h, _, _ => absurd h.length_eq (by simp)
  | a :: t1, b :: t2, h, h1, h2 => by
    have e : a = b := by
      by_cases e : a = b
      · exact e
      · have ha : a ∈ t2 := by
          have := h.mem_iff.1 (List.mem_cons_self (a := a) (l := t1))
          rcases List.mem_cons.1 this with h' | h'
          · exact absurd h' e
          · exact h'
        have hb : b ∈ t1 := by
          have := h.mem_iff.2 (List.mem_cons_self (a := b) (l := t2))
          rcases List.mem_cons.1 this with h' | h'
          · exact absurd h'.symm e
          · exact h'
        exact hR a b ((List.pairwise_cons.1 h1).1 b hb) ((List.pairwise_cons.1 h2).1 a ha)
    subst e
    rw [perm_unique hR (List.perm_cons a |>.1 h) (List.pairwise_cons.1 h1).2 (List.pairwise_cons.1 h2).2]

/-- The keys, each with its place. -/
def wordsOf (ks : List Nat) : List (Int × Int) := ks.zipIdx.map fun x => ((x.1 : Int), (x.2 : Int))
theorem wordsOf_length (ks : List Nat) : (wordsOf ks).length = ks.length := by simp [wordsOf]
theorem wordsOf_at {ks : List Nat} {j k : Nat} (h : ks[j]? = some k) : (wordsOf ks)[j]? = some ((k : Int), (j : Int)) := by
  simp [wordsOf, List.getElem?_map, List.getElem?_zipIdx, h]
theorem wordsOf_fst (ks : List Nat) : (wordsOf ks).map (·.1) = ks.map fun k : Nat => (k : Int) := by
  have h : ks.zipIdx.map Prod.fst = ks := by simp
  have h2 : (ks.zipIdx.map fun x => (x.1 : Int)) = (ks.zipIdx.map Prod.fst).map fun k : Nat => (k : Int) := by rw [List.map_map]; rfl
  rw [wordsOf, List.map_map]
  exact h2.trans (by rw [h])
theorem wordsOf_take {ks : List Nat} {j k : Nat} (h : ks[j]? = some k) : (wordsOf ks).take (j + 1) = (wordsOf ks).take j ++ [((k : Int), (j : Int))] := by
  have h2 := wordsOf_at h
  obtain ⟨hl, h3⟩ := List.getElem?_eq_some_iff.1 h2
  rw [List.take_succ_eq_append_getElem hl, h3]
theorem keys_take {ks : List Nat} {j k : Nat} (h : ks[j]? = some k) : (ks.take (j + 1)) = ks.take j ++ [k] := by
  obtain ⟨hl, h3⟩ := List.getElem?_eq_some_iff.1 h
  rw [List.take_succ_eq_append_getElem hl, h3]

def dotPair (d : Dot) : Int × Int := (d.k, d.v)
def ivPair (i : Iv) : Int × Int := (i.k, (i.id : Int) - 1)

/-- The five answers say the same. -/
structure Same (n : Nat) (pw : List (Int × Int)) (pd : List Dot) (pi : List Iv) (xs ts : List Int) : Prop where
  dots : pd.map dotPair = pw
  ivs : pi.map ivPair = pw
  bits : xs = pw.map (·.1)
  longs : ts = pw.map (·.1)
  len : pw.length = n
theorem all_same {ks : List Nat} {ds : List Dot} {ivs : List Iv} {pw : List (Int × Int)} {pd : List Dot} {pi : List Iv} {xs ts : List Int}
    (hd : ds.map dotPair = wordsOf ks) (hi : ivs.map ivPair = wordsOf ks)
    (w1 : pw.Perm (wordsOf ks)) (w2 : Srt pw) (d1 : pd.Perm ds) (d2 : DSrt pd) (i1 : pi.Perm ivs) (i2 : pi.Pairwise (fun x y => x.k < y.k))
    (x1 : xs.Perm (ks.map fun k : Nat => (k : Int))) (x2 : xs.Pairwise (· < ·)) (t1 : ts.Perm (ks.map fun k : Nat => (k : Int))) (t2 : ts.Pairwise (· ≤ ·)) : Same ks.length pw pd pi xs ts := by
  have hR : ∀ a b : Int × Int, a.1 < b.1 → b.1 < a.1 → a = b := fun a b h1 h2 => by omega
  have hI : ∀ a b : Int, a ≤ b → b ≤ a → a = b := fun a b h1 h2 => by omega
  have hw : (pw.map (·.1)).Perm (ks.map fun k : Nat => (k : Int)) := by rw [← wordsOf_fst]; exact w1.map _
  have hwp : (pw.map (·.1)).Pairwise (· ≤ ·) := List.pairwise_map.2 (w2.imp (fun h => Int.le_of_lt h))
  refine ⟨?_, ?_, ?_, ?_, ?_⟩
  · exact perm_unique hR (((d1.map dotPair).trans (by rw [hd])).trans w1.symm) (List.pairwise_map.2 (d2.imp (fun h => h))) w2
  · exact perm_unique hR (((i1.map ivPair).trans (by rw [hi])).trans w1.symm) (List.pairwise_map.2 (i2.imp (fun h => h))) w2
  · exact perm_unique hI (x1.trans hw.symm) (x2.imp (fun h => Int.le_of_lt h)) hwp
  · exact perm_unique hI (t1.trans hw.symm) t2 hwp
  · rw [w1.length_eq, wordsOf_length]
end Go.Proofs.YtegejfhomocloaaGreat

namespace Go.Proofs.YtegejfhomocloaaGreat
open Go.RowKit

/-- A block of one number. -/
def OneAt (w : World) (a : Nat) (k : Int) : Prop := w.heap[a]? = some (.cells #[.int .i64 k] 2 (0, 0))

/-- The rows that are being built, and the numbers' own blocks. -/
structure RR (B : Nat) (w : World) (n4 n5 n6 n7 n8 : Nat) (ws : List (Int × Int)) (ds : List Dot) (is : List Iv) (ls : List Int) (bs : List (Int × Nat)) (s4 s5 s6 s7 s8 : Value) : Prop where
  r4 : w.ownsRow B 34 2 s4 n4 (wordCells ws)
  r5 : w.ownsRow B 36 2 s5 n5 (dotCells ds)
  r6 : w.ownsRow B 38 3 s6 n6 (spanCells is)
  r7 : w.ownsRow B 2 1 s7 n7 (ls.map longV)
  r8 : w.ownsRow B 31 6 s8 n8 (bs.flatMap bitStep)
  dd : ∀ d ∈ ds, OneAt w d.a d.k ∧ s7.ownBlock ≠ some d.a
  ii : ∀ i ∈ is, (OneAt w i.la i.k ∧ s7.ownBlock ≠ some i.la) ∧ (OneAt w i.ha i.k ∧ s7.ownBlock ≠ some i.ha)

theorem two_rows {w : World} {B B' e e' s s' n n' : Nat} {v v' : Value} {xs xs' : List Value} (h : w.ownsRow B e s v n xs) (h' : w.ownsRow B' e' s' v' n' xs') (hne : e ≠ e') : ∀ b, v.ownBlock = some b → ¬ v'.ownBlock = some b := fun b hb hb' => by
  obtain ⟨c1, f1, h1⟩ := own_type h hb
  obtain ⟨c2, f2, h2⟩ := own_type h' hb'
  exact type_ne' h1 h2 hne rfl
theorem one_row {w : World} {B e s n a : Nat} {v : Value} {xs : List Value} {k : Int} (h : OneAt w a k) (h' : w.ownsRow B e s v n xs) (hne : e ≠ 2) : ¬ v.ownBlock = some a := fun hb => by
  obtain ⟨c2, f2, h2⟩ := own_type h' hb
  exact type_ne' h2 h hne rfl
theorem OneAt.lt {w : World} {a : Nat} {k : Int} (h : OneAt w a k) : a < w.heap.size := lt_of_block h

variable {B : Nat} {w w' : World} {n4 n5 n6 n7 n8 : Nat} {ws : List (Int × Int)} {ds : List Dot} {is : List Iv} {ls : List Int} {bs : List (Int × Nat)} {s4 s5 s6 s7 s8 : Value}

theorem RR.keeps (h : RR B w n4 n5 n6 n7 n8 ws ds is ls bs s4 s5 s6 s7 s8) (k : Keeps (fun _ => False) w w') : RR B w' n4 n5 n6 n7 n8 ws ds is ls bs s4 s5 s6 s7 s8 :=
  ⟨k.row h.r4 (fun _ _ f => f), k.row h.r5 (fun _ _ f => f), k.row h.r6 (fun _ _ f => f), k.row h.r7 (fun _ _ f => f), k.row h.r8 (fun _ _ f => f),
   fun d hd => ⟨k.heap (h.dd d hd).1 (fun f => f), (h.dd d hd).2⟩, fun i hi => ⟨⟨k.heap (h.ii i hi).1.1 (fun f => f), (h.ii i hi).1.2⟩, ⟨k.heap (h.ii i hi).2.1 (fun f => f), (h.ii i hi).2.2⟩⟩⟩
theorem grownK {w w' : World} {row : Option Nat} (hg : w.grownBy w' row) : Keeps (fun x => row = some x) w w' := Keeps.of_grown hg (fun _ hk _ => hk)
theorem RR.grow4 (h : RR B w n4 n5 n6 n7 n8 ws ds is ls bs s4 s5 s6 s7 s8) (hg : w.grownBy w' s4.ownBlock) {n : Nat} {s : Value} {ws' : List (Int × Int)} (hO : w'.ownsRow B 34 2 s n (wordCells ws')) : RR B w' n n5 n6 n7 n8 ws' ds is ls bs s s5 s6 s7 s8 := by
  have k := grownK hg
  exact ⟨hO, k.row h.r5 (two_rows h.r5 h.r4 (by decide)), k.row h.r6 (two_rows h.r6 h.r4 (by decide)), k.row h.r7 (two_rows h.r7 h.r4 (by decide)), k.row h.r8 (two_rows h.r8 h.r4 (by decide)),
    fun d hd => ⟨k.heap (h.dd d hd).1 (one_row (h.dd d hd).1 h.r4 (by decide)), (h.dd d hd).2⟩, fun i hi => ⟨⟨k.heap (h.ii i hi).1.1 (one_row (h.ii i hi).1.1 h.r4 (by decide)), (h.ii i hi).1.2⟩, ⟨k.heap (h.ii i hi).2.1 (one_row (h.ii i hi).2.1 h.r4 (by decide)), (h.ii i hi).2.2⟩⟩⟩
theorem RR.grow8 (h : RR B w n4 n5 n6 n7 n8 ws ds is ls bs s4 s5 s6 s7 s8) (hg : w.grownBy w' s8.ownBlock) {n : Nat} {s : Value} {bs' : List (Int × Nat)} (hO : w'.ownsRow B 31 6 s n (bs'.flatMap bitStep)) : RR B w' n4 n5 n6 n7 n ws ds is ls bs' s4 s5 s6 s7 s := by
  have k := grownK hg
  exact ⟨k.row h.r4 (two_rows h.r4 h.r8 (by decide)), k.row h.r5 (two_rows h.r5 h.r8 (by decide)), k.row h.r6 (two_rows h.r6 h.r8 (by decide)), k.row h.r7 (two_rows h.r7 h.r8 (by decide)), hO,
    fun d hd => ⟨k.heap (h.dd d hd).1 (one_row (h.dd d hd).1 h.r8 (by decide)), (h.dd d hd).2⟩, fun i hi => ⟨⟨k.heap (h.ii i hi).1.1 (one_row (h.ii i hi).1.1 h.r8 (by decide)), (h.ii i hi).1.2⟩, ⟨k.heap (h.ii i hi).2.1 (one_row (h.ii i hi).2.1 h.r8 (by decide)), (h.ii i hi).2.2⟩⟩⟩
/-- A dot more: its number's block is known. -/
theorem RR.grow5 (h : RR B w n4 n5 n6 n7 n8 ws ds is ls bs s4 s5 s6 s7 s8) (hg : w.grownBy w' s5.ownBlock) {n : Nat} {s : Value} {d : Dot} (hO : w'.ownsRow B 36 2 s n (dotCells ds ++ [.slice (some ⟨d.a, 0, none⟩) 1 1, .int .i64 d.v])) (hd : OneAt w d.a d.k) (hd7 : s7.ownBlock ≠ some d.a) : RR B w' n4 n n6 n7 n8 ws (ds ++ [d]) is ls bs s4 s s6 s7 s8 := by
  have k := grownK hg
  refine ⟨k.row h.r4 (two_rows h.r4 h.r5 (by decide)), ?_, k.row h.r6 (two_rows h.r6 h.r5 (by decide)), k.row h.r7 (two_rows h.r7 h.r5 (by decide)), k.row h.r8 (two_rows h.r8 h.r5 (by decide)),
    fun x hx => ?_, fun i hi => ⟨⟨k.heap (h.ii i hi).1.1 (one_row (h.ii i hi).1.1 h.r5 (by decide)), (h.ii i hi).1.2⟩, ⟨k.heap (h.ii i hi).2.1 (one_row (h.ii i hi).2.1 h.r5 (by decide)), (h.ii i hi).2.2⟩⟩⟩
  · rw [show dotCells (ds ++ [d]) = dotCells ds ++ [.slice (some ⟨d.a, 0, none⟩) 1 1, .int .i64 d.v] from List.flatMap_append]; exact hO
  · rcases List.mem_append.1 hx with hx | hx
    · exact ⟨k.heap (h.dd x hx).1 (one_row (h.dd x hx).1 h.r5 (by decide)), (h.dd x hx).2⟩
    · obtain rfl := List.mem_singleton.1 hx
      exact ⟨k.heap hd (one_row hd h.r5 (by decide)), hd7⟩
theorem RR.grow6 (h : RR B w n4 n5 n6 n7 n8 ws ds is ls bs s4 s5 s6 s7 s8) (hg : w.grownBy w' s6.ownBlock) {n : Nat} {s : Value} {i : Iv} (hO : w'.ownsRow B 38 3 s n (spanCells is ++ [.slice (some ⟨i.la, 0, none⟩) 1 1, .slice (some ⟨i.ha, 0, none⟩) 1 1, .int .u64 (i.id : Int)])) (hl : OneAt w i.la i.k) (hl7 : s7.ownBlock ≠ some i.la) (hh : OneAt w i.ha i.k) (hh7 : s7.ownBlock ≠ some i.ha) :
    RR B w' n4 n5 n n7 n8 ws ds (is ++ [i]) ls bs s4 s5 s s7 s8 := by
  have k := grownK hg
  refine ⟨k.row h.r4 (two_rows h.r4 h.r6 (by decide)), k.row h.r5 (two_rows h.r5 h.r6 (by decide)), ?_, k.row h.r7 (two_rows h.r7 h.r6 (by decide)), k.row h.r8 (two_rows h.r8 h.r6 (by decide)),
    fun d hd => ⟨k.heap (h.dd d hd).1 (one_row (h.dd d hd).1 h.r6 (by decide)), (h.dd d hd).2⟩, fun x hx => ?_⟩
  · rw [spanCells_append]; exact hO
  · rcases List.mem_append.1 hx with hx | hx
    · exact ⟨⟨k.heap (h.ii x hx).1.1 (one_row (h.ii x hx).1.1 h.r6 (by decide)), (h.ii x hx).1.2⟩, ⟨k.heap (h.ii x hx).2.1 (one_row (h.ii x hx).2.1 h.r6 (by decide)), (h.ii x hx).2.2⟩⟩
    · obtain rfl := List.mem_singleton.1 hx
      exact ⟨⟨k.heap hl (one_row hl h.r6 (by decide)), hl7⟩, ⟨k.heap hh (one_row hh h.r6 (by decide)), hh7⟩⟩
theorem RR.grow7 (h : RR B w n4 n5 n6 n7 n8 ws ds is ls bs s4 s5 s6 s7 s8) (hg : w.grownBy w' s7.ownBlock) {n g c : Nat} {ls' : List Int} (hO : w'.ownsRow B 2 1 (.slice (some ⟨g, 0, none⟩) n c) n (ls'.map longV)) (hat : s7.ownBlock = some g ∨ g = w.heap.size) :
    RR B w' n4 n5 n6 n n8 ws ds is ls' bs s4 s5 s6 (.slice (some ⟨g, 0, none⟩) n c) s8 := by
  have k := grownK hg
  have ap : ∀ a k', OneAt w a k' → s7.ownBlock ≠ some a → (Value.slice (some ⟨g, 0, none⟩) n c).ownBlock ≠ some a := fun a k' h1 h2 e => by
    have e' : g = a := Option.some.inj e
    rcases hat with h3 | h3
    · exact h2 (by rw [h3, e'])
    · have := h1.lt; omega
  exact ⟨k.row h.r4 (two_rows h.r4 h.r7 (by decide)), k.row h.r5 (two_rows h.r5 h.r7 (by decide)), k.row h.r6 (two_rows h.r6 h.r7 (by decide)), hO, k.row h.r8 (two_rows h.r8 h.r7 (by decide)),
    fun d hd => ⟨k.heap (h.dd d hd).1 (h.dd d hd).2, ap _ _ (h.dd d hd).1 (h.dd d hd).2⟩,
    fun i hi => ⟨⟨k.heap (h.ii i hi).1.1 (h.ii i hi).1.2, ap _ _ (h.ii i hi).1.1 (h.ii i hi).1.2⟩, ⟨k.heap (h.ii i hi).2.1 (h.ii i hi).2.2, ap _ _ (h.ii i hi).2.1 (h.ii i hi).2.2⟩⟩⟩
theorem RR.lt7 (h : RR B w n4 n5 n6 n7 n8 ws ds is ls bs s4 s5 s6 s7 s8) {a : Nat} (ha : w.heap.size ≤ a) : s7.ownBlock ≠ some a := fun e => by
  have := (h.r7.lt a e).2; omega
theorem wordCells_append (xs ys : List (Int × Int)) : wordCells (xs ++ ys) = wordCells xs ++ wordCells ys := List.flatMap_append
theorem keys_nodup {ks : List Nat} (h : ks.Nodup) : (ks.map fun k : Nat => (k : Int)).Nodup := List.pairwise_map.2 (h.imp (fun hne e => hne (Int.ofNat.inj e)))
theorem wordsOf_mem {ks : List Nat} {x : Int × Int} (h : x ∈ wordsOf ks) : ∃ k ∈ ks, x.1 = (k : Int) := by
  have : x.1 ∈ (wordsOf ks).map (·.1) := List.mem_map_of_mem h
  rw [wordsOf_fst] at this
  obtain ⟨k, hk, e⟩ := List.mem_map.1 this
  exact ⟨k, hk, e.symm⟩
theorem wordsOf_snd {ks : List Nat} : (wordsOf ks).map (·.2) = (List.range ks.length).map fun i : Nat => (i : Int) := by
  have h2 : ((wordsOf ks).map (·.2)) = (ks.zipIdx.map Prod.snd).map fun i : Nat => (i : Int) := by rw [wordsOf, List.map_map, List.map_map]; rfl
  rw [h2, List.zipIdx_map_snd, List.range_eq_range']
theorem dots_keys {ks : List Nat} {ds : List Dot} (h : ds.map dotPair = wordsOf ks) : ds.map (·.k) = ks.map fun k : Nat => (k : Int) := by
  have : ds.map (·.k) = (ds.map dotPair).map (·.1) := by rw [List.map_map]; rfl
  rw [this, h, wordsOf_fst]
theorem ivs_keys {ks : List Nat} {is : List Iv} (h : is.map ivPair = wordsOf ks) : is.map (·.k) = ks.map fun k : Nat => (k : Int) := by
  have : is.map (·.k) = (is.map ivPair).map (·.1) := by rw [List.map_map]; rfl
  rw [this, h, wordsOf_fst]
theorem dots_range {ks : List Nat} {ds : List Dot} (h : ds.map dotPair = wordsOf ks) (hk : ∀ k ∈ ks, k ≤ 65535) : ∀ d ∈ ds, 0 ≤ d.k ∧ d.k ≤ 65535 := fun d hd => by
  have : d.k ∈ ds.map (·.k) := List.mem_map_of_mem hd
  rw [dots_keys h] at this
  obtain ⟨k, hk', e⟩ := List.mem_map.1 this
  have := hk k hk'
  omega
theorem ivs_range {ks : List Nat} {is : List Iv} (h : is.map ivPair = wordsOf ks) (hk : ∀ k ∈ ks, k ≤ 65535) : ∀ d ∈ is, InR d.k := fun d hd => by
  have : d.k ∈ is.map (·.k) := List.mem_map_of_mem hd
  rw [ivs_keys h] at this
  obtain ⟨k, hk', e⟩ := List.mem_map.1 this
  have := hk k hk'
  exact ⟨by omega, by omega⟩
theorem ivs_ids {ks : List Nat} {is : List Iv} (h : is.map ivPair = wordsOf ks) : (is.map (·.id)).Nodup := by
  have h1 : is.map (fun i => (i.id : Int) - 1) = (List.range ks.length).map fun i : Nat => (i : Int) := by
    rw [← wordsOf_snd, ← h, List.map_map]; rfl
  have h2 : (is.map (fun i => (i.id : Int) - 1)).Nodup := by rw [h1]; exact keys_nodup List.nodup_range
  have h3 := List.pairwise_map.1 h2
  exact List.pairwise_map.2 (h3.imp (fun hne e => hne (by rw [e])))
theorem RR.dots (h : RR B w n4 n5 n6 n7 n8 ws ds is ls bs s4 s5 s6 s7 s8) : DotsAt w ds := fun d hd => cell_at (h.dd d hd).1 0
theorem RR.ivok (h : RR B w n4 n5 n6 n7 n8 ws ds is ls bs s4 s5 s6 s7 s8) (hr : ∀ d ∈ is, InR d.k) : ∀ i ∈ is, IvOK w.heap.size w i := fun i hi => ⟨⟨cell_at (h.ii i hi).1.1 0, cell_at (h.ii i hi).2.1 0⟩, hr i hi, (h.ii i hi).1.1.lt, (h.ii i hi).2.1.lt⟩
/-- One place of the five answers. -/
theorem Same.at' {n : Nat} {ks : List Nat} {pw : List (Int × Int)} {pd : List Dot} {pi : List Iv} {xs ts : List Int} (h : Same n pw pd pi xs ts) (hp : pw.Perm (wordsOf ks)) (hk : ∀ k ∈ ks, k ≤ 65535) {i : Nat} (hi : i < n) :
    ∃ (k v : Nat) (d : Dot) (x : Iv), k ≤ 65535 ∧ v < ks.length ∧ pw[i]? = some ((k : Int), (v : Int)) ∧ (pd[i]? = some d ∧ d.k = (k : Int) ∧ d.v = (v : Int)) ∧ (pi[i]? = some x ∧ x.k = (k : Int) ∧ x.id = v + 1) ∧ xs[i]? = some (k : Int) ∧ ts[i]? = some (k : Int) := by
  have hil : i < pw.length := by rw [h.len]; exact hi
  have hx : pw[i]? = some pw[i] := List.getElem?_eq_getElem hil
  have hm : pw[i] ∈ wordsOf ks := hp.mem_iff.1 (List.getElem_mem hil)
  obtain ⟨a, ha, e⟩ := List.getElem_of_mem hm
  have hal : a < ks.length := by rw [← wordsOf_length]; exact ha
  have h2 := wordsOf_at (List.getElem?_eq_getElem hal)
  rw [List.getElem?_eq_getElem ha, e] at h2
  have h3 := Option.some.inj h2
  have hd : (pd.map dotPair)[i]? = some pw[i] := by rw [h.dots]; exact hx
  have hv : (pi.map ivPair)[i]? = some pw[i] := by rw [h.ivs]; exact hx
  have hb : xs[i]? = some pw[i].1 := by rw [h.bits, List.getElem?_map, hx]; rfl
  have ht : ts[i]? = some pw[i].1 := by rw [h.longs, List.getElem?_map, hx]; rfl
  rw [List.getElem?_map] at hd hv
  obtain ⟨d, hd1, hd2⟩ := Option.map_eq_some_iff.1 hd
  obtain ⟨x, hv1, hv2⟩ := Option.map_eq_some_iff.1 hv
  rw [h3] at hd2 hv2 hb ht hx
  have e1 : d.k = (ks[a] : Int) := congrArg Prod.fst hd2
  have e2 : d.v = (a : Int) := congrArg Prod.snd hd2
  have e3 : x.k = (ks[a] : Int) := congrArg Prod.fst hv2
  have e4 : (x.id : Int) - 1 = (a : Int) := congrArg Prod.snd hv2
  exact ⟨ks[a], a, d, x, hk _ (List.getElem_mem hal), hal, hx, ⟨hd1, e1, e2⟩, ⟨hv1, e3, by omega⟩, hb, ht⟩
end Go.Proofs.YtegejfhomocloaaGreat
