/- A part of the proof of FnRoadOrder: the keys that are taken, each once. No conditions but those of the theorems. -/
import Derived.Test.YtegejfhomocloaaGreatJ9
import Derived.Deep.AppendSrc
import Derived.Laws.OwnMore
set_option linter.all false
namespace Go.Proofs.YtegejfhomocloaaGreat
open Go.RowKit

/-- The first place whose number is not less. -/
def FirstAt (xs : List Int) (k : Int) (p : Nat) : Prop := p ≤ xs.length ∧ (∀ i, i < p → uOf xs i < k) ∧ (p < xs.length → k ≤ uOf xs p)

set_option maxRecDepth 100000 in
set_option maxHeartbeats 400000 in
theorem baAt26 (B n : Nat) (v : Value) (xs : List Int) (k : Int) (w : World) (hO : w.ownsRow B 25 1 v n (xs.map u64V)) (hn : xs.length = n) (hlen : n ≤ 100) :
    Calls Tryz.prog 26 #[v, .int .u64 k] w fun e w' => ∃ p : Nat, FirstAt xs k p ∧ e = .returned (.int .i64 p) ∧ w' = w := by
  rw [← hn] at hO
  obtain ⟨vp, vc, rfl, hc⟩ := u64_cells hO
  rw [hn] at hc ⊢
  have HC := Lib.hid hc; clear hc
  have HN := Lib.hid hn; clear hn hO
  go_enter Tryz.func26, Tryz.ntmps26
  go_wp2_with fail
  go_loopg [5] n (fun kx s5 wr => ∃ j : Nat, s5 = .int .i64 j ∧ j ≤ n ∧ n - j ≤ kx ∧ Hid (∀ i, i < j → uOf xs i < k) ∧ wr = w)
  case atStart => exact ⟨0, rfl, Nat.zero_le _, by omega, fun i hi => absurd hi (Nat.not_lt_zero _), rfl⟩
  case round =>
    obtain ⟨j, rfl, hj, hgk, hI, rfl⟩ := hrel
    by_cases hlt : j < n
    · obtain ⟨g, hg, cg⟩ := HC.out j hlt
      subst hg
      have hdj : decide ((j : Int) < (n : Int)) = true := by simp; omega
      by_cases hk : uOf xs j < k
      · have hd : decide (uOf xs j < k) = true := by simp [hk]
        have HI2 : Hid (∀ i, i < j + 1 → uOf xs i < k) := fun i hi => by
          rcases Nat.lt_or_ge i j with h | h
          · exact hI.out i h
          · obtain rfl : i = j := by omega
            exact hk
        clear hk
        go_wp2_with fail
        go_roundg (n - (j + 1))
        case measure => omega
        case rel => exact ⟨j + 1, by go_num, by omega, Nat.le_refl _, HI2, rfl⟩
      · have hd : decide (uOf xs j < k) = false := by simp; omega
        have HK : Hid (k ≤ uOf xs j) := by show k ≤ uOf xs j; omega
        clear hk
        go_wp2_with fail
        go_ret
        exact ⟨j, ⟨by rw [HN.out]; omega, hI.out, fun _ => HK.out⟩, rfl, rfl⟩
    · obtain rfl : j = n := by omega
      have hdj : decide ((j : Int) < (j : Int)) = false := by simp
      go_wp2_with fail
      go_ret
      exact ⟨j, ⟨by rw [HN.out]; omega, hI.out, fun h => by rw [HN.out] at h; omega⟩, rfl, rfl⟩
end Go.Proofs.YtegejfhomocloaaGreat

namespace Go.Proofs.YtegejfhomocloaaGreat
open Go.RowKit

def UAsc (xs : List Int) : Prop := xs.Pairwise (· < ·)

theorem uOf_mem {xs : List Int} {i : Nat} (h : i < xs.length) : uOf xs i ∈ xs := List.mem_of_getElem? (uOf_getElem h)
theorem mem_uOf {xs : List Int} {k : Int} (h : k ∈ xs) : ∃ i, i < xs.length ∧ uOf xs i = k := by
  obtain ⟨i, hi, rfl⟩ := List.getElem_of_mem h
  exact ⟨i, hi, by rw [uOf, List.getD_eq_getElem?_getD, List.getElem?_eq_getElem hi]; rfl⟩
theorem asc_uOf {xs : List Int} (h : UAsc xs) : ∀ i j, i < j → j < xs.length → uOf xs i < uOf xs j := fun i j hij hj => by
  have := List.pairwise_iff_getElem.1 h i j (by omega) hj hij
  rw [uOf, uOf, List.getD_eq_getElem?_getD, List.getD_eq_getElem?_getD, List.getElem?_eq_getElem hj, List.getElem?_eq_getElem (show i < xs.length by omega)]
  exact this
theorem first_mem {xs : List Int} {k : Int} {p : Nat} (hs : UAsc xs) (h : FirstAt xs k p) : k ∈ xs ↔ p < xs.length ∧ uOf xs p = k := by
  obtain ⟨h1, h2, h3⟩ := h
  constructor
  · intro hk
    obtain ⟨i, hi, rfl⟩ := mem_uOf hk
    have hpi : p ≤ i := by
      rcases Nat.lt_or_ge i p with h | h
      · have := h2 i h; omega
      · exact h
    have hpl : p < xs.length := by omega
    refine ⟨hpl, ?_⟩
    have h4 := h3 hpl
    rcases Nat.lt_or_ge p i with h | h
    · have := asc_uOf hs p i h hi; omega
    · rw [show p = i by omega]
  · rintro ⟨hp, rfl⟩
    exact uOf_mem hp

set_option maxRecDepth 100000 in
set_option maxHeartbeats 400000 in
theorem has10 (B n : Nat) (v : Value) (xs : List Int) (k : Int) (w : World) (hO : w.ownsRow B 25 1 v n (xs.map u64V)) (hn : xs.length = n) (hlen : n ≤ 100) (hs : UAsc xs) :
    Calls Tryz.prog 10 #[v, .int .u64 k] w fun e w' => ∃ b : Bool, (b = true ↔ k ∈ xs) ∧ e = .returned (.bool b) ∧ w' = w := by
  have HA := Lib.hid (baAt26 B n v xs k w hO hn hlen)
  rw [← hn] at hO
  obtain ⟨vp, vc, rfl, hc⟩ := u64_cells hO
  rw [hn] at hc HA ⊢
  have HC := Lib.hid hc; clear hc
  have HN := Lib.hid hn; clear hn hO
  have HS := Lib.hid hs; clear hs
  go_enter Tryz.func10, Tryz.ntmps10
  go_wp2_with fail
  refine HA.out.mono ?_
  rintro e w1 ⟨p, hp, rfl, rfl⟩
  have HM := Lib.hid (first_mem HS.out hp)
  have hpn : p ≤ n := by rw [← HN.out]; exact hp.1
  clear hp HA
  by_cases hlt : p < n
  · obtain ⟨g, hg, cg⟩ := HC.out p hlt
    subst hg
    have hdj : decide ((p : Int) < (n : Int)) = true := by simp; omega
    obtain ⟨b, hb⟩ : ∃ b : Bool, (uOf xs p == k) = b := ⟨_, rfl⟩
    go_wp2_with fail
    go_ret
    refine ⟨b, ?_, rfl, rfl⟩
    rw [HM.out, HN.out, ← hb]
    simp [hlt]
  · have hdj : decide ((p : Int) < (n : Int)) = false := by simp; omega
    go_wp2_with fail
    go_ret
    refine ⟨false, ?_, rfl, rfl⟩
    rw [HM.out, HN.out]
    simp [hlt]

end Go.Proofs.YtegejfhomocloaaGreat

namespace Go.Proofs.YtegejfhomocloaaGreat
open Go.RowKit

/-- What is appended: nothing, or cells behind an address. -/
def Source (w : World) (x : Value) (m : Nat) (news : List Value) : Prop :=
  (x = .slice none 0 0 ∧ m = 0 ∧ news = []) ∨ (∃ ad c, x = .slice (some ad) m c ∧ news.length = m ∧ (∀ j u, news[j]? = some u → w.cell? (ad.add j) = some u) ∧ ∀ u ∈ news, u.oneCell' = true)

section
variable {P : Program}
theorem run_append_source (w : World) (t ty e : TypeId) (i : TypeInfo) (z : Value) (ht : P.underlying t = some (.slice e)) (hi : P.info? e = some i) (hz : i.zero = some z) (hs1 : i.size = 1) (hb8 : i.bytes = 8) (hzc : z.cells.size = 1)
    (base n : Nat) (v : Value) (xs : List Value) (hown : w.ownsRow base e 1 v n xs) (x : Value) (m : Nat) (news : List Value) (hs : Source w x m news) (hnm : n + m ≤ 1000) (hbase : base ≤ w.heap.size) :
    ∃ v' w', (Builtin.append_ #[t, t] ty #[v, x]).run P w = .ok v' w' ∧ w'.ownsRow base e 1 v' (n + m) (xs ++ news) ∧ w.grownBy w' v.ownBlock ∧ (v'.ownBlock = v.ownBlock ∨ v'.ownBlock = some w.heap.size) := by
  rcases hs with ⟨rfl, rfl, rfl⟩ | ⟨ad, c, rfl, hl, hnews, h1⟩
  · refine ⟨v, w, run_append_owned_none (P := P) (w := w) base t ty e i 1 ht hi v n xs hown, by rw [Nat.add_zero, List.append_nil]; exact hown, ⟨rfl, rfl, rfl, Nat.le_refl _, fun _ _ _ => rfl⟩, .inl rfl⟩
  · obtain ⟨v', w', hr, h2, h3, _, h5⟩ := run_append_own_at (P := P) w base t ty e i z 1 8 ht hi hz hs1 hb8 hzc (by omega) v n xs hown ad m c news (by omega) hnews h1 (by simp only [maxLen]; omega) (by omega) hbase
    exact ⟨v', w', hr, h2, h3, h5⟩

theorem wp_append_source {w : World} {o : Oper} {a : Act} {K : Act → World → Prop} {Q : Exit → Act → World → Prop} (s y : Operand) (t : TypeId)
    (ho : o.op = .call { callee := .builtin .append, args := #[s, y], argTypes := #[t, t] })
    (e : TypeId) (i : TypeInfo) (z : Value) (ht : P.underlying t = some (.slice e)) (hi : P.info? e = some i) (hz : i.zero = some z) (hs1 : i.size = 1) (hb8 : i.bytes = 8) (hzc : z.cells.size = 1)
    (base n : Nat) (v : Value) (xs : List Value) (hsv : a.eval s = v) (hown : w.ownsRow base e 1 v n xs) (x : Value) (m : Nat) (news : List Value) (hxv : a.eval y = x) (hs : Source w x m news) (hnm : n + m ≤ 1000) (hbase : base ≤ w.heap.size)
    (h : ∀ v' w', w'.ownsRow base e 1 v' (n + m) (xs ++ news) → w.grownBy w' v.ownBlock → (v'.ownBlock = v.ownBlock ∨ v'.ownBlock = some w.heap.size) → K (a.put o.dst v') w') : o.wp P a w K Q := by
  obtain ⟨v', w', hr, h2, h3, h4⟩ := run_append_source (P := P) w t o.type e i z ht hi hz hs1 hb8 hzc base n v xs hown x m news hs hnm hbase
  unfold Oper.wp execOp
  simp only [ho, resolve, invoke, builtin, Sem.run_bind, Sem.run_pure, Result.andThen_ok, List.map_toArray, List.map_cons, List.map_nil, hsv, hxv, hr]
  exact h v' w' h2 h3 h4

theorem wpList_append_source {w : World} {ops : Array Oper} {rest : List Oper} {o : Oper} {a : Act} {Q : Exit → Act → World → Prop} (hgd : o.guard = none) (s y : Operand) (t : TypeId)
    (ho : o.op = .call { callee := .builtin .append, args := #[s, y], argTypes := #[t, t] })
    (e : TypeId) (i : TypeInfo) (z : Value) (ht : P.underlying t = some (.slice e)) (hi : P.info? e = some i) (hz : i.zero = some z) (hs1 : i.size = 1) (hb8 : i.bytes = 8) (hzc : z.cells.size = 1)
    (base n : Nat) (v : Value) (xs : List Value) (hsv : a.eval s = v) (hown : w.ownsRow base e 1 v n xs) (x : Value) (m : Nat) (news : List Value) (hxv : a.eval y = x) (hs : Source w x m news) (hnm : n + m ≤ 1000) (hbase : base ≤ w.heap.size)
    (h : ∀ v' w', w'.ownsRow base e 1 v' (n + m) (xs ++ news) → w.grownBy w' v.ownBlock → (v'.ownBlock = v.ownBlock ∨ v'.ownBlock = some w.heap.size) → wpList P ops Q rest (a.put o.dst v') w') : wpList P ops Q (o :: rest) a w :=
  wpList_plain hgd fun _ hK => wp_append_source s y t ho e i z ht hi hz hs1 hb8 hzc base n v xs hsv hown x m news hxv hs hnm hbase fun v' w' h2 h3 h4 => hK _ _ (h v' w' h2 h3 h4)

theorem step_append_source {w : World} {ops : Array Oper} {o : Oper} {a : Act} {K : Act → World → Prop} {Q : Exit → Act → World → Prop} {E : Prop} (hgd : o.guard = none) (s y : Operand) (t : TypeId)
    (ho : o.op = .call { callee := .builtin .append, args := #[s, y], argTypes := #[t, t] })
    (e : TypeId) (i : TypeInfo) (z : Value) (ht : P.underlying t = some (.slice e)) (hi : P.info? e = some i) (hz : i.zero = some z) (hs1 : i.size = 1) (hb8 : i.bytes = 8) (hzc : z.cells.size = 1)
    (base n : Nat) (v : Value) (xs : List Value) (hsv : a.eval s = v) (hown : w.ownsRow base e 1 v n xs) (x : Value) (m : Nat) (news : List Value) (hxv : a.eval y = x) (hs : Source w x m news) (hnm : n + m ≤ 1000) (hbase : base ≤ w.heap.size)
    (h : ∀ v' w', w'.ownsRow base e 1 v' (n + m) (xs ++ news) → w.grownBy w' v.ownBlock → (v'.ownBlock = v.ownBlock ∨ v'.ownBlock = some w.heap.size) → K (a.put o.dst v') w') :
    if Region.wanted o (yielded ops a.tmps) = true then Oper.wp P o a w K Q else E := by
  have hw : Region.wanted o (yielded ops a.tmps) = true := by simp [Region.wanted, hgd]
  rw [if_pos hw]
  exact wp_append_source s y t ho e i z ht hi hz hs1 hb8 hzc base n v xs hsv hown x m news hxv hs hnm hbase h
end
end Go.Proofs.YtegejfhomocloaaGreat

namespace Go.Proofs.YtegejfhomocloaaGreat
open Go.RowKit

/-- A number put into an ascending row: a new row, or the old one where it is there already. -/
def UPut (v : Value) (n : Nat) (xs : List Int) (k : Int) (w : World) (e : Ending) (w' : World) : Prop :=
  ∃ v' xs', e = .returned v' ∧ UAsc xs' ∧ (∀ y, y ∈ xs' ↔ y ∈ xs ∨ y = k) ∧ xs'.length ≤ n + 1 ∧ w'.ownsRow 0 25 1 v' xs'.length (xs'.map u64V) ∧ (∀ y, v'.ownBlock = some y → v.ownBlock = some y ∨ w.heap.size ≤ y) ∧ Keeps (fun _ => False) w w'

theorem empty_row (w : World) : (w.alloc (.cells #[] 25)).ownsRow w.heap.size 25 1 (.slice (some ⟨w.heap.size, 0, none⟩) 0 0) 0 [] :=
  ownsUp (row_made (heap_alloc_new w (.cells #[] 25)) 0 0 (by simp) (Nat.le_refl _) (by simp [maxLen])) (fun y hy => Nat.le_of_eq (Option.some.inj hy))

theorem asc_put {xs : List Int} {k : Int} {p : Nat} (hs : UAsc xs) (hp : FirstAt xs k p) (hk : k ∉ xs) : UAsc (ins xs p k) ∧ (∀ y, y ∈ ins xs p k ↔ y ∈ xs ∨ y = k) ∧ (ins xs p k).length = xs.length + 1 := by
  obtain ⟨h1, h2, h3⟩ := hp
  refine ⟨?_, fun y => ?_, ins_length _ _ _ h1⟩
  · unfold UAsc ins
    have h' : UAsc (xs.take p ++ xs.drop p) := by rw [List.take_append_drop]; exact hs
    obtain ⟨a, b, c⟩ := List.pairwise_append.1 h'
    have hd : ∀ y ∈ xs.drop p, k < y := fun y hy => by
      obtain ⟨j, hj, rfl⟩ := List.getElem_of_mem hy
      rw [List.length_drop] at hj
      have hpl : p < xs.length := by omega
      have h4 := h3 hpl
      have h5 : uOf xs p ≠ k := fun e => hk (e ▸ uOf_mem hpl)
      rw [List.getElem_drop]
      have h6 : uOf xs (p + j) = xs[p + j] := by rw [uOf, List.getD_eq_getElem?_getD, List.getElem?_eq_getElem (by omega)]; rfl
      rw [← h6]
      rcases Nat.eq_zero_or_pos j with h | h
      · subst h; simp only [Nat.add_zero]; omega
      · have := asc_uOf hs p (p + j) (by omega) (by omega); omega
    refine List.pairwise_append.2 ⟨a, List.pairwise_cons.2 ⟨hd, b⟩, fun x hx y hy => ?_⟩
    rcases List.mem_cons.1 hy with rfl | hy
    · obtain ⟨j, hj, rfl⟩ := List.getElem_of_mem hx
      rw [List.length_take] at hj
      have := h2 j (by omega)
      rw [uOf, List.getD_eq_getElem?_getD, List.getElem?_eq_getElem (by omega)] at this
      rw [List.getElem_take]; exact this
    · exact c x hx y hy
  · rw [(ins_perm xs p k).mem_iff, List.mem_cons]; exact or_comm

set_option maxRecDepth 100000 in
set_option maxHeartbeats 800000 in
theorem put11 (B n : Nat) (v : Value) (xs : List Int) (k : Int) (w : World) (hO : w.ownsRow B 25 1 v n (xs.map u64V)) (hn : xs.length = n) (hlen : n ≤ 100) (hs : UAsc xs) :
    Calls Tryz.prog 11 #[v, .int .u64 k] w (UPut v n xs k w) := by
  obtain ⟨i0, hi0, hiz, his, hib⟩ := info_parts info25
  have HH := Lib.hid (has10 B n v xs k w hO hn hlen hs)
  have HA := Lib.hid (baAt26 B n v xs k w hO hn hlen)
  have HO := Lib.hid hO
  obtain ⟨vp, vc, rfl⟩ := ownsSlice hO
  have HN := Lib.hid hn; clear hn hO
  have HS := Lib.hid hs; clear hs
  go_enter Tryz.func11, Tryz.ntmps11
  go_wp2_with fail
  refine HH.out.mono ?_
  rintro e w1 ⟨b, hb, rfl, rfl⟩
  clear HH
  cases b with
  | true =>
    have hk := hb.1 rfl
    have HK := Lib.hid hk; clear hk hb
    go_wp2_with fail
    go_ret
    have hk := HK.out
    exact ⟨.slice vp n vc, xs, rfl, HS.out, fun y => ⟨.inl, fun h => h.elim id (fun e => e ▸ hk)⟩, by rw [HN.out]; omega, by rw [HN.out]; exact ownsBase HO.out, fun y hy => .inl hy, Keeps.refl _ _⟩
  | false =>
    have hkn : k ∉ xs := fun h => by have := hb.2 h; cases this
    have HKN := Lib.hid hkn; clear hkn hb
    go_wp2_with fail
    refine HA.out.mono ?_
    rintro e w2 ⟨p, hp, rfl, rfl⟩
    have hpn : p ≤ n := by rw [← HN.out]; exact hp.1
    have HP := Lib.hid hp; clear hp HA
    rcases HO.out.2 with ⟨hv, h0⟩ | ⟨g, cap, cur, hv, _, _, hnc, hcm, _, _⟩
    · injection hv with e1 _ e3
      subst e1 e3
      subst h0
      obtain rfl : p = 0 := by omega
      have hx0 : xs = [] := List.eq_nil_of_length_eq_zero HN.out
      have HX0 := Lib.hid hx0; clear hx0
      go_wp2_with (at_builtin; refine wpList_append_source rfl (.tmp 14) (.tmp 17) 23 rfl 25 i0 _ Tryz.underlying23 hi0 hiz his hib rfl w2.heap.size 0 (.slice (some ⟨w2.heap.size, 0, none⟩) 0 0) [] rfl (empty_row w2) (.slice none 0 0) 0 [] rfl (.inl ⟨rfl, rfl, rfl⟩) (by omega) (by simp) ?_; intro v3 w3 hO3 hg3 hv3; have HO3 := Lib.hid hO3; have HG3 := Lib.hid hg3; have HV3 := Lib.hid hv3; clear hO3 hg3 hv3)
      have hs3 : w2.heap.size ≤ w3.heap.size := Nat.le_trans (by simp) HG3.out.size
      go_region_held3 (fun _ => True) (trivial)
        (first
          | ((refine step_append_source (by rfl) (.tmp 19) (.tmp 21) 23 (by rfl) 25 i0 _ Tryz.underlying23 hi0 hiz his hib (by rfl) w2.heap.size 0 v3 ([] ++ []) (by rfl) (HO3.out.alloc _) (.slice (some ⟨w3.heap.size, 0, none⟩) 1 1) 1 [.int .u64 k] (by rfl) (.inr ⟨_, _, rfl, rfl, news1 (heap_alloc_new w3 _), one_of rfl⟩) (by omega) (by simp; omega) ?_); intro v4 w4 hO4 hg4 hv4; have HO4 := Lib.hid hO4; have HG4 := Lib.hid hg4; have HV4 := Lib.hid hv4; clear hO4 hg4 hv4)
          | ((refine step_append_source (by rfl) (.tmp 22) (.tmp 25) 23 (by rfl) 25 i0 _ Tryz.underlying23 hi0 hiz his hib (by rfl) w2.heap.size (0 + 1) v4 (([] ++ []) ++ [.int .u64 k]) (by rfl) HO4.out (.slice none 0 0) 0 [] (by rfl) (.inl ⟨rfl, rfl, rfl⟩) (by omega) (Nat.le_trans hs3 (Nat.le_trans (by simp) HG4.out.size)) ?_); intro v5 w5 hO5 hg5 hv5; have HO5 := Lib.hid hO5; have HG5 := Lib.hid hg5; have HV5 := Lib.hid hv5; clear hO5 hg5 hv5))
      go_wp2_with fail
      go_ret
      have K3 : Keeps (fun _ => False) w2 w3 := ((Keeps.refl _ w2).alloc _).grown HG3.out (fun b hb hlt => by have : w2.heap.size = b := Option.some.inj hb; omega)
      have K4 : Keeps (fun _ => False) w2 w4 := by
        first
          | exact (((K3.alloc _).drew).grown HG4.out (fun b hb hlt => absurd (HO3.out.lt b hb).1 (Nat.not_le.2 hlt)))
          | exact (((K3.drew).alloc _).grown HG4.out (fun b hb hlt => absurd (HO3.out.lt b hb).1 (Nat.not_le.2 hlt)))
          | exact ((K3.alloc _).grown HG4.out (fun b hb hlt => absurd (HO3.out.lt b hb).1 (Nat.not_le.2 hlt)))
      have K5 : Keeps (fun _ => False) w2 w5 := K4.grown HG5.out (fun b hb hlt => absurd (HO4.out.lt b hb).1 (Nat.not_le.2 hlt))
      obtain ⟨q1, q2, q3⟩ := asc_put HS.out HP.out HKN.out
      have hO : w5.ownsRow w2.heap.size 25 1 v5 (ins xs 0 k).length ((ins xs 0 k).map u64V) := by
        have h9 := HO5.out
        rw [q3]
        rw [HX0.out]
        exact h9
      exact ⟨v5, ins xs 0 k, rfl, q1, q2, by rw [q3, HN.out]; exact Nat.le_refl _, ownsBase hO, fun y hy => .inr (HO5.out.lt y hy).1, K5⟩
    · injection hv with e1 _ e3
      subst e1 e3
      have hpc : (p : Int) ≤ (vc : Int) := by omega
      have HSRC : Hid (Source (w2.alloc (.cells #[] 25)) (.slice (some ⟨g, 0, none⟩) p vc) p ((xs.take p).map u64V)) := .inr ⟨_, _, rfl, by rw [List.length_map, List.length_take, HN.out]; omega, row_part (HO.out.alloc _) 0 _ (fun j v h => by
        rw [Nat.zero_add]
        rw [List.map_take, List.getElem?_take] at h
        split at h
        · exact h
        · cases h), u64V_one _⟩
      go_wp2_with (at_builtin; refine wpList_append_source rfl (.tmp 14) (.tmp 17) 23 rfl 25 i0 _ Tryz.underlying23 hi0 hiz his hib rfl w2.heap.size 0 (.slice (some ⟨w2.heap.size, 0, none⟩) 0 0) [] rfl (empty_row w2) (.slice (some ⟨g, 0, none⟩) p vc) p ((xs.take p).map u64V) rfl HSRC.out (by omega) (by simp) ?_; intro v3 w3 hO3 hg3 hv3; have HO3 := Lib.hid hO3; have HG3 := Lib.hid hg3; have HV3 := Lib.hid hv3; clear hO3 hg3 hv3)
      have hp0 : (0 : Int) ≤ (p : Int) := by omega
      have hpn2 : (p : Int) ≤ (n : Int) := by omega
      have hnc2 : (n : Int) ≤ (vc : Int) := by omega
      by_cases hcp : vc = p
      · have hd0 : (xs.drop p).map u64V = [] := by rw [List.drop_eq_nil_of_le (by rw [HN.out]; omega)]; rfl
        have HD0 := Lib.hid hd0; clear hd0
        have hs3 : w2.heap.size ≤ w3.heap.size := Nat.le_trans (by simp) HG3.out.size
        have HK3 : Hid (Keeps (fun _ => False) w2 w3) := ((Keeps.refl _ w2).alloc _).grown HG3.out (fun b hb hlt => by have : w2.heap.size = b := Option.some.inj hb; omega)
        go_region_held3 (fun _ => True) (trivial)
          (first
            | ((refine step_append_source (by rfl) (.tmp 19) (.tmp 21) 23 (by rfl) 25 i0 _ Tryz.underlying23 hi0 hiz his hib (by rfl) w2.heap.size (0 + p) v3 ([] ++ (xs.take p).map u64V) (by rfl) (HO3.out.alloc _) (.slice (some ⟨w3.heap.size, 0, none⟩) 1 1) 1 [.int .u64 k] (by rfl) (.inr ⟨_, _, rfl, rfl, news1 (heap_alloc_new w3 _), one_of rfl⟩) (by omega) (by simp; omega) ?_); intro v4 w4 hO4 hg4 hv4; have HO4 := Lib.hid hO4; have HG4 := Lib.hid hg4; have HK4 : Hid (Keeps (fun _ => False) w2 w4) := (by first | exact (((HK3.out.alloc _).drew).grown hg4 (fun b hb hlt => absurd (HO3.out.lt b hb).1 (Nat.not_le.2 hlt))) | exact (((HK3.out.drew).alloc _).grown hg4 (fun b hb hlt => absurd (HO3.out.lt b hb).1 (Nat.not_le.2 hlt))) | exact ((HK3.out.alloc _).grown hg4 (fun b hb hlt => absurd (HO3.out.lt b hb).1 (Nat.not_le.2 hlt)))); clear hO4 hg4 hv4)
            | ((refine step_append_source (by rfl) (.tmp 22) (.tmp 25) 23 (by rfl) 25 i0 _ Tryz.underlying23 hi0 hiz his hib (by rfl) w2.heap.size (0 + p + 1) v4 ([] ++ (xs.take p).map u64V ++ [.int .u64 k]) (by rfl) HO4.out (.slice (some ⟨g, 0, none⟩) (n - p) 0) (n - p) ((xs.drop p).map u64V) (by rfl) (.inr ⟨_, _, rfl, (by rw [List.length_map, List.length_drop, HN.out]), (fun j u h => by rw [HD0.out] at h; cases h), u64V_one _⟩) (by omega) HK4.out.size ?_); intro v5 w5 hO5 hg5 hv5; have HO5 := Lib.hid hO5; have HG5 := Lib.hid hg5; have HV5 := Lib.hid hv5; clear hO5 hg5 hv5))
        go_wp2_with fail
        go_ret
        have K5 : Keeps (fun _ => False) w2 w5 := HK4.out.grown HG5.out (fun b hb hlt => absurd (HO4.out.lt b hb).1 (Nat.not_le.2 hlt))
        obtain ⟨q1, q2, q3⟩ := asc_put HS.out HP.out HKN.out
        have hO : w5.ownsRow w2.heap.size 25 1 v5 (ins xs p k).length ((ins xs p k).map u64V) := by
          have h9 := HO5.out
          have hll := HN.out
          rw [q3, show xs.length + 1 = 0 + p + 1 + (n - p) by omega, show (ins xs p k).map u64V = [] ++ (xs.take p).map u64V ++ [.int .u64 k] ++ (xs.drop p).map u64V by simp [ins, u64V]]
          exact h9
        exact ⟨v5, ins xs p k, rfl, q1, q2, by rw [q3, HN.out]; exact Nat.le_refl _, ownsBase hO, fun y hy => .inr (HO5.out.lt y hy).1, K5⟩
      · have HCC := hcp
        have hs3 : w2.heap.size ≤ w3.heap.size := Nat.le_trans (by simp) HG3.out.size
        have HK3 : Hid (Keeps (fun _ => False) w2 w3) := ((Keeps.refl _ w2).alloc _).grown HG3.out (fun b hb hlt => by have : w2.heap.size = b := Option.some.inj hb; omega)
        go_region_held3 (fun _ => True) (trivial)
          (first
            | ((refine step_append_source (by rfl) (.tmp 19) (.tmp 21) 23 (by rfl) 25 i0 _ Tryz.underlying23 hi0 hiz his hib (by rfl) w2.heap.size (0 + p) v3 ([] ++ (xs.take p).map u64V) (by rfl) (HO3.out.alloc _) (.slice (some ⟨w3.heap.size, 0, none⟩) 1 1) 1 [.int .u64 k] (by rfl) (.inr ⟨_, _, rfl, rfl, news1 (heap_alloc_new w3 _), one_of rfl⟩) (by omega) (by simp; omega) ?_); intro v4 w4 hO4 hg4 hv4; have HO4 := Lib.hid hO4; have HG4 := Lib.hid hg4; have HK4 : Hid (Keeps (fun _ => False) w2 w4) := (by first | exact (((HK3.out.alloc _).drew).grown hg4 (fun b hb hlt => absurd (HO3.out.lt b hb).1 (Nat.not_le.2 hlt))) | exact (((HK3.out.drew).alloc _).grown hg4 (fun b hb hlt => absurd (HO3.out.lt b hb).1 (Nat.not_le.2 hlt))) | exact ((HK3.out.alloc _).grown hg4 (fun b hb hlt => absurd (HO3.out.lt b hb).1 (Nat.not_le.2 hlt)))); clear hO4 hg4 hv4)
            | ((refine step_append_source (by rfl) (.tmp 22) (.tmp 25) 23 (by rfl) 25 i0 _ Tryz.underlying23 hi0 hiz his hib (by rfl) w2.heap.size (0 + p + 1) v4 ([] ++ (xs.take p).map u64V ++ [.int .u64 k]) (by rfl) HO4.out (.slice (some ⟨g, p, none⟩) (n - p) (vc - p)) (n - p) ((xs.drop p).map u64V) (by rfl) (.inr ⟨_, _, rfl, (by rw [List.length_map, List.length_drop, HN.out]), row_part (HK4.out.row HO.out (fun _ _ f => f)) p _ (fun j v h => by rw [List.map_drop, List.getElem?_drop] at h; exact h), u64V_one _⟩) (by omega) HK4.out.size ?_); intro v5 w5 hO5 hg5 hv5; have HO5 := Lib.hid hO5; have HG5 := Lib.hid hg5; have HV5 := Lib.hid hv5; clear hO5 hg5 hv5))
        go_wp2_with fail
        go_ret
        have K5 : Keeps (fun _ => False) w2 w5 := HK4.out.grown HG5.out (fun b hb hlt => absurd (HO4.out.lt b hb).1 (Nat.not_le.2 hlt))
        obtain ⟨q1, q2, q3⟩ := asc_put HS.out HP.out HKN.out
        have hO : w5.ownsRow w2.heap.size 25 1 v5 (ins xs p k).length ((ins xs p k).map u64V) := by
          have h9 := HO5.out
          have hll := HN.out
          rw [q3, show xs.length + 1 = 0 + p + 1 + (n - p) by omega, show (ins xs p k).map u64V = [] ++ (xs.take p).map u64V ++ [.int .u64 k] ++ (xs.drop p).map u64V by simp [ins, u64V]]
          exact h9
        exact ⟨v5, ins xs p k, rfl, q1, q2, by rw [q3, HN.out]; exact Nat.le_refl _, ownsBase hO, fun y hy => .inr (HO5.out.lt y hy).1, K5⟩
end Go.Proofs.YtegejfhomocloaaGreat

namespace Go.Proofs.YtegejfhomocloaaGreat
open Go.RowKit

/-- The keys that are taken: each once, of 16 bits, at most 40. -/
def OwnKeys (B : Nat) (w : World) (v : Value) (ks : List Nat) : Prop :=
  ks.Nodup ∧ (∀ k ∈ ks, k ≤ 65535) ∧ ks.length ≤ 40 ∧ w.ownsRow B 25 1 v ks.length ((ks.map fun k : Nat => (k : Int)).map u64V)

/-- Behind some rounds: the keys taken, and those seen in order. -/
def TurnRel (w : World) (v s : Value) (wr : World) : Prop :=
  ∃ (ks : List Nat) (xs : List Int), OwnKeys w.heap.size wr v ks ∧ UAsc xs ∧ xs.length ≤ ks.length ∧ (∀ k : Nat, (k : Int) ∈ xs ↔ k ∈ ks) ∧ wr.ownsRow w.heap.size 25 1 s xs.length (xs.map u64V) ∧ (∀ y, v.ownBlock = some y → s.ownBlock ≠ some y) ∧ Keeps (fun _ => False) w wr

set_option maxRecDepth 100000 in
set_option maxHeartbeats 800000 in
theorem turned4 (n cap : Nat) (vp : Option Addr) (raw : Nat → Nat) (w : World) (hbig : n ≤ 2147483647) (hraw : ∀ i, i < n → raw i ≤ 65535 ∧ ∃ b o, vp = some ⟨b, o, none⟩ ∧ w.cell? ⟨b, o + i, none⟩ = some (.int .u16 (raw i : Int))) :
    Calls Tryz.prog 4 #[.slice vp n cap, .int .u64 65536, .int .i64 40] w fun e w' => ∃ v ks, e = .returned v ∧ OwnKeys w.heap.size w' v ks ∧ Keeps (fun _ => False) w w' := by
  obtain ⟨i0, hi0, hiz, his, hib⟩ := info_parts info25
  have HR := Lib.hid hraw; clear hraw
  go_enter Tryz.func4, Tryz.ntmps4
  go_wp2_with fail
  go_loopg [7, 8, 9] n (fun kx s7 s8 s9 wr => ∃ j : Nat, s9 = .int .i64 j ∧ j ≤ n ∧ n - j ≤ kx ∧ Hid (TurnRel w s7 s8 wr))
  case atStart => exact ⟨0, rfl, Nat.zero_le _, by omega, [], [], ⟨List.nodup_nil, fun k hk => (by cases hk), by simp, World.ownsRow_nil _ _ _ _⟩, List.Pairwise.nil, Nat.le_refl _, fun k => by simp, World.ownsRow_nil _ _ _ _, fun y hy => (by cases hy), Keeps.refl _ _⟩
  case round =>
    obtain ⟨j, rfl, hj, hgk, hrel⟩ := hrel
    obtain ⟨ks, xs, ⟨hk1, hk2, hk3, hkO⟩, hx, hxl, hmem, hxO, hap, hK⟩ := hrel.out
    obtain ⟨p7, c7, rfl⟩ := ownsSlice hkO
    by_cases hlt : j < n
    · by_cases h40 : ks.length < 40
      · obtain ⟨hr, b, o, hvp, hc⟩ := HR.out j hlt
        subst hvp
        have cj : wr.cell? ⟨b, o + j, none⟩ = some (.int .u16 (raw j : Int)) := hK.cell hc (fun f => f)
        have hd1 : decide ((j : Int) < (n : Int)) = true := by simp; omega
        have hd2 : decide ((ks.length : Int) < 40) = true := by simp; omega
        have HH := Lib.hid (has10 w.heap.size xs.length u8 xs (raw j : Int) wr hxO rfl (by omega) hx)
        have hmod : ((raw j : Nat) : Int) % 65536 = (raw j : Int) := by omega
        go_wp2_with fail
        refine HH.out.mono ?_
        rintro e w1 ⟨bb, hbb, rfl, rfl⟩
        cases bb with
        | true =>
          go_wp2_with fail
          go_roundg (n - (j + 1))
          case measure => omega
          case rel => exact ⟨j + 1, by go_num, by omega, Nat.le_refl _, hrel.out⟩
        | false =>
          have hnew : raw j ∉ ks := fun h => by have := hbb.2 ((hmem _).2 h); cases this
          have HNEW := Lib.hid hnew; clear hnew hbb HH
          have HKO := Lib.hid hkO; clear hkO
          have HXO := Lib.hid hxO; clear hxO
          have HAP := Lib.hid hap; clear hap
          have HK := Lib.hid hK; clear hK
          have HM := Lib.hid hmem; clear hmem
          have HX := Lib.hid hx; clear hx
          have HK1 := Lib.hid hk1; clear hk1
          have HK2 := Lib.hid hk2; clear hk2
          have hzr := HK.out.size
          clear hrel cj hc
          go_wp2_with (at_builtin; refine wpList_append_lies _ rfl (.tmp 34) (.tmp 36) 23 rfl w.heap.size 25 i0 _ 1 8 Tryz.underlying23 hi0 hiz his hib rfl (by omega) (.slice p7 ks.length c7) ks.length _ rfl (HKO.out.alloc _) ⟨w1.heap.size, 0, none⟩ 1 1 [.int .u64 (raw j : Int)] rfl (by rfl) (cell_one_new _ _ _) (one_of rfl) (by omega) (by simp only [maxLen]; omega) (by omega) (by simp; omega) _ rfl ?_; intro g c w2 hO2 hg2 hat2 hlt2; have HO2 := Lib.hid hO2; have HG2 := Lib.hid hg2; have HAT2 := Lib.hid hat2; have HX2 := Lib.hid ((HXO.out.alloc _).kept hg2 (apart_row HAP.out)); clear hO2 hg2 hat2)
          refine (put11 w.heap.size xs.length u8 xs (raw j : Int) w2 HX2.out rfl (by omega) HX.out).mono ?_
          rintro e w3 ⟨s', xs', rfl, q1, q2, q3, q4, q5, hK3⟩
          have Q := Lib.hid (show UAsc xs' ∧ (∀ y, y ∈ xs' ↔ y ∈ xs ∨ y = (raw j : Int)) ∧ xs'.length ≤ xs.length + 1 ∧ w3.ownsRow 0 25 1 s' xs'.length (xs'.map u64V) ∧ (∀ y, s'.ownBlock = some y → u8.ownBlock = some y ∨ w2.heap.size ≤ y) from ⟨q1, q2, q3, q4, q5⟩)
          clear q1 q2 q3 q4 q5
          have HK3 := Lib.hid (((HK.out.alloc _).grown HG2.out (fun b hb hlt => absurd (HKO.out.lt b hb).1 (Nat.not_le.2 hlt))).trans hK3 (fun _ _ f => f))
          have HO3 := Lib.hid (hK3.row HO2.out (fun _ _ f => f)); clear hK3
          go_wp2_with fail
          go_roundg (n - (j + 1))
          case measure => omega
          case rel =>
            obtain ⟨q1, q2, q3, q4, q5⟩ := Q.out
            have hz2 := HG2.out.size
            have hgl := hlt2
            refine ⟨j + 1, by go_num, by omega, Nat.le_refl _, ks ++ [raw j], xs', ⟨?_, ?_, ?_, ?_⟩, q1, ?_, ?_, ownsUp q4 (fun y hy => ?_), fun y hy hy' => ?_, HK3.out⟩
            · rw [List.nodup_append]
              exact ⟨HK1.out, (by simp), fun a ha b hb e => HNEW.out (by rw [List.mem_singleton] at hb; rw [← hb, ← e]; exact ha)⟩
            · intro k hk
              rcases List.mem_append.1 hk with h | h
              · exact HK2.out k h
              · rw [List.mem_singleton] at h; omega
            · rw [List.length_append, List.length_singleton]; omega
            · rw [List.length_append, List.length_singleton, List.map_append, List.map_append]; exact HO3.out
            · rw [List.length_append, List.length_singleton]; omega
            · intro k
              rw [q2, HM.out, List.mem_append, List.mem_singleton]
              exact or_congr Iff.rfl ⟨fun h => by omega, fun h => by omega⟩
            · rcases q5 y hy with h | h
              · exact (HXO.out.lt y h).1
              · simp at hz2; omega
            · have hy2 : g = y := Option.some.inj hy
              subst hy2
              rcases q5 g hy' with h | h
              · rcases HAT2.out with h2 | h2
                · exact HAP.out g h2 h
                · have := (HXO.out.lt g h).2; simp at h2; omega
              · omega
      · have hd1 : decide ((j : Int) < (n : Int)) = true := by simp; omega
        have hd2 : decide ((ks.length : Int) < 40) = false := by simp; omega
        have HF : Hid (OwnKeys w.heap.size wr (.slice p7 ks.length c7) ks ∧ Keeps (fun _ => False) w wr) := ⟨⟨hk1, hk2, hk3, hkO⟩, hK⟩
        clear hrel hk1 hk2 hkO hx hmem hxO hap hK
        go_wp2_with fail
        go_ret
        exact ⟨_, ks, rfl, HF.out.1, HF.out.2⟩
    · have hd1 : decide ((j : Int) < (n : Int)) = false := by simp; omega
      have HF : Hid (OwnKeys w.heap.size wr (.slice p7 ks.length c7) ks ∧ Keeps (fun _ => False) w wr) := ⟨⟨hk1, hk2, hk3, hkO⟩, hK⟩
      clear hrel hk1 hk2 hkO hx hmem hxO hap hK
      go_wp2_with fail
      go_ret
      exact ⟨_, ks, rfl, HF.out.1, HF.out.2⟩
end Go.Proofs.YtegejfhomocloaaGreat
