/- A part of the proof of FnRoadOrder: the tree of intervals: one insertion. No conditions but those of the theorems. -/
import Derived.Test.YtegejfhomocloaaGreatJ13
import Derived.Deep.LoopGhost
import Derived.Deep.DeepCutAuto
set_option linter.all false
namespace Go.Proofs.YtegejfhomocloaaGreat
open Go.RowKit

theorem type_ne' {w : World} {a b : Nat} {cs cs' : Array Value} {t t' : TypeId} {fr fr' : Nat × Nat} (h : w.heap[a]? = some (.cells cs t fr)) (h' : w.heap[b]? = some (.cells cs' t' fr')) (hne : t ≠ t') : a ≠ b := by
  rintro rfl
  rw [h] at h'
  injection h' with h'
  injection h' with _ h2
  exact hne h2
theorem HeapOK.neTree {B : Nat} {w : World} {S : Nat → Option Sh} {t : Nat} {rt : Option Nat} (h : HeapOK B w S) (ht : TreeAt t rt w) {b : Nat} {s : Sh} (hb : S b = some s) : b ≠ t := by
  obtain ⟨⟨mx, mn, h1, -, -⟩, -, -⟩ := h b s hb
  obtain ⟨m, hm⟩ := ht
  exact type_ne' h1 hm (by decide)
theorem TreeAt.keeps {t : Nat} {rt : Option Nat} {w w' : World} {F : Nat → Prop} (h : TreeAt t rt w) (k : Keeps F w w') (hF : ¬ F t) : TreeAt t rt w' := by
  obtain ⟨m, hm⟩ := h
  exact ⟨m, k.heap hm hF⟩

/-- What an insertion may turn: the tree's block, and the nodes. -/
def Mine (B tb : Nat) (w0 : World) (x : Nat) : Prop := B ≤ x ∧ (x = tb ∨ ∃ cs fr, w0.heap[x]? = some (.cells cs 166 fr))
/-- The memory at a round's head. -/
structure WInv (B tb : Nat) (rt : Option Nat) (iv : Iv) (w0 : World) (S : Nat → Option Sh) (wr : World) : Prop where
  heap : HeapOK B wr S
  tree : TreeAt tb rt wr
  keeps : Keeps (Mine B tb w0) w0 wr
  ivok : IvOK B wr iv
  tbB : B ≤ tb
  bw : B ≤ w0.heap.size

@[go_sem] theorem ptr_nil : ptrO RT.nil.root = .pointer none := rfl
@[go_sem] theorem ptr_node (b : Nat) (i : Iv) (c : Bool) (l r : RT) : ptrO (RT.node b i c l r).root = .pointer (some ⟨b, 0, none⟩) := rfl
@[go_sem] theorem ptr_pO (f g : Fr) (F : List Fr) : ptrO (pO (f :: g :: F)) = .pointer (some ⟨f.b, 0, none⟩) := rfl
@[go_sem] theorem ptr_some (b : Nat) : ptrO (some b) = .pointer (some ⟨b, 0, none⟩) := rfl
@[go_sem] theorem ptr_none : ptrO none = .pointer none := rfl
@[go_sem] theorem bInt_t : bInt true = 1 := rfl
@[go_sem] theorem bInt_f : bInt false = 0 := rfl
def isNilT : RT → Bool
  | .nil => true
  | .node _ _ _ _ _ => false
@[go_sem] theorem isNil_n : isNilT .nil = true := rfl
@[go_sem] theorem isNil_o (b : Nat) (i : Iv) (c : Bool) (l r : RT) : isNilT (.node b i c l r) = false := rfl
/-- The tree's number turned. -/
theorem WInv.tick {B tb : Nat} {rt : Option Nat} {iv : Iv} {w0 : World} {S : Nat → Option Sh} {wr : World} (h : WInv B tb rt iv w0 S wr) (x : Int) : WInv B tb rt iv w0 S (wr.setCell ⟨tb, 2, none⟩ (.int .u64 x)) := by
  have hk := (Keeps.refl (fun x => x = tb) wr).setIn tb 2 (.int .u64 x) rfl
  have hB := h.tbB
  obtain ⟨m, hm⟩ := h.tree
  exact ⟨h.heap.keeps hk (fun b s hb e => h.heap.neTree h.tree hb e) (fun x hx e => by omega), ⟨x, heap_setCell_same wr tb 2 _ _ _ hm⟩, h.keeps.trans hk (fun b _ e => by rw [e]; exact ⟨hB, .inl rfl⟩), h.ivok.keeps hk (fun x hx e => by omega), hB, h.bw⟩
/-- A step of the memory. -/
theorem WInv.mine {B tb : Nat} {rt : Option Nat} {iv : Iv} {w0 : World} {S : Nat → Option Sh} {wr : World} (h : WInv B tb rt iv w0 S wr) {b : Nat} {s : Sh} (hs : S b = some s) (hb : b < w0.heap.size) : Mine B tb w0 b := by
  obtain ⟨⟨mx, mn, g, -, -⟩, -, hBb⟩ := h.heap b s hs
  by_cases hm : Mine B tb w0 b
  · exact hm
  · have := h.keeps.block b hb hm
    rw [g] at this
    exact ⟨hBb, .inr ⟨_, _, this.symm⟩⟩
theorem WInv.step {B tb : Nat} {rt : Option Nat} {iv : Iv} {w0 : World} {S S' : Nat → Option Sh} {wr w' : World} {F : Nat → Prop} (h : WInv B tb rt iv w0 S wr) (k : Keeps F wr w') (hF : ∀ x, F x → ∃ s, S x = some s) (hh : HeapOK B w' S') : WInv B tb rt iv w0 S' w' :=
  ⟨hh, h.tree.keeps k (fun f => by obtain ⟨s, hs⟩ := hF _ f; exact h.heap.neTree h.tree hs rfl), h.keeps.trans k (fun b hb f => by obtain ⟨s, hs⟩ := hF b f; exact h.mine hs hb), h.ivok.keeps k (fun x hx f => by obtain ⟨s, hs⟩ := hF x f; have := (h.heap x s hs).2.2; omega), h.tbB, h.bw⟩
theorem WInv.new {B tb : Nat} {rt : Option Nat} {iv : Iv} {w0 : World} {S : Nat → Option Sh} {wr w' : World} (h : WInv B tb rt iv w0 S wr) (k : Keeps (fun _ => False) wr w') : WInv B tb rt iv w0 S w' :=
  h.step k (fun _ f => f.elim) (h.heap.new k)
theorem WInv.at1 {B tb : Nat} {rt : Option Nat} {iv : Iv} {w0 : World} {S : Nat → Option Sh} {wr : World} (_h : WInv B tb rt iv w0 S wr) {b : Nat} {s : Sh} (hb : S b = some s) : ∃ s, S b = some s := ⟨s, hb⟩
theorem WInv.at2 {B tb : Nat} {rt : Option Nat} {iv : Iv} {w0 : World} {S : Nat → Option Sh} {wr : World} (h : WInv B tb rt iv w0 S wr) {b : Nat} {s : Sh} (hb : S b = some s) : B ≤ b ∧ b ≠ tb := ⟨(h.heap b s hb).2.2, h.heap.neTree h.tree hb⟩
theorem WInv.dye {B tb : Nat} {rt : Option Nat} {iv : Iv} {w0 : World} {S : Nat → Option Sh} {wr : World} (h : WInv B tb rt iv w0 S wr) {b : Nat} {s : Sh} (hb : S b = some s) (c : Bool) : WInv B tb rt iv w0 (upd S b (s.dye c)) (wr.setCell ⟨b, 5, none⟩ (.bool c)) := by
  obtain ⟨⟨mx, mn, g1, i1, i2⟩, -, -⟩ := h.heap b _ hb
  have k := (Keeps.refl (fun x => x = b) wr).setIn b 5 (.bool c) rfl
  exact h.step k (fun x e => by subst e; exact h.at1 hb) (h.heap.turn k hb rfl i1 i2 (heap_setCell_same wr b 5 _ _ _ g1))
theorem WInv.put1 {B tb : Nat} {rt : Option Nat} {iv : Iv} {w0 : World} {S : Nat → Option Sh} {wr : World} (h : WInv B tb rt iv w0 S wr) {b : Nat} {s : Sh} (hb : S b = some s) (p : Option Nat) : WInv B tb rt iv w0 (upd S b (s.put true p)) (wr.setCell ⟨b, 4, none⟩ (ptrO p)) := by
  obtain ⟨⟨mx, mn, g1, i1, i2⟩, -, -⟩ := h.heap b _ hb
  have k := (Keeps.refl (fun x => x = b) wr).setIn b 4 (ptrO p) rfl
  exact h.step k (fun x e => by subst e; exact h.at1 hb) (h.heap.turn k hb rfl i1 i2 (heap_setCell_same wr b 4 _ _ _ g1))
theorem WInv.put0 {B tb : Nat} {rt : Option Nat} {iv : Iv} {w0 : World} {S : Nat → Option Sh} {wr : World} (h : WInv B tb rt iv w0 S wr) {b : Nat} {s : Sh} (hb : S b = some s) (p : Option Nat) : WInv B tb rt iv w0 (upd S b (s.put false p)) (wr.setCell ⟨b, 3, none⟩ (ptrO p)) := by
  obtain ⟨⟨mx, mn, g1, i1, i2⟩, -, -⟩ := h.heap b _ hb
  have k := (Keeps.refl (fun x => x = b) wr).setIn b 3 (ptrO p) rfl
  exact h.step k (fun x e => by subst e; exact h.at1 hb) (h.heap.turn k hb rfl i1 i2 (heap_setCell_same wr b 3 _ _ _ g1))
theorem WInv.max {B tb : Nat} {rt : Option Nat} {iv : Iv} {w0 : World} {S : Nat → Option Sh} {wr : World} (h : WInv B tb rt iv w0 S wr) {b : Nat} {s : Sh} (hb : S b = some s) {m : Int} (hm : InR m) : WInv B tb rt iv w0 S (wr.setCell ⟨b, 1, none⟩ (.int .i64 m)) := by
  obtain ⟨⟨mx, mn, g1, i1, i2⟩, -, -⟩ := h.heap b _ hb
  have k := (Keeps.refl (fun x => x = b) wr).setIn b 1 (.int .i64 m) rfl
  exact h.step k (fun x e => by subst e; exact h.at1 hb) (h.heap.range k hb hm i2 (heap_setCell_same wr b 1 _ _ _ g1))
theorem WInv.min {B tb : Nat} {rt : Option Nat} {iv : Iv} {w0 : World} {S : Nat → Option Sh} {wr : World} (h : WInv B tb rt iv w0 S wr) {b : Nat} {s : Sh} (hb : S b = some s) {m : Int} (hm : InR m) : WInv B tb rt iv w0 S (wr.setCell ⟨b, 2, none⟩ (.int .i64 m)) := by
  obtain ⟨⟨mx, mn, g1, i1, i2⟩, -, -⟩ := h.heap b _ hb
  have k := (Keeps.refl (fun x => x = b) wr).setIn b 2 (.int .i64 m) rfl
  exact h.step k (fun x e => by subst e; exact h.at1 hb) (h.heap.range k hb i1 hm (heap_setCell_same wr b 2 _ _ _ g1))

/-- What holds at a round's head. -/
def AddRelA (B d tb : Nat) (rt : Option Nat) (iv : Iv) (L : List Iv) (w0 : World) (kx : Nat) (s5 s6 s7 s8 s9 s10 s14 : Value) (wr : World) : Prop :=
  ∃ F t ph S dd ll gp hp, s5 = ptrO (pO F) ∧ s6 = ptrO gp ∧ s7 = ptrO t.root ∧ s8 = .int .i64 (bInt dd) ∧ s9 = .int .i64 (bInt ll) ∧ s10 = .int .i64 (bInt (!ll)) ∧ s14 = .pointer (some ⟨hp, 0, none⟩) ∧ left iv.k t ph ≤ kx ∧
    PInv d iv.k L F t ph S dd ll gp hp ∧ WInv B tb rt iv w0 S wr

/-- The tree lies in memory behind an insertion: its root black. -/
def TreeRelA (B tb : Nat) (w : World) (L : List Iv) : Prop :=
  ∃ (T : RT) (S : Nat → Option Sh), T.NRR ∧ T.isRed = false ∧ T.ivs.Pairwise (fun x y => x.k < y.k) ∧ T.ivs.Perm L ∧ Has S T.recs ∧ HeapOK B w S ∧ TreeAt tb T.root w ∧ B ≤ tb
def AddOut (B tb : Nat) (iv : Iv) (L : List Iv) (w : World) (e : Ending) (w' : World) : Prop := e = .returned (.tuple #[]) ∧ TreeRelA B tb w' (iv :: L) ∧ Keeps (Mine B tb w) w w'

set_option maxRecDepth 100000 in
set_option maxHeartbeats 40000000 in
theorem add138 (B tb : Nat) (iv : Iv) (T : RT) (S : Nat → Option Sh) (w : World) (hN : T.NRR) (hR : T.isRed = false) (hA : T.ivs.Pairwise (fun x y => x.k < y.k)) (hH : Has S T.recs) (hO : HeapOK B w S) (hT : TreeAt tb T.root w) (hB : B ≤ tb) (hBw : B ≤ w.heap.size)
    (hI : IvOK B w iv) (hx : ∀ x ∈ T.ivs, x.k ≠ iv.k ∧ x.id ≠ iv.id) (r0 : Nat) (hr0 : T.root = some r0) :
    Calls Tryz.prog 138 #[.pointer (some ⟨tb, 0, none⟩), ivV iv] w (AddOut B tb iv T.ivs w) := by
  have W0 : Hid (WInv B tb T.root iv w S w) := ⟨hO, hT, Keeps.refl _ _, hI, hB, hBw⟩
  have HN := Lib.hid hN; clear hN
  have HR := Lib.hid hR; clear hR
  have HA := Lib.hid hA; clear hA
  have HH := Lib.hid hH; clear hH
  have HX := Lib.hid hx; clear hx
  have HR0 := Lib.hid hr0
  obtain ⟨m, hm⟩ := id hT
  have a0 : w.cell? ⟨tb, 0, none⟩ = some (.pointer (some ⟨r0, 0, none⟩)) := by rw [cell_at hm 0, hr0]; rfl
  clear hr0 hm hT hO hI
  show Calls Tryz.prog 138 #[.pointer (some ⟨tb, 0, none⟩), .iface 132 (spanV iv)] w (AddOut B tb iv T.ivs w)
  go_enter Tryz.func138, Tryz.ntmps138
  go_wp2_with fail
  refine (reset137 tb T.root w W0.out.tree).mono ?_
  rintro e w1 ⟨rfl, hT1, hk⟩
  have KT := Lib.hid hk
  have HT1 := Lib.hid hT1; clear hT1 hk a0
  obtain ⟨m1, hm1⟩ := HT1.out
  have c3 : w1.cell? ⟨tb, 3, none⟩ = some .nilIface := cell_at hm1 3
  have c4 : w1.cell? ⟨tb, 4, none⟩ = some (.int .i64 0) := cell_at hm1 4
  have c5 : w1.cell? ⟨tb, 5, none⟩ = some (.int .i64 0) := cell_at hm1 5
  have c6 : w1.cell? ⟨tb, 6, none⟩ = some (.pointer none) := cell_at hm1 6
  have c7 : w1.cell? ⟨tb, 7, none⟩ = some (.pointer none) := cell_at hm1 7
  have c8 : w1.cell? ⟨tb, 8, none⟩ = some (.bool false) := cell_at hm1 8
  have c9 : w1.cell? ⟨tb, 9, none⟩ = some (.int .u64 0) := cell_at hm1 9
  have c0 : w1.cell? ⟨tb, 0, none⟩ = some (.pointer (some ⟨r0, 0, none⟩)) := by rw [cell_at hm1 0, HR0.out]; rfl
  have c0' : (w1.alloc (.cells #[.nilIface, .int .i64 0, .int .i64 0, .pointer none, .pointer none, .bool false, .int .u64 0] 166)).cell? ⟨tb, 0, none⟩ = some (.pointer (some ⟨r0, 0, none⟩)) := by rw [cell_at (alloc_heap _ _ hm1) 0, HR0.out]; rfl
  clear hm1
  go_wp2_with fail
  have W1 : Hid (WInv B tb T.root iv w S w1) := ⟨W0.out.heap.keeps KT.out (fun b s hb e => W0.out.heap.neTree W0.out.tree hb e) (fun x hx e => by have := W0.out.tbB; omega), HT1.out, KT.out.mono (fun b _ e => by rw [e]; exact ⟨W0.out.tbB, .inl rfl⟩), W0.out.ivok.keeps KT.out (fun x hx e => by have := W0.out.tbB; omega), W0.out.tbB, W0.out.bw⟩
  have hzd : w.heap.size ≤ w1.heap.size := KT.out.size
  have W2 : Hid (WInv B tb T.root iv w (upd S w1.heap.size ⟨none, none, none, false⟩) (w1.alloc (.cells #[.nilIface, .int .i64 0, .int .i64 0, .pointer none, .pointer none, .bool false, .int .u64 0] 166))) :=
    W1.out.step ((Keeps.refl (fun _ => False) w1).alloc _) (fun _ f => f.elim) (W1.out.heap.born ((Keeps.refl (fun _ => False) w1).alloc _) (Nat.le_refl _) (by have := W0.out.bw; omega) (mx := 0) (mn := 0) ⟨by omega, by omega⟩ ⟨by omega, by omega⟩ (heap_alloc_new w1 _) trivial)
  have HF : Hid (∀ x s, S x = some s → x ≠ w1.heap.size) := fun x s hs e => by have := W1.out.heap.lt hs; omega
  clear c0 c3 c4 c5 c6 c7 c8 c9 c0' W0 HT1 KT
  generalize w1.alloc (.cells #[.nilIface, .int .i64 0, .int .i64 0, .pointer none, .pointer none, .bool false, .int .u64 0] 166) = w2 at W2 ⊢
  generalize hd : w1.heap.size = d at W2 HF ⊢
  have HD := Lib.hid hd; clear hd hzd
  refine (id156 iv w2).mono ?_
  rintro e w3 ⟨rfl, hk⟩
  have W3 := Lib.hid (W2.out.new hk); clear hk W2
  go_wp2_with fail
  refine (high155 B iv w3 W3.out.ivok).mono ?_
  rintro e w4 ⟨rfl, hk⟩
  have W4 := Lib.hid (W3.out.new hk); clear hk W3
  go_wp2_with fail
  refine (low157 B iv w4 W4.out.ivok).mono ?_
  rintro e w5 ⟨rfl, hk⟩
  have W5 := Lib.hid (W4.out.new hk); clear hk W4
  obtain ⟨m5, hm5⟩ := W5.out.tree
  have hsd : upd S d ⟨none, none, none, false⟩ d = some ⟨none, none, none, false⟩ := upd_same _ _ _
  have HSD := Lib.hid hsd; clear hsd
  obtain ⟨⟨mx5, mn5, g5, i1, i2⟩, -, hBd⟩ := W5.out.heap d _ HSD.out
  have c0 : w5.cell? ⟨tb, 0, none⟩ = some (.pointer (some ⟨r0, 0, none⟩)) := by rw [cell_at hm5 0, HR0.out]; rfl
  have d4 : w5.cell? ⟨d, 4, none⟩ = some (.pointer none) := cell_at g5 4
  have f4 : w5.frozen? ⟨d, 4, none⟩ = false := free_at g5 4
  have hdt : d ≠ tb := (W5.out.at2 HSD.out).2
  have htd : tb ≠ d := Ne.symm hdt
  have G5 := Lib.hid g5
  have I12 := Lib.hid (And.intro i1 i2)
  clear hm5 g5 i1 i2
  go_wp2_with fail
  go_region_held3 (fun w' => w'.cell? ⟨tb, 0, none⟩ = some (.pointer (some ⟨r0, 0, none⟩))) (go_keep) (fail)
  go_wp2_with fail
  have HS6 : Hid (Has (upd S d ⟨none, none, T.root, false⟩) ((d, ⟨none, none, T.root, false⟩) :: T.recs)) := Has.new HH.out HF.out _
  have K6 := Lib.hid ((((Keeps.refl (fun x => x = d) w5).setIn d 4 (.pointer (some ⟨r0, 0, none⟩)) rfl)).drew)
  have HO6 := W5.out.heap.turn K6.out HSD.out (s' := ⟨none, none, T.root, false⟩) rfl I12.out.1 I12.out.2 (by rw [HR0.out]; exact heap_setCell_same w5 d 4 _ _ (.pointer (some ⟨r0, 0, none⟩)) G5.out)
  rw [upd_upd] at HO6
  have W6 : Hid (WInv B tb T.root iv w (upd S d ⟨none, none, T.root, false⟩) (w5.setCell ⟨d, 4, none⟩ (.pointer (some ⟨r0, 0, none⟩))).drew) := W5.out.step K6.out (fun x e => by subst e; exact W5.out.at1 HSD.out) HO6
  generalize (w5.setCell ⟨d, 4, none⟩ (.pointer (some ⟨r0, 0, none⟩))).drew = w6 at W6 ⊢
  clear HO6 K6 W5 G5 I12 HSD HF HH c0 d4 f4
  have hTn : T ≠ .nil := fun e => by have := HR0.out; rw [e] at this; cases this
  have P6 := Lib.hid (start_inv (d := d) (key := iv.k) hTn HR.out HN.out HA.out HS6.out)
  clear HS6 hTn
  generalize hL : T.ivs = L at P6 HX ⊢
  generalize upd S d ⟨none, none, T.root, false⟩ = S6 at W6 P6
  have HL := Lib.hid hL; clear hL
  go_loopg [5, 6, 7, 8, 9, 10, 14] (left iv.k T 0) (fun kx s5 s6 s7 s8 s9 s10 s14 wr => Hid (AddRelA B d tb T.root iv L w kx s5 s6 s7 s8 s9 s10 s14 wr))
  case atStart => exact ⟨_, _, _, _, _, _, _, _, rfl, rfl, by rw [HR0.out]; rfl, rfl, rfl, rfl, rfl, Nat.le_refl _, P6.out, W6.out⟩
  case round =>
    obtain ⟨F, t, ph, S, dd, ll, gp, hp, rfl, rfl, rfl, rfl, rfl, rfl, rfl, hkx, hP, hW⟩ := hrel.out
    have P := Lib.hid hP; clear hP
    have W := Lib.hid hW; clear hW hrel
    clear W6 P6
    obtain ⟨f0, F', rfl⟩ : ∃ f0 F', F = f0 :: F' := by
      cases F with
      | nil => exact absurd rfl P.out.core.dum.ne
      | cons f0 F' => exact ⟨f0, F', rfl⟩
    go_upto_region 15 with (fail)
    go_cut [7, 68] from 67 to 206 (fun s7 s68 wx => s7 = ptrO t.root ∧ s68 = .bool (isNilT t) ∧ wr = wx)
    case first =>
      cases t with
      | nil =>
        go_wp2_with fail
        go_meet
        case rel => exact ⟨rfl, rfl, rfl⟩
      | node b i c l r =>
        go_wp2_with fail
        go_meet
        case rel => exact ⟨rfl, rfl, rfl⟩
    case rest =>
      obtain ⟨rfl, rfl, rfl⟩ := hcut
      go_upto_if 68 with (fail)
      go_cut [5, 7, 8] from 67 to 206 (fun s5 s7 s8 wx => s5 = ptrO (pO (f0 :: F')) ∧ s8 = .int .i64 (bInt dd) ∧ ∃ b i c l r S1, s7 = .pointer (some ⟨b, 0, none⟩) ∧ Hid (FirstPart (f0 :: F') t iv b i c l r S1) ∧ Hid (WInv B tb T.root iv w S1 wx))
      case first =>
        as_aux_lemma =>
          cases t with
          | nil =>
            obtain ⟨f1, F2, rfl⟩ : ∃ f1 F2, F' = f1 :: F2 := by
              cases F' with
              | nil => exact absurd rfl (P.out.top f0 rfl).1
              | cons f1 F2 => exact ⟨f1, F2, rfl⟩
            have hdd := P.out.dir f0 f1 F2 rfl
            subst hdd
            go_wp2_with fail
            refine (new143 iv wr).mono ?_
            rintro e w1 ⟨nb, rfl, hnb, hc, hk⟩
            have hNH := new_has (iv := iv) P.out.has (nb := nb) (fun x s hs e => by have := W.out.heap.lt hs; omega)
            have NH := Lib.hid hNH; clear hNH
            have IK := W.out.ivok.2.1
            have W1 : Hid (WInv B tb T.root iv w (upd S nb ⟨some iv, none, none, true⟩) w1) := W.out.step hk (fun _ f => f.elim) (W.out.heap.born hk hnb (by have := W.out.keeps.size; have := W.out.bw; omega) IK IK hc W.out.ivok)
            have HF0 : Hid (upd S nb ⟨some iv, none, none, true⟩ f0.b = some (f0.sh none)) := (upd_other _ _ NH.out.2.1).trans NH.out.1
            obtain ⟨⟨mx, mn, g1, i1, i2⟩, -, -⟩ := W1.out.heap f0.b _ HF0.out
            have hft := (W1.out.at2 HF0.out).2
            have htf : tb ≠ f0.b := Ne.symm hft
            obtain ⟨m, hm⟩ := W1.out.tree
            have b2 : w1.cell? ⟨tb, 2, none⟩ = some (.int .u64 m) := cell_at hm 2
            have bf : w1.frozen? ⟨tb, 2, none⟩ = false := free_at hm 2
            clear hm hc hk IK
            have KK := Lib.hid g1
            have I12 := Lib.hid (And.intro i1 i2); clear i1 i2
            obtain ⟨pb, pi, pc, pd, ps⟩ := f0
            cases pd with
            | true =>
              have a4 : w1.cell? ⟨pb, 4, none⟩ = some (.pointer none) := cell_at g1 4
              have f4 : w1.frozen? ⟨pb, 4, none⟩ = false := free_at g1 4
              clear g1
              go_wp2_with fail
              go_meet
              case rel =>
                refine ⟨rfl, rfl, nb, iv, true, .nil, .nil, _, rfl, ⟨NH.out.2.2, .inl ⟨rfl, rfl, rfl, rfl, rfl⟩⟩, ?_⟩
                exact (W1.out.put1 HF0.out (some nb)).tick _
            | false =>
              have a3 : w1.cell? ⟨pb, 3, none⟩ = some (.pointer none) := cell_at g1 3
              have f3 : w1.frozen? ⟨pb, 3, none⟩ = false := free_at g1 3
              clear g1
              go_wp2_with fail
              go_meet
              case rel =>
                refine ⟨rfl, rfl, nb, iv, true, .nil, .nil, _, rfl, ⟨NH.out.2.2, .inl ⟨rfl, rfl, rfl, rfl, rfl⟩⟩, ?_⟩
                exact (W1.out.put0 HF0.out (some nb)).tick _
          | node b i c l r =>
            have OW := Lib.hid (own_has P.out.has)
            obtain ⟨⟨mx, mn, g1, i1, i2⟩, -, -⟩ := W.out.heap b _ OW.out.1
            have b3 : wr.cell? ⟨b, 3, none⟩ = some (ptrO l.root) := cell_at g1 3
            have b4 : wr.cell? ⟨b, 4, none⟩ = some (ptrO r.root) := cell_at g1 4
            have G1 := Lib.hid g1
            clear g1 i1 i2
            rcases hl : l.isRed with _ | _
            · have R1 : Hid (Calls Tryz.prog 144 #[ptrO l.root] wr fun e w' => e = .returned (.bool false) ∧ w' = wr) := by
                have := red144 B S l.root wr W.out.heap OW.out.2.1
                rw [OW.out.2.2.2.1, hl] at this
                exact this
              have HL := Lib.hid hl; clear hl
              go_wp2_with fail
              refine R1.out.mono ?_
              rintro e w' ⟨rfl, hw⟩
              have hw := hw.symm
              subst hw
              go_wp2_with fail
              go_meet
              case rel => exact ⟨rfl, rfl, b, i, c, l, r, S, rfl, ⟨P.out.has, .inr (.inl ⟨rfl, fun e => by rw [HL.out] at e; exact absurd e.1 (by simp)⟩)⟩, W.out⟩
            · have R1 : Hid (Calls Tryz.prog 144 #[ptrO l.root] wr fun e w' => e = .returned (.bool true) ∧ w' = wr) := by
                have := red144 B S l.root wr W.out.heap OW.out.2.1
                rw [OW.out.2.2.2.1, hl] at this
                exact this
              have HL := Lib.hid hl; clear hl
              rcases hr : r.isRed with _ | _
              · have R2 : Hid (Calls Tryz.prog 144 #[ptrO r.root] wr fun e w' => e = .returned (.bool false) ∧ w' = wr) := by
                  have := red144 B S r.root wr W.out.heap OW.out.2.2.1
                  rw [OW.out.2.2.2.2, hr] at this
                  exact this
                have HR' := Lib.hid hr; clear hr
                go_wp2_with fail
                refine R1.out.mono ?_
                rintro e w' ⟨rfl, hw⟩
                have hw := hw.symm
                subst hw
                go_wp2_with fail
                refine R2.out.mono ?_
                rintro e w' ⟨rfl, hw⟩
                have hw := hw.symm
                subst hw
                go_wp2_with fail
                go_meet
                case rel => exact ⟨rfl, rfl, b, i, c, l, r, S, rfl, ⟨P.out.has, .inr (.inl ⟨rfl, fun e => by rw [HR'.out] at e; exact absurd e.2 (by simp)⟩)⟩, W.out⟩
              · have R2 : Hid (Calls Tryz.prog 144 #[ptrO r.root] wr fun e w' => e = .returned (.bool true) ∧ w' = wr) := by
                  have := red144 B S r.root wr W.out.heap OW.out.2.2.1
                  rw [OW.out.2.2.2.2, hr] at this
                  exact this
                cases l with
                | nil => exact absurd HL.out (by simp [RT.isRed])
                | node lb li lc ll' lr =>
                cases r with
                | nil => exact absurd hr (by simp [RT.isRed])
                | node rb ri rc rl rr =>
                have hlc : lc = true := HL.out
                have hrc : rc = true := hr
                subst hlc hrc
                have FH := Lib.hid (flip_has P.out.has)
                obtain ⟨hbl, hbr, hlr⟩ : b ≠ lb ∧ b ≠ rb ∧ lb ≠ rb := ⟨FH.out.2.2.2.1, FH.out.2.2.2.2.1, FH.out.2.2.2.2.2.1⟩
                have hlb : lb ≠ b := Ne.symm hbl
                have hrb : rb ≠ b := Ne.symm hbr
                have hrl : rb ≠ lb := Ne.symm hlr
                have Wa : Hid (WInv B tb T.root iv w (upd S b ⟨some i, some lb, some rb, true⟩) (wr.setCell ⟨b, 5, none⟩ (.bool true))) := W.out.dye FH.out.1 true
                have Wb : Hid (WInv B tb T.root iv w (upd (upd S b ⟨some i, some lb, some rb, true⟩) lb ⟨some li, ll'.root, lr.root, false⟩) ((wr.setCell ⟨b, 5, none⟩ (.bool true)).setCell ⟨lb, 5, none⟩ (.bool false))) := Wa.out.dye ((upd_other _ _ hlb).trans FH.out.2.1) false
                have Wc : Hid (WInv B tb T.root iv w (upd (upd (upd S b ⟨some i, some lb, some rb, true⟩) lb ⟨some li, ll'.root, lr.root, false⟩) rb ⟨some ri, rl.root, rr.root, false⟩) (((wr.setCell ⟨b, 5, none⟩ (.bool true)).setCell ⟨lb, 5, none⟩ (.bool false)).setCell ⟨rb, 5, none⟩ (.bool false))) := Wb.out.dye ((upd_other _ _ hrl).trans ((upd_other _ _ hrb).trans FH.out.2.2.1)) false
                obtain ⟨⟨_, _, gl, -, -⟩, -, -⟩ := W.out.heap lb _ FH.out.2.1
                obtain ⟨⟨_, _, gr, -, -⟩, -, -⟩ := W.out.heap rb _ FH.out.2.2.1
                have b5 : wr.cell? ⟨b, 5, none⟩ = some (.bool c) := cell_at G1.out 5
                have l5 : wr.cell? ⟨lb, 5, none⟩ = some (.bool true) := cell_at gl 5
                have r5 : wr.cell? ⟨rb, 5, none⟩ = some (.bool true) := cell_at gr 5
                have fb5 : wr.frozen? ⟨b, 5, none⟩ = false := free_at G1.out 5
                have fl5 : wr.frozen? ⟨lb, 5, none⟩ = false := free_at gl 5
                have fr5 : wr.frozen? ⟨rb, 5, none⟩ = false := free_at gr 5
                have HL2 : Hid ((RT.node lb li true ll' lr).isRed = true) := rfl
                have HR2 : Hid ((RT.node rb ri true rl rr).isRed = true) := rfl
                clear gl gr hr HL
                go_wp2_with fail
                refine R1.out.mono ?_
                rintro e w' ⟨rfl, hw⟩
                have hw := hw.symm
                subst hw
                go_wp2_with fail
                refine R2.out.mono ?_
                rintro e w' ⟨rfl, hw⟩
                have hw := hw.symm
                subst hw
                go_wp2_with fail
                go_meet
                case rel => exact ⟨rfl, rfl, b, i, true, _, _, _, rfl, ⟨FH.out.2.2.2.2.2.2, .inr (.inr ⟨c, _, _, rfl, HL2.out, HR2.out, rfl, rfl, rfl⟩)⟩, Wc.out⟩
      case rest =>
        obtain ⟨rfl, rfl, b, i, c, l, r, S1, rfl, A, W1⟩ := hcut
        have OW := Lib.hid (own_has A.out.1)
        obtain ⟨⟨mx1, mn1, g1, i1, i2⟩, -, -⟩ := W1.out.heap b _ OW.out.1
        have b1 : wc.cell? ⟨b, 1, none⟩ = some (.int .i64 mx1) := cell_at g1 1
        have fb1 : wc.frozen? ⟨b, 1, none⟩ = false := free_at g1 1
        clear g1 i1 i2
        have IK := Lib.hid W1.out.ivok.2.1
        go_upto_if 122 with (fail)
        go_cut [] from 67 to 206 (fun wx => Hid (WInv B tb T.root iv w S1 wx))
        case first =>
          as_aux_lemma =>
            by_cases hlt : mx1 < iv.k
            · go_wp2_with fail
              go_meet
              case rel => exact W1.out.max OW.out.1 IK.out
            · go_wp2_with fail
              go_meet
              case rel => exact W1.out
        case rest =>
          have W2 := hcut
          clear b1 fb1 W1 hcut
          obtain ⟨⟨mx2, mn2, g1, i1, i2⟩, -, -⟩ := W2.out.heap b _ OW.out.1
          have b2 : wc.cell? ⟨b, 2, none⟩ = some (.int .i64 mn2) := cell_at g1 2
          have fb2 : wc.frozen? ⟨b, 2, none⟩ = false := free_at g1 2
          clear g1 i1 i2
          go_upto_if 132 with (fail)
          go_cut [] from 67 to 206 (fun wx => Hid (WInv B tb T.root iv w S1 wx))
          case first =>
            as_aux_lemma =>
              by_cases hlt : iv.k < mn2
              · go_wp2_with fail
                go_meet
                case rel => exact W2.out.min OW.out.1 IK.out
              · go_wp2_with fail
                go_meet
                case rel => exact W2.out
          case rest =>
            have W3 := hcut
            clear b2 fb2 W2 hcut IK
            have PR := Lib.hid (par_red P.out.core.dum A.out.1)
            go_upto_region 27 with (fail)
            go_cut [142] from 67 to 206 (fun s142 wx => s142 = .bool (f0.red && c) ∧ wc = wx)
            case first =>
              as_aux_lemma =>
                rcases hf : f0.red with _ | _
                · have R1 : Hid (Calls Tryz.prog 144 #[ptrO (pO (f0 :: F'))] wc fun e w' => e = .returned (.bool false) ∧ w' = wc) := by
                    have := red144 B S1 (pO (f0 :: F')) wc W3.out.heap PR.out.1
                    rw [PR.out.2, hf] at this
                    exact this
                  go_wp2_with fail
                  refine R1.out.mono ?_
                  rintro e w' ⟨rfl, hw⟩
                  have hw := hw.symm
                  subst hw
                  go_wp2_with fail
                  go_meet
                  case rel => exact ⟨by rw [hf]; rfl, rfl⟩
                · have R1 : Hid (Calls Tryz.prog 144 #[ptrO (pO (f0 :: F'))] wc fun e w' => e = .returned (.bool true) ∧ w' = wc) := by
                    have := red144 B S1 (pO (f0 :: F')) wc W3.out.heap PR.out.1
                    rw [PR.out.2, hf] at this
                    exact this
                  have R2 : Hid (Calls Tryz.prog 144 #[.pointer (some ⟨b, 0, none⟩)] wc fun e w' => e = .returned (.bool c) ∧ w' = wc) := by
                    have := red144 B S1 (some b) wc W3.out.heap (fun x e => by obtain rfl := Option.some.inj e; exact ⟨_, OW.out.1⟩)
                    have e : redAt S1 (some b) = c := by show ((S1 b).map (·.red)).getD false = c; rw [OW.out.1]; rfl
                    rw [e] at this
                    exact this
                  go_wp2_with fail
                  refine R1.out.mono ?_
                  rintro e w' ⟨rfl, hw⟩
                  have hw := hw.symm
                  subst hw
                  go_wp2_with fail
                  refine R2.out.mono ?_
                  rintro e w' ⟨rfl, hw⟩
                  have hw := hw.symm
                  subst hw
                  go_wp2_with fail
                  go_meet
                  case rel => exact ⟨by rw [hf]; rfl, rfl⟩
            case rest =>
              obtain ⟨rfl, rfl⟩ := hcut
              go_upto_if 142 with (fail)
              go_cut [5, 6, 8, 9, 10, 15] from 67 to 206 (fun s5 s6 s8 s9 s10 _ wx => s5 = ptrO (pO (f0 :: F')) ∧ s6 = ptrO gp ∧ s8 = .int .i64 (bInt dd) ∧ s9 = .int .i64 (bInt ll) ∧ s10 = .int .i64 (bInt (!ll)) ∧ ∃ S2, Hid (AftC d iv L (f0 :: F') b dd gp hp (left iv.k t ph) S2) ∧ Hid (WInv B tb T.root iv w S2 wx))
              case first =>
                as_aux_lemma =>
                  rcases hv : (f0.red && c) with _ | _
                  · have hv' : f0.red = false ∨ c = false := by
                      rcases hf : f0.red with _ | _
                      · exact .inl rfl
                      · rw [hf] at hv; exact .inr hv
                    have HV := Lib.hid hv'; clear hv'
                    go_wp2_with fail
                    go_meet
                    case rel => exact ⟨rfl, rfl, rfl, rfl, rfl, S1, aft_none P.out HX.out A.out HV.out, W3.out⟩
                  · obtain ⟨hf, hc⟩ : f0.red = true ∧ c = true := by simpa using hv
                    subst hc
                    obtain ⟨h0, pb, gb, pi, gi, pd, gd, ps, gs, hh, H, e1, e2, hps, hgs, e3, e4, e5, e6⟩ := viol_shape P.out A.out hf rfl
                    subst e1 e2 e3 e4 e5 e6
                    have HPS := Lib.hid hps; clear hps
                    have HGS := Lib.hid hgs; clear hgs
                    clear hf h0 PR
                    have hH := A.out.1
                    rcases (show (dd = ll) ∨ (dd = !ll) from (by cases dd <;> cases ll <;> simp)) with e | e
                    · subst e
                      have SF := Lib.hid (single_facts (t := .node b i true l r) rfl hH); clear hH
                      obtain ⟨⟨hx, hn, gh, -, -⟩, -, -⟩ := W3.out.heap hh.b _ SF.out.2.2.1
                      have GH := Lib.hid gh; clear gh
                      go_upto_region 28 with (fail)
                      go_cut [6, 15] from 67 to 206 (fun s6 s15 wx => s6 = ptrO (some gb) ∧ s15 = .int .i64 (bInt hh.dir) ∧ wc = wx)
                      case first =>
                        as_aux_lemma =>
                          obtain ⟨hb, hi, hc, hd, hs⟩ := hh
                          cases hd with
                          | true =>
                            have h4 : wc.cell? ⟨hb, 4, none⟩ = some (.pointer (some ⟨gb, 0, none⟩)) := cell_at GH.out 4
                            have CI := Lib.hid (int145 true wc)
                            go_wp2_with fail
                            refine CI.out.mono ?_
                            rintro e w' ⟨rfl, hw⟩
                            have hw := hw.symm
                            subst hw
                            go_wp2_with fail
                            go_meet
                            case rel => exact ⟨rfl, rfl, rfl⟩
                          | false =>
                            have CI := Lib.hid (int145 false wc)
                            have HSR := Lib.hid SF.out.2.2.2.2.2.2.2.2.2.2.2.2.1
                            cases hs with
                            | nil =>
                              have h4 : wc.cell? ⟨hb, 4, none⟩ = some (.pointer none) := cell_at GH.out 4
                              go_wp2_with fail
                              refine CI.out.mono ?_
                              rintro e w' ⟨rfl, hw⟩
                              have hw := hw.symm
                              subst hw
                              go_wp2_with fail
                              go_meet
                              case rel => exact ⟨rfl, rfl, rfl⟩
                            | node xb xi xc xl xr =>
                              have h4 : wc.cell? ⟨hb, 4, none⟩ = some (.pointer (some ⟨xb, 0, none⟩)) := cell_at GH.out 4
                              have hxg : xb ≠ gb := fun e => HSR.out (congrArg some e)
                              obtain ⟨sx, hsx⟩ := third_sib A.out.1 xb rfl
                              obtain ⟨⟨_, _, gx, -, -⟩, -, -⟩ := W3.out.heap xb _ hsx
                              obtain ⟨⟨_, _, gg, -, -⟩, -, -⟩ := W3.out.heap gb _ SF.out.1
                              have hq := eql163_other hxg gx gg
                              clear gx gg hxg
                              go_wp2_with fail
                              refine CI.out.mono ?_
                              rintro e w' ⟨rfl, hw⟩
                              have hw := hw.symm
                              subst hw
                              go_wp2_with fail
                              go_meet
                              case rel => exact ⟨rfl, rfl, rfl⟩
                      case rest =>
                        obtain ⟨rfl, rfl, rfl⟩ := hcut
                        obtain ⟨⟨_, _, gp5, -, -⟩, -, -⟩ := W3.out.heap pb _ SF.out.2.1
                        have GP := Lib.hid gp5; clear gp5
                        obtain ⟨hb, hi, hc, hd, hs⟩ := hh
                        cases dd with
                        | true =>
                          cases hd with
                          | true =>
                            as_aux_lemma =>
                              have p4 : wc.cell? ⟨pb, 4, none⟩ = some (.pointer (some ⟨b, 0, none⟩)) := cell_at GP.out 4
                              have hbp : some b ≠ some pb := fun e => SF.out.2.2.2.2.2.2.2.2.2.2.2.1 (Option.some.inj e)
                              have HBP := Lib.hid hbp; clear hbp
                              go_wp2_with fail
                              go_region_held3 (fun _ => True) (trivial)
                                (first | (go_at_call 146; refine (rot146_0 B S1 gb pb gi pi gs.root ps.root (some b) false true _ (W3.out.heap.new ((Keeps.refl _ _).drew)) SF.out.1 SF.out.2.1 SF.out.2.2.2.1 SF.out.2.2.2.2.2.2.1 SF.out.2.2.2.2.2.2.2.1 SF.out.2.2.2.2.2.2.2.2.1 SF.out.2.2.2.2.2.2.2.2.2.1 SF.out.2.2.2.2.2.2.2.2.2.2.1 HBP.out).mono ?_; rintro e w5 ⟨rfl, h5, k5⟩; have K5 := Lib.hid (Keeps.ofDrew k5); clear k5; have W5 := Lib.hid (W3.out.step K5.out (fun x e => e.elim (fun e => by subst e; exact W3.out.at1 SF.out.1) (fun e => by subst e; exact W3.out.at1 SF.out.2.1)) h5); clear h5; have gh5 := K5.out.heap GH.out (fun e => e.elim (fun e => SF.out.2.2.2.2.1 e.symm) (fun e => SF.out.2.2.2.2.2.1 e.symm)); have h4 : w5.cell? ⟨hb, 4, none⟩ = some (.pointer (some ⟨gb, 0, none⟩)) := cell_at gh5 4; have fh4 : w5.frozen? ⟨hb, 4, none⟩ = false := free_at gh5 4; clear gh5))
                              go_wp2_with fail
                              go_meet
                              case rel =>
                                refine ⟨rfl, rfl, rfl, rfl, rfl, _, aft_single P.out HX.out A.out HPS.out HGS.out SF.out.2.2.2.2.2.2.2.2.2.2.2.2.2.2, ?_⟩
                                exact W5.out.put1 ((upd_other _ _ (Ne.symm SF.out.2.2.2.2.2.1)).trans ((upd_other _ _ (Ne.symm SF.out.2.2.2.2.1)).trans SF.out.2.2.1)) (some pb)
                          | false =>
                            as_aux_lemma =>
                              have p4 : wc.cell? ⟨pb, 4, none⟩ = some (.pointer (some ⟨b, 0, none⟩)) := cell_at GP.out 4
                              have hbp : some b ≠ some pb := fun e => SF.out.2.2.2.2.2.2.2.2.2.2.2.1 (Option.some.inj e)
                              have HBP := Lib.hid hbp; clear hbp
                              go_wp2_with fail
                              go_region_held3 (fun _ => True) (trivial)
                                (first | (go_at_call 146; refine (rot146_0 B S1 gb pb gi pi gs.root ps.root (some b) false true _ (W3.out.heap.new ((Keeps.refl _ _).drew)) SF.out.1 SF.out.2.1 SF.out.2.2.2.1 SF.out.2.2.2.2.2.2.1 SF.out.2.2.2.2.2.2.2.1 SF.out.2.2.2.2.2.2.2.2.1 SF.out.2.2.2.2.2.2.2.2.2.1 SF.out.2.2.2.2.2.2.2.2.2.2.1 HBP.out).mono ?_; rintro e w5 ⟨rfl, h5, k5⟩; have K5 := Lib.hid (Keeps.ofDrew k5); clear k5; have W5 := Lib.hid (W3.out.step K5.out (fun x e => e.elim (fun e => by subst e; exact W3.out.at1 SF.out.1) (fun e => by subst e; exact W3.out.at1 SF.out.2.1)) h5); clear h5; have gh5 := K5.out.heap GH.out (fun e => e.elim (fun e => SF.out.2.2.2.2.1 e.symm) (fun e => SF.out.2.2.2.2.2.1 e.symm)); have h3 : w5.cell? ⟨hb, 3, none⟩ = some (.pointer (some ⟨gb, 0, none⟩)) := cell_at gh5 3; have fh3 : w5.frozen? ⟨hb, 3, none⟩ = false := free_at gh5 3; clear gh5))
                              go_wp2_with fail
                              go_meet
                              case rel =>
                                refine ⟨rfl, rfl, rfl, rfl, rfl, _, aft_single P.out HX.out A.out HPS.out HGS.out SF.out.2.2.2.2.2.2.2.2.2.2.2.2.2.2, ?_⟩
                                exact W5.out.put0 ((upd_other _ _ (Ne.symm SF.out.2.2.2.2.2.1)).trans ((upd_other _ _ (Ne.symm SF.out.2.2.2.2.1)).trans SF.out.2.2.1)) (some pb)
                        | false =>
                          cases hd with
                          | true =>
                            as_aux_lemma =>
                              have p3 : wc.cell? ⟨pb, 3, none⟩ = some (.pointer (some ⟨b, 0, none⟩)) := cell_at GP.out 3
                              have hbp : some b ≠ some pb := fun e => SF.out.2.2.2.2.2.2.2.2.2.2.2.1 (Option.some.inj e)
                              have HBP := Lib.hid hbp; clear hbp
                              go_wp2_with fail
                              go_region_held3 (fun _ => True) (trivial)
                                (first | (go_at_call 146; refine (rot146_1 B S1 gb pb gi pi gs.root ps.root (some b) false true _ (W3.out.heap.new ((Keeps.refl _ _).drew)) SF.out.1 SF.out.2.1 SF.out.2.2.2.1 SF.out.2.2.2.2.2.2.1 SF.out.2.2.2.2.2.2.2.1 SF.out.2.2.2.2.2.2.2.2.1 SF.out.2.2.2.2.2.2.2.2.2.1 SF.out.2.2.2.2.2.2.2.2.2.2.1 HBP.out).mono ?_; rintro e w5 ⟨rfl, h5, k5⟩; have K5 := Lib.hid (Keeps.ofDrew k5); clear k5; have W5 := Lib.hid (W3.out.step K5.out (fun x e => e.elim (fun e => by subst e; exact W3.out.at1 SF.out.1) (fun e => by subst e; exact W3.out.at1 SF.out.2.1)) h5); clear h5; have gh5 := K5.out.heap GH.out (fun e => e.elim (fun e => SF.out.2.2.2.2.1 e.symm) (fun e => SF.out.2.2.2.2.2.1 e.symm)); have h4 : w5.cell? ⟨hb, 4, none⟩ = some (.pointer (some ⟨gb, 0, none⟩)) := cell_at gh5 4; have fh4 : w5.frozen? ⟨hb, 4, none⟩ = false := free_at gh5 4; clear gh5))
                              go_wp2_with fail
                              go_meet
                              case rel =>
                                refine ⟨rfl, rfl, rfl, rfl, rfl, _, aft_single P.out HX.out A.out HPS.out HGS.out SF.out.2.2.2.2.2.2.2.2.2.2.2.2.2.2, ?_⟩
                                exact W5.out.put1 ((upd_other _ _ (Ne.symm SF.out.2.2.2.2.2.1)).trans ((upd_other _ _ (Ne.symm SF.out.2.2.2.2.1)).trans SF.out.2.2.1)) (some pb)
                          | false =>
                            as_aux_lemma =>
                              have p3 : wc.cell? ⟨pb, 3, none⟩ = some (.pointer (some ⟨b, 0, none⟩)) := cell_at GP.out 3
                              have hbp : some b ≠ some pb := fun e => SF.out.2.2.2.2.2.2.2.2.2.2.2.1 (Option.some.inj e)
                              have HBP := Lib.hid hbp; clear hbp
                              go_wp2_with fail
                              go_region_held3 (fun _ => True) (trivial)
                                (first | (go_at_call 146; refine (rot146_1 B S1 gb pb gi pi gs.root ps.root (some b) false true _ (W3.out.heap.new ((Keeps.refl _ _).drew)) SF.out.1 SF.out.2.1 SF.out.2.2.2.1 SF.out.2.2.2.2.2.2.1 SF.out.2.2.2.2.2.2.2.1 SF.out.2.2.2.2.2.2.2.2.1 SF.out.2.2.2.2.2.2.2.2.2.1 SF.out.2.2.2.2.2.2.2.2.2.2.1 HBP.out).mono ?_; rintro e w5 ⟨rfl, h5, k5⟩; have K5 := Lib.hid (Keeps.ofDrew k5); clear k5; have W5 := Lib.hid (W3.out.step K5.out (fun x e => e.elim (fun e => by subst e; exact W3.out.at1 SF.out.1) (fun e => by subst e; exact W3.out.at1 SF.out.2.1)) h5); clear h5; have gh5 := K5.out.heap GH.out (fun e => e.elim (fun e => SF.out.2.2.2.2.1 e.symm) (fun e => SF.out.2.2.2.2.2.1 e.symm)); have h3 : w5.cell? ⟨hb, 3, none⟩ = some (.pointer (some ⟨gb, 0, none⟩)) := cell_at gh5 3; have fh3 : w5.frozen? ⟨hb, 3, none⟩ = false := free_at gh5 3; clear gh5))
                              go_wp2_with fail
                              go_meet
                              case rel =>
                                refine ⟨rfl, rfl, rfl, rfl, rfl, _, aft_single P.out HX.out A.out HPS.out HGS.out SF.out.2.2.2.2.2.2.2.2.2.2.2.2.2.2, ?_⟩
                                exact W5.out.put0 ((upd_other _ _ (Ne.symm SF.out.2.2.2.2.2.1)).trans ((upd_other _ _ (Ne.symm SF.out.2.2.2.2.1)).trans SF.out.2.2.1)) (some pb)
                    · subst e
                      have DF := Lib.hid (double_facts hH); clear hH
                      obtain ⟨⟨hx, hn, gh, -, -⟩, -, -⟩ := W3.out.heap hh.b _ DF.out.2.2.2.1
                      have GH := Lib.hid gh; clear gh
                      go_upto_region 28 with (fail)
                      go_cut [6, 15] from 67 to 206 (fun s6 s15 wx => s6 = ptrO (some gb) ∧ s15 = .int .i64 (bInt hh.dir) ∧ wc = wx)
                      case first =>
                        as_aux_lemma =>
                          obtain ⟨hb, hi, hc, hd, hs⟩ := hh
                          cases hd with
                          | true =>
                            have h4 : wc.cell? ⟨hb, 4, none⟩ = some (.pointer (some ⟨gb, 0, none⟩)) := cell_at GH.out 4
                            have CI := Lib.hid (int145 true wc)
                            go_wp2_with fail
                            refine CI.out.mono ?_
                            rintro e w' ⟨rfl, hw⟩
                            have hw := hw.symm
                            subst hw
                            go_wp2_with fail
                            go_meet
                            case rel => exact ⟨rfl, rfl, rfl⟩
                          | false =>
                            have CI := Lib.hid (int145 false wc)
                            have HSR := Lib.hid DF.out.2.2.2.2.2.2.1.2.2.2.2.2.2.2.2.2
                            cases hs with
                            | nil =>
                              have h4 : wc.cell? ⟨hb, 4, none⟩ = some (.pointer none) := cell_at GH.out 4
                              go_wp2_with fail
                              refine CI.out.mono ?_
                              rintro e w' ⟨rfl, hw⟩
                              have hw := hw.symm
                              subst hw
                              go_wp2_with fail
                              go_meet
                              case rel => exact ⟨rfl, rfl, rfl⟩
                            | node xb xi xc xl xr =>
                              have h4 : wc.cell? ⟨hb, 4, none⟩ = some (.pointer (some ⟨xb, 0, none⟩)) := cell_at GH.out 4
                              have hxg : xb ≠ gb := fun e => HSR.out (congrArg some e)
                              obtain ⟨sx, hsx⟩ := third_sib A.out.1 xb rfl
                              obtain ⟨⟨_, _, gx, -, -⟩, -, -⟩ := W3.out.heap xb _ hsx
                              obtain ⟨⟨_, _, gg, -, -⟩, -, -⟩ := W3.out.heap gb _ DF.out.1
                              have hq := eql163_other hxg gx gg
                              clear gx gg hxg
                              go_wp2_with fail
                              refine CI.out.mono ?_
                              rintro e w' ⟨rfl, hw⟩
                              have hw := hw.symm
                              subst hw
                              go_wp2_with fail
                              go_meet
                              case rel => exact ⟨rfl, rfl, rfl⟩
                      case rest =>
                        obtain ⟨rfl, rfl, rfl⟩ := hcut
                        obtain ⟨⟨_, _, gp5, -, -⟩, -, -⟩ := W3.out.heap pb _ DF.out.2.1
                        have GP := Lib.hid gp5; clear gp5
                        have HPQ := Lib.hid (DF.out.2.2.2.2.2.2.1.2.2.1)
                        go_upto_region 29 with (fail)
                        go_cut [5, 9, 158] from 67 to 206 (fun s5 s9 s158 wx => s5 = .pointer (some ⟨pb, 0, none⟩) ∧ s9 = .int .i64 (bInt ll) ∧ s158 = .bool false ∧ wc = wx)
                        case first =>
                          as_aux_lemma =>
                            cases ll with
                            | true =>
                              cases ps with
                              | nil =>
                                have p4 : wc.cell? ⟨pb, 4, none⟩ = some (.pointer none) := cell_at GP.out 4
                                go_wp2_with fail
                                go_meet
                                case rel => exact ⟨rfl, rfl, rfl, rfl⟩
                              | node xb xi xc xl xr =>
                                have p4 : wc.cell? ⟨pb, 4, none⟩ = some (.pointer (some ⟨xb, 0, none⟩)) := cell_at GP.out 4
                                obtain ⟨sx, hsx⟩ := first_sib A.out.1 xb rfl
                                obtain ⟨⟨_, _, gx, -, -⟩, -, -⟩ := W3.out.heap xb _ hsx
                                obtain ⟨⟨_, _, gq, -, -⟩, -, -⟩ := W3.out.heap b _ OW.out.1
                                have hq := eql163_other (fun e => HPQ.out (congrArg some e.symm)) gq gx
                                clear gx gq
                                go_wp2_with fail
                                go_meet
                                case rel => exact ⟨rfl, rfl, rfl, rfl⟩
                            | false =>
                              cases ps with
                              | nil =>
                                have p3 : wc.cell? ⟨pb, 3, none⟩ = some (.pointer none) := cell_at GP.out 3
                                go_wp2_with fail
                                go_meet
                                case rel => exact ⟨rfl, rfl, rfl, rfl⟩
                              | node xb xi xc xl xr =>
                                have p3 : wc.cell? ⟨pb, 3, none⟩ = some (.pointer (some ⟨xb, 0, none⟩)) := cell_at GP.out 3
                                obtain ⟨sx, hsx⟩ := first_sib A.out.1 xb rfl
                                obtain ⟨⟨_, _, gx, -, -⟩, -, -⟩ := W3.out.heap xb _ hsx
                                obtain ⟨⟨_, _, gq, -, -⟩, -, -⟩ := W3.out.heap b _ OW.out.1
                                have hq := eql163_other (fun e => HPQ.out (congrArg some e.symm)) gq gx
                                clear gx gq
                                go_wp2_with fail
                                go_meet
                                case rel => exact ⟨rfl, rfl, rfl, rfl⟩
                        case rest =>
                          obtain ⟨rfl, rfl, rfl, rfl⟩ := hcut
                          obtain ⟨hb, hi, hc, hd, hs⟩ := hh
                          cases ll with
                          | true =>
                            cases hd with
                            | true =>
                              as_aux_lemma =>
                                go_wp2_with fail
                                go_region_held3 (fun _ => True) (trivial)
                                  (first | (go_at_call 147; refine (dbl147_0 B S1 gb pb b gi pi i gs.root ps.root l.root r.root false true true _ (W3.out.heap.new ((Keeps.refl _ _).drew)) DF.out.1 DF.out.2.1 DF.out.2.2.1 DF.out.2.2.2.2.1.1 DF.out.2.2.2.2.1.2.1 DF.out.2.2.2.2.1.2.2.1 DF.out.2.2.2.2.2.1.1 DF.out.2.2.2.2.2.1.2.1 DF.out.2.2.2.2.2.1.2.2.1 DF.out.2.2.2.2.2.1.2.2.2 DF.out.2.2.2.2.2.2.1.1 DF.out.2.2.2.2.2.2.1.2.1 DF.out.2.2.2.2.2.2.1.2.2.2.2.2.2.1 DF.out.2.2.2.2.2.2.1.2.2.2.2.1 DF.out.2.2.2.2.2.2.1.2.2.2.2.2.1).mono ?_; rintro e w5 ⟨rfl, h5, k5⟩; have K5 := Lib.hid (Keeps.ofDrew k5); clear k5; have W5 := Lib.hid (W3.out.step K5.out (fun x e => e.elim (fun e => by subst e; exact W3.out.at1 DF.out.1) (fun e => e.elim (fun e => by subst e; exact W3.out.at1 DF.out.2.1) (fun e => by subst e; exact W3.out.at1 DF.out.2.2.1))) h5); clear h5; have gh5 := K5.out.heap GH.out (fun e => e.elim (fun e => DF.out.2.2.2.2.1.2.2.2.1 e.symm) (fun e => e.elim (fun e => DF.out.2.2.2.2.1.2.2.2.2.1 e.symm) (fun e => DF.out.2.2.2.2.1.2.2.2.2.2 e.symm))); have h4 : w5.cell? ⟨hb, 4, none⟩ = some (.pointer (some ⟨gb, 0, none⟩)) := cell_at gh5 4; have fh4 : w5.frozen? ⟨hb, 4, none⟩ = false := free_at gh5 4; clear gh5))
                                go_wp2_with fail
                                go_meet
                                case rel =>
                                  refine ⟨rfl, rfl, rfl, rfl, rfl, _, aft_double P.out HX.out A.out HPS.out HGS.out DF.out.2.2.2.2.2.2.2, ?_⟩
                                  exact W5.out.put1 ((upd_other _ _ (Ne.symm DF.out.2.2.2.2.1.2.2.2.1)).trans ((upd_other _ _ (Ne.symm DF.out.2.2.2.2.1.2.2.2.2.2)).trans ((upd_other _ _ (Ne.symm DF.out.2.2.2.2.1.2.2.2.2.1)).trans DF.out.2.2.2.1))) (some b)
                            | false =>
                              as_aux_lemma =>
                                go_wp2_with fail
                                go_region_held3 (fun _ => True) (trivial)
                                  (first | (go_at_call 147; refine (dbl147_0 B S1 gb pb b gi pi i gs.root ps.root l.root r.root false true true _ (W3.out.heap.new ((Keeps.refl _ _).drew)) DF.out.1 DF.out.2.1 DF.out.2.2.1 DF.out.2.2.2.2.1.1 DF.out.2.2.2.2.1.2.1 DF.out.2.2.2.2.1.2.2.1 DF.out.2.2.2.2.2.1.1 DF.out.2.2.2.2.2.1.2.1 DF.out.2.2.2.2.2.1.2.2.1 DF.out.2.2.2.2.2.1.2.2.2 DF.out.2.2.2.2.2.2.1.1 DF.out.2.2.2.2.2.2.1.2.1 DF.out.2.2.2.2.2.2.1.2.2.2.2.2.2.1 DF.out.2.2.2.2.2.2.1.2.2.2.2.1 DF.out.2.2.2.2.2.2.1.2.2.2.2.2.1).mono ?_; rintro e w5 ⟨rfl, h5, k5⟩; have K5 := Lib.hid (Keeps.ofDrew k5); clear k5; have W5 := Lib.hid (W3.out.step K5.out (fun x e => e.elim (fun e => by subst e; exact W3.out.at1 DF.out.1) (fun e => e.elim (fun e => by subst e; exact W3.out.at1 DF.out.2.1) (fun e => by subst e; exact W3.out.at1 DF.out.2.2.1))) h5); clear h5; have gh5 := K5.out.heap GH.out (fun e => e.elim (fun e => DF.out.2.2.2.2.1.2.2.2.1 e.symm) (fun e => e.elim (fun e => DF.out.2.2.2.2.1.2.2.2.2.1 e.symm) (fun e => DF.out.2.2.2.2.1.2.2.2.2.2 e.symm))); have h3 : w5.cell? ⟨hb, 3, none⟩ = some (.pointer (some ⟨gb, 0, none⟩)) := cell_at gh5 3; have fh3 : w5.frozen? ⟨hb, 3, none⟩ = false := free_at gh5 3; clear gh5))
                                go_wp2_with fail
                                go_meet
                                case rel =>
                                  refine ⟨rfl, rfl, rfl, rfl, rfl, _, aft_double P.out HX.out A.out HPS.out HGS.out DF.out.2.2.2.2.2.2.2, ?_⟩
                                  exact W5.out.put0 ((upd_other _ _ (Ne.symm DF.out.2.2.2.2.1.2.2.2.1)).trans ((upd_other _ _ (Ne.symm DF.out.2.2.2.2.1.2.2.2.2.2)).trans ((upd_other _ _ (Ne.symm DF.out.2.2.2.2.1.2.2.2.2.1)).trans DF.out.2.2.2.1))) (some b)
                          | false =>
                            cases hd with
                            | true =>
                              as_aux_lemma =>
                                go_wp2_with fail
                                go_region_held3 (fun _ => True) (trivial)
                                  (first | (go_at_call 147; refine (dbl147_1 B S1 gb pb b gi pi i gs.root ps.root r.root l.root false true true _ (W3.out.heap.new ((Keeps.refl _ _).drew)) DF.out.1 DF.out.2.1 DF.out.2.2.1 DF.out.2.2.2.2.1.1 DF.out.2.2.2.2.1.2.1 DF.out.2.2.2.2.1.2.2.1 DF.out.2.2.2.2.2.1.1 DF.out.2.2.2.2.2.1.2.1 DF.out.2.2.2.2.2.1.2.2.2 DF.out.2.2.2.2.2.1.2.2.1 DF.out.2.2.2.2.2.2.1.1 DF.out.2.2.2.2.2.2.1.2.1 DF.out.2.2.2.2.2.2.1.2.2.2.1 DF.out.2.2.2.2.2.2.1.2.2.2.2.2.2.2.1 DF.out.2.2.2.2.2.2.1.2.2.2.2.2.2.2.2.1).mono ?_; rintro e w5 ⟨rfl, h5, k5⟩; have K5 := Lib.hid (Keeps.ofDrew k5); clear k5; have W5 := Lib.hid (W3.out.step K5.out (fun x e => e.elim (fun e => by subst e; exact W3.out.at1 DF.out.1) (fun e => e.elim (fun e => by subst e; exact W3.out.at1 DF.out.2.1) (fun e => by subst e; exact W3.out.at1 DF.out.2.2.1))) h5); clear h5; have gh5 := K5.out.heap GH.out (fun e => e.elim (fun e => DF.out.2.2.2.2.1.2.2.2.1 e.symm) (fun e => e.elim (fun e => DF.out.2.2.2.2.1.2.2.2.2.1 e.symm) (fun e => DF.out.2.2.2.2.1.2.2.2.2.2 e.symm))); have h4 : w5.cell? ⟨hb, 4, none⟩ = some (.pointer (some ⟨gb, 0, none⟩)) := cell_at gh5 4; have fh4 : w5.frozen? ⟨hb, 4, none⟩ = false := free_at gh5 4; clear gh5))
                                go_wp2_with fail
                                go_meet
                                case rel =>
                                  refine ⟨rfl, rfl, rfl, rfl, rfl, _, aft_double P.out HX.out A.out HPS.out HGS.out DF.out.2.2.2.2.2.2.2, ?_⟩
                                  exact W5.out.put1 ((upd_other _ _ (Ne.symm DF.out.2.2.2.2.1.2.2.2.1)).trans ((upd_other _ _ (Ne.symm DF.out.2.2.2.2.1.2.2.2.2.2)).trans ((upd_other _ _ (Ne.symm DF.out.2.2.2.2.1.2.2.2.2.1)).trans DF.out.2.2.2.1))) (some b)
                            | false =>
                              as_aux_lemma =>
                                go_wp2_with fail
                                go_region_held3 (fun _ => True) (trivial)
                                  (first | (go_at_call 147; refine (dbl147_1 B S1 gb pb b gi pi i gs.root ps.root r.root l.root false true true _ (W3.out.heap.new ((Keeps.refl _ _).drew)) DF.out.1 DF.out.2.1 DF.out.2.2.1 DF.out.2.2.2.2.1.1 DF.out.2.2.2.2.1.2.1 DF.out.2.2.2.2.1.2.2.1 DF.out.2.2.2.2.2.1.1 DF.out.2.2.2.2.2.1.2.1 DF.out.2.2.2.2.2.1.2.2.2 DF.out.2.2.2.2.2.1.2.2.1 DF.out.2.2.2.2.2.2.1.1 DF.out.2.2.2.2.2.2.1.2.1 DF.out.2.2.2.2.2.2.1.2.2.2.1 DF.out.2.2.2.2.2.2.1.2.2.2.2.2.2.2.1 DF.out.2.2.2.2.2.2.1.2.2.2.2.2.2.2.2.1).mono ?_; rintro e w5 ⟨rfl, h5, k5⟩; have K5 := Lib.hid (Keeps.ofDrew k5); clear k5; have W5 := Lib.hid (W3.out.step K5.out (fun x e => e.elim (fun e => by subst e; exact W3.out.at1 DF.out.1) (fun e => e.elim (fun e => by subst e; exact W3.out.at1 DF.out.2.1) (fun e => by subst e; exact W3.out.at1 DF.out.2.2.1))) h5); clear h5; have gh5 := K5.out.heap GH.out (fun e => e.elim (fun e => DF.out.2.2.2.2.1.2.2.2.1 e.symm) (fun e => e.elim (fun e => DF.out.2.2.2.2.1.2.2.2.2.1 e.symm) (fun e => DF.out.2.2.2.2.1.2.2.2.2.2 e.symm))); have h3 : w5.cell? ⟨hb, 3, none⟩ = some (.pointer (some ⟨gb, 0, none⟩)) := cell_at gh5 3; have fh3 : w5.frozen? ⟨hb, 3, none⟩ = false := free_at gh5 3; clear gh5))
                                go_wp2_with fail
                                go_meet
                                case rel =>
                                  refine ⟨rfl, rfl, rfl, rfl, rfl, _, aft_double P.out HX.out A.out HPS.out HGS.out DF.out.2.2.2.2.2.2.2, ?_⟩
                                  exact W5.out.put0 ((upd_other _ _ (Ne.symm DF.out.2.2.2.2.1.2.2.2.1)).trans ((upd_other _ _ (Ne.symm DF.out.2.2.2.2.1.2.2.2.2.2)).trans ((upd_other _ _ (Ne.symm DF.out.2.2.2.2.1.2.2.2.2.1)).trans DF.out.2.2.2.1))) (some b)
              case rest =>
                obtain ⟨rfl, rfl, rfl, rfl, rfl, S2, AF, W4⟩ := hcut
                clear A W3 OW PR
                rcases AF.out with ⟨s, hsb, hsi, hfin⟩ | ⟨i2, s, F2, t2, ph2, hsb, hsi, hik, hid, hroot, hP2, hpO, hlt⟩
                ·
                  as_aux_lemma =>
                    have FN := Lib.hid hfin; clear hfin
                    obtain ⟨⟨mx, mn, g1, -, -⟩, -, -⟩ := W4.out.heap b _ hsb
                    have c6 : wc.cell? ⟨b, 6, none⟩ = some (.int .u64 (iv.id : Int)) := by rw [cell_at g1 6, Sh.cells, hsi]; rfl
                    clear g1 AF P hsb hsi
                    obtain ⟨T', hTn, hT1, hT2, hT3, hT4⟩ := FN.out
                    cases T' with
                    | nil => exact absurd rfl hTn
                    | node tb' ti tc tl tr =>
                    have HT4 := Lib.hid hT4
                    have HT3 := Lib.hid hT3
                    have HT2 := Lib.hid hT2
                    have HT1 := Lib.hid hT1
                    have hsd : S2 d = some ⟨none, none, some tb', false⟩ := hT4.at'
                    have hst : S2 tb' = some ⟨some ti, tl.root, tr.root, tc⟩ := hT4.drop.at'
                    obtain ⟨⟨_, _, g2, -, -⟩, -, -⟩ := W4.out.heap d _ hsd
                    obtain ⟨⟨mx', mn', g3, i1, i2⟩, -, -⟩ := W4.out.heap tb' _ hst
                    obtain ⟨m, hm⟩ := W4.out.tree
                    have d4 : wc.cell? ⟨d, 4, none⟩ = some (.pointer (some ⟨tb', 0, none⟩)) := cell_at g2 4
                    have t0 : wc.cell? ⟨tb, 0, none⟩ = some (ptrO T.root) := cell_at hm 0
                    have ft0 : wc.frozen? ⟨tb, 0, none⟩ = false := free_at hm 0
                    have t5 : wc.cell? ⟨tb', 5, none⟩ = some (.bool tc) := cell_at g3 5
                    have ft5 : wc.frozen? ⟨tb', 5, none⟩ = false := free_at g3 5
                    have hne : tb' ≠ tb := (W4.out.at2 hst).2
                    have hne' : tb ≠ tb' := Ne.symm hne
                    have K1 := (Keeps.refl (fun x => x = tb) wc).setIn tb 0 (.pointer (some ⟨tb', 0, none⟩)) rfl
                    have K2 := (Keeps.refl (fun x => x = tb') (wc.setCell ⟨tb, 0, none⟩ (.pointer (some ⟨tb', 0, none⟩)))).setIn tb' 5 (.bool false) rfl
                    have hBt := W4.out.tbB
                    have HO1 : HeapOK B (wc.setCell ⟨tb, 0, none⟩ (.pointer (some ⟨tb', 0, none⟩))) S2 := W4.out.heap.keeps K1 (fun x s hx e => W4.out.heap.neTree W4.out.tree hx e) (fun x hx e => by omega)
                    have HO2 := Lib.hid (HO1.turn K2 hst (s' := ⟨some ti, tl.root, tr.root, false⟩) rfl i1 i2 (heap_setCell_same _ tb' 5 _ _ _ (set_heap _ _ _ g3 hne)))
                    have TM := Lib.hid (set_heap (wc.setCell ⟨tb, 0, none⟩ (.pointer (some ⟨tb', 0, none⟩))) ⟨tb', 5, none⟩ (.bool false) (heap_setCell_same wc tb 0 _ _ (.pointer (some ⟨tb', 0, none⟩)) hm) hne')
                    have KF := Lib.hid ((W4.out.keeps.trans K1 (fun x _ e => by rw [e]; exact ⟨hBt, .inl rfl⟩)).trans K2 (fun x hx e => by subst e; exact W4.out.mine hst hx))
                    have HL' := HL.out
                    clear g2 g3 hm hT1 hT2 hT3 hT4 hTn hsd hst K1 K2 HO1 FN i1 i2
                    go_wp2_with fail
                    go_end0
                    refine ⟨rfl, ⟨.node tb' ti false tl tr, _, ?_, rfl, HT2.out, by rw [HL.out]; exact HT3.out, (HT4.out.drop).upd ⟨some ti, tl.root, tr.root, false⟩, HO2.out, ⟨m, TM.out⟩, hBt⟩, KF.out⟩
                    exact ⟨fun e => (by cases e), HT1.out.2.1, HT1.out.2.2⟩
                ·
                  as_aux_lemma =>
                    obtain ⟨⟨mx, mn, g1, -, -⟩, hiv, -⟩ := W4.out.heap b _ hsb
                    have hI2 : IvOK B wc i2 := by rw [hsi] at hiv; exact hiv
                    have c0 : wc.cell? ⟨b, 0, none⟩ = some (.iface 132 (spanV i2)) := by rw [cell_at g1 0, Sh.cells, hsi]; rfl
                    have c6 : wc.cell? ⟨b, 6, none⟩ = some (.int .u64 (i2.id : Int)) := by rw [cell_at g1 6, Sh.cells, hsi]; rfl
                    have c3 : wc.cell? ⟨b, 3, none⟩ = some (ptrO s.c0) := cell_at g1 3
                    have c4 : wc.cell? ⟨b, 4, none⟩ = some (ptrO s.c1) := cell_at g1 4
                    have P2 := Lib.hid hP2
                    have HI2 := Lib.hid hI2
                    have HPO := Lib.hid hpO
                    have HRT := Lib.hid hroot
                    have HLT := Lib.hid hlt
                    have HIK := Lib.hid hik
                    have hid' : ¬ ((i2.id : Int) = (iv.id : Int)) := fun e => hid (by omega)
                    clear g1 hiv hI2 hP2 hpO hroot hlt hik hid AF P hsb hsi
                    have OP := Lib.hid (opp148 dd wc)
                    go_wp2_with fail
                    refine OP.out.mono ?_
                    rintro e w' ⟨rfl, hw⟩
                    have hw := hw.symm
                    subst hw
                    go_wp2_with fail
                    go_region_held3 (fun w' => w'.cell? ⟨b, 0, none⟩ = some (.iface 132 (spanV i2)) ∧ w'.cell? ⟨b, 6, none⟩ = some (.int .u64 (i2.id : Int))) (first | go_keep | exact ⟨hk5.out.cell c0 (fun f => f), hk5.out.cell c6 (fun f => f)⟩)
                      (first
                        | (go_at_call 157; refine (low157 B i2 _ ?_).mono ?_; (exact HI2.out.keeps (Keeps.drew (Keeps.refl (fun _ => False) _)) (fun _ _ f => f)); rintro e w5 ⟨rfl, hk⟩; have hk5 : Hid (Keeps (fun _ => False) wc w5) := Keeps.ofDrew hk; clear hk)
                        | (go_at_call 149; refine (cmp149 i2.k iv.k _ _ _ HIK.out).mono ?_; rintro e w6 ⟨rfl, hw⟩; have hw := hw.symm; subst hw))
                    have W5 := Lib.hid (W4.out.new hk5.out)
                    have e3 : w5.cell? ⟨b, 3, none⟩ = some (ptrO s.c0) := hk5.out.cell c3 (fun f => f)
                    have e4 : w5.cell? ⟨b, 4, none⟩ = some (ptrO s.c1) := hk5.out.cell c4 (fun f => f)
                    clear c0 c3 c4 c6 W4 hk5 HI2 HIK hid'
                    cases gp with
                    | none =>
                      by_cases hway : i2.k < iv.k
                      · have hwt : wayOf iv.k i2 = true := by simp [wayOf, hway]
                        have HWT := Lib.hid hwt; clear hwt
                        have hdec : decide (i2.k < iv.k) = true := by simpa using hway
                        go_wp2_with fail
                        go_quiet (fail)
                        go_wp2_with fail
                        go_roundg (left iv.k t2 ph2)
                        case measure => have := HLT.out; omega
                        case rel => exact ⟨F2, t2, ph2, S2, wayOf iv.k i2, dd, pO (f0 :: F'), hp, by rw [HPO.out]; rfl, rfl, by rw [HRT.out, HWT.out]; rfl, by first | rfl | (rw [HWT.out]; rfl), rfl, rfl, rfl, Nat.le_refl _, P2.out, W5.out.new ((Keeps.refl _ _).drewN _)⟩
                      · have hwt : wayOf iv.k i2 = false := by simp [wayOf, hway]
                        have HWT := Lib.hid hwt; clear hwt
                        have hdec : decide (i2.k < iv.k) = false := by simpa using hway
                        go_wp2_with fail
                        go_quiet (fail)
                        go_wp2_with fail
                        go_roundg (left iv.k t2 ph2)
                        case measure => have := HLT.out; omega
                        case rel => exact ⟨F2, t2, ph2, S2, wayOf iv.k i2, dd, pO (f0 :: F'), hp, by rw [HPO.out]; rfl, rfl, by rw [HRT.out, HWT.out]; rfl, by first | rfl | (rw [HWT.out]; rfl), rfl, rfl, rfl, Nat.le_refl _, P2.out, W5.out.new ((Keeps.refl _ _).drewN _)⟩
                    | some gp' =>
                      by_cases hway : i2.k < iv.k
                      · have hwt : wayOf iv.k i2 = true := by simp [wayOf, hway]
                        have HWT := Lib.hid hwt; clear hwt
                        have hdec : decide (i2.k < iv.k) = true := by simpa using hway
                        go_wp2_with fail
                        go_quiet (fail)
                        go_wp2_with fail
                        go_roundg (left iv.k t2 ph2)
                        case measure => have := HLT.out; omega
                        case rel => exact ⟨F2, t2, ph2, S2, wayOf iv.k i2, dd, pO (f0 :: F'), gp', by rw [HPO.out]; rfl, rfl, by rw [HRT.out, HWT.out]; rfl, by first | rfl | (rw [HWT.out]; rfl), rfl, rfl, rfl, Nat.le_refl _, P2.out, W5.out.new ((Keeps.refl _ _).drewN _)⟩
                      · have hwt : wayOf iv.k i2 = false := by simp [wayOf, hway]
                        have HWT := Lib.hid hwt; clear hwt
                        have hdec : decide (i2.k < iv.k) = false := by simpa using hway
                        go_wp2_with fail
                        go_quiet (fail)
                        go_wp2_with fail
                        go_roundg (left iv.k t2 ph2)
                        case measure => have := HLT.out; omega
                        case rel => exact ⟨F2, t2, ph2, S2, wayOf iv.k i2, dd, pO (f0 :: F'), gp', by rw [HPO.out]; rfl, rfl, by rw [HRT.out, HWT.out]; rfl, by first | rfl | (rw [HWT.out]; rfl), rfl, rfl, rfl, Nat.le_refl _, P2.out, W5.out.new ((Keeps.refl _ _).drewN _)⟩
end Go.Proofs.YtegejfhomocloaaGreat
