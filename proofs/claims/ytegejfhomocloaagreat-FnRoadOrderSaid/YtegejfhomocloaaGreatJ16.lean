/- A part of the proof of FnRoadOrder: the tree of intervals: the recursion of a query. No conditions but those of the theorems. -/
import Derived.Test.YtegejfhomocloaaGreatJ15
set_option linter.all false
namespace Go.Proofs.YtegejfhomocloaaGreat
open Go.RowKit

theorem HeapOK.old {B B0 : Nat} {w w' : World} {S : Nat → Option Sh} (h : HeapOK B0 w S) (hlt : ∀ b s, S b = some s → b < B) (hB : B0 ≤ B) (k : Keeps (fun y => B ≤ y) w w') : HeapOK B0 w' S := h.keeps k (fun b s hs f => by have := hlt b s hs; omega) (fun x hx f => by omega)
theorem new_old {B : Nat} {w w' : World} (k : Keeps (fun _ => False) w w') : Keeps (fun y => B ≤ y) w w' := k.mono (fun _ _ f => f.elim)

/-- What a visit leaves. -/
def Seen (B pe : Nat) (xs : List Iv) (w : World) (e : Ending) (w' : World) : Prop := e = .returned (.tuple #[]) ∧ GatherI B pe xs w' ∧ Keeps (fun y => B ≤ y) w w'
set_option maxRecDepth 100000 in
set_option maxHeartbeats 4000000 in
theorem query141 (B pe : Nat) (q : Value) (T : RT) : ∀ (S : Nat → Option Sh) (B0 : Nat) (xs : List Iv) (w : World) (b : Nat), T.root = some b → (∀ x ∈ T.recs, S x.1 = some x.2) → HeapOK B0 w S → (∀ b s, S b = some s → b < B) → B0 ≤ B → GatherI B pe xs w → xs.length + T.ivs.length ≤ 100 →
    Calls Tryz.prog 141 #[.pointer (some ⟨b, 0, none⟩), .int .i64 (-1), .int .i64 65536, .iface 132 q, .int .u64 1, .func (.func 142) #[] #[.pointer (some ⟨pe, 0, none⟩)]] w (Seen B pe (xs ++ T.ivs) w) := by
  induction T with
  | nil => intro S B0 xs w b hT; cases hT
  | node b0 i c l r ihl ihr =>
    intro S B0 xs w b hT hH hO hlt hB0 hG HN
    obtain rfl : b0 = b := Option.some.inj hT
    have hS : S b0 = some ⟨some i, l.root, r.root, c⟩ := hH _ (List.mem_cons_self)
    have HL : Hid (∀ x ∈ l.recs, S x.1 = some x.2) := fun x hx => hH x (List.mem_cons_of_mem _ (List.mem_append_left _ hx))
    have HR : Hid (∀ x ∈ r.recs, S x.1 = some x.2) := fun x hx => hH x (List.mem_cons_of_mem _ (List.mem_append_right _ hx))
    obtain ⟨⟨mx, mn, g, -, -⟩, hiv, -⟩ := hO b0 _ hS
    have HIV : Hid (IvOK B0 w i) := hiv
    have HBB := Lib.hid (hlt _ _ hS)
    have A0 : Hid (w.cell? ⟨b0, 0, none⟩ = some (.iface 132 (spanV i))) := cell_at g 0
    have A3 : Hid (w.cell? ⟨b0, 3, none⟩ = some (ptrO l.root)) := cell_at g 3
    have A4 : Hid (w.cell? ⟨b0, 4, none⟩ = some (ptrO r.root)) := cell_at g 4
    have K0 : Hid (Keeps (fun y => B ≤ y) w w) := Keeps.refl _ _
    have IHL := Lib.hid ihl; clear ihl
    have IHR := Lib.hid ihr; clear ihr
    have HO := Lib.hid hO; clear hO
    have HLT := Lib.hid hlt; clear hlt
    have HB0 := Lib.hid hB0; clear hB0
    have HG := Lib.hid hG; clear hG
    clear hT hH hS hiv g
    go_enter Tryz.func141, Tryz.ntmps141
    go_wp2_with fail
    cases l with
    | nil =>
      cases r with
      | nil =>
        have a3 : w.cell? ⟨b0, 3, none⟩ = some (.pointer none) := K0.out.cell A3.out (Nat.not_le.2 HBB.out)
        go_quiet (fail)
        go_wp2_with fail
        have HG1 : Hid (GatherI B pe (xs ++ RT.nil.ivs) (w.drewN nq)) := by rw [RT.ivs, List.append_nil]; exact HG.out.new ((Keeps.refl _ _).drewN _)
        have K1 : Hid (Keeps (fun y => B ≤ y) w (w.drewN nq)) := (Keeps.refl _ w).drewN _
        clear a3
        generalize w.drewN nq = w1 at HG1 K1 ⊢
        have e0 : w1.cell? ⟨b0, 0, none⟩ = some (.iface 132 (spanV i)) := K1.out.cell A0.out (Nat.not_le.2 HBB.out)
        refine (iover152 B0 b0 i q w1 (HIV.out.keeps K1.out (fun x hx f => by have := HB0.out; omega)) e0).mono ?_
        rintro e w2 ⟨rfl, hk2⟩
        have HG2 := Lib.hid (HG1.out.new hk2)
        have K2 := Lib.hid (K1.out.trans (new_old hk2) (fun _ _ f => f))
        clear hk2 e0
        go_wp2_with fail
        refine (gather142 B pe b0 _ _ i w2 HG2.out (K2.out.cell A0.out (Nat.not_le.2 HBB.out)) rfl (by simp only [List.length_append, RT.ivs, List.length_cons] at HN ⊢; omega)).mono ?_
        rintro e w3 ⟨rfl, hg3, hk3⟩
        have HG3 := Lib.hid hg3; clear hg3
        have K3 := Lib.hid (K2.out.trans hk3 (fun _ _ f => f)); clear hk3
        go_wp2_with fail
        have a4 : w3.cell? ⟨b0, 4, none⟩ = some (.pointer none) := K3.out.cell A4.out (Nat.not_le.2 HBB.out)
        go_quiet (fail)
        go_wp2_with fail
        go_end0
        refine ⟨rfl, ?_, K3.out.drewN _⟩
        have h := HG3.out.new ((Keeps.refl (fun _ => False) w3).drewN nq)
        simp only [List.append_assoc, RT.ivs, List.cons_append, List.nil_append] at h ⊢
        exact h
      | node rb ri rc rl rr =>
        have a3 : w.cell? ⟨b0, 3, none⟩ = some (.pointer none) := K0.out.cell A3.out (Nat.not_le.2 HBB.out)
        go_quiet (fail)
        go_wp2_with fail
        have HG1 : Hid (GatherI B pe (xs ++ RT.nil.ivs) (w.drewN nq)) := by rw [RT.ivs, List.append_nil]; exact HG.out.new ((Keeps.refl _ _).drewN _)
        have K1 : Hid (Keeps (fun y => B ≤ y) w (w.drewN nq)) := (Keeps.refl _ w).drewN _
        clear a3
        generalize w.drewN nq = w1 at HG1 K1 ⊢
        have e0 : w1.cell? ⟨b0, 0, none⟩ = some (.iface 132 (spanV i)) := K1.out.cell A0.out (Nat.not_le.2 HBB.out)
        refine (iover152 B0 b0 i q w1 (HIV.out.keeps K1.out (fun x hx f => by have := HB0.out; omega)) e0).mono ?_
        rintro e w2 ⟨rfl, hk2⟩
        have HG2 := Lib.hid (HG1.out.new hk2)
        have K2 := Lib.hid (K1.out.trans (new_old hk2) (fun _ _ f => f))
        clear hk2 e0
        go_wp2_with fail
        refine (gather142 B pe b0 _ _ i w2 HG2.out (K2.out.cell A0.out (Nat.not_le.2 HBB.out)) rfl (by simp only [List.length_append, RT.ivs, List.length_cons] at HN ⊢; omega)).mono ?_
        rintro e w3 ⟨rfl, hg3, hk3⟩
        have HG3 := Lib.hid hg3; clear hg3
        have K3 := Lib.hid (K2.out.trans hk3 (fun _ _ f => f)); clear hk3
        go_wp2_with fail
        have a4 : w3.cell? ⟨b0, 4, none⟩ = some (.pointer (some ⟨rb, 0, none⟩)) := K3.out.cell A4.out (Nat.not_le.2 HBB.out)
        have HO1 := Lib.hid (HO.out.old HLT.out HB0.out K3.out)
        obtain ⟨y1, y2, cs, g1, g2, g3, g4, g5⟩ := kid_range HO1.out (fun x e => by obtain rfl := Option.some.inj e; exact ⟨_, HR.out _ List.mem_cons_self⟩ : There S (some rb))
        have d1 : w3.cell? ⟨rb, 1, none⟩ = some (.int .i64 y1) := by rw [cell_at g1 1]; exact g2
        have d2 : w3.cell? ⟨rb, 2, none⟩ = some (.int .i64 y2) := by rw [cell_at g1 2]; exact g3
        have G45 := Lib.hid (And.intro g4 g5)
        clear g1 g2 g3 g4 g5
        go_region_held3 (fun w' => w'.cell? ⟨b0, 4, none⟩ = some (.pointer (some ⟨rb, 0, none⟩)) ∧ w'.cell? ⟨rb, 1, none⟩ = some (.int .i64 y1) ∧ w'.cell? ⟨rb, 2, none⟩ = some (.int .i64 y2)) (go_keep)
          (first | (go_at_call 151; refine (over151 y1 y2 _ G45.out.1 G45.out.2).mono ?_; rintro e w' ⟨rfl, hw⟩; have hw := hw.symm; subst hw))
        go_wp2_with fail
        refine (IHR.out S B0 _ _ rb rfl HR.out (HO1.out.new ((Keeps.refl _ _).drew)) HLT.out HB0.out (HG3.out.new ((Keeps.refl _ _).drew)) (by simp only [List.length_append, RT.ivs, List.length_cons, List.length_nil] at HN ⊢; omega)).mono ?_
        rintro e w4 ⟨rfl, hg4, hk4⟩
        have HG4 := Lib.hid hg4; clear hg4
        have K4 : Hid (Keeps (fun y => B ≤ y) w w4) := K3.out.trans ((Keeps.drew (Keeps.refl _ w3)).trans hk4 (fun _ _ f => f)) (fun _ _ f => f)
        clear hk4
        go_wp2_with fail
        go_end0
        refine ⟨rfl, ?_, K4.out⟩
        have h := HG4.out
        simp only [List.append_assoc, RT.ivs, List.cons_append, List.nil_append] at h ⊢
        exact h
    | node lb li lc ll lr =>
      cases r with
      | nil =>
        have a3 : w.cell? ⟨b0, 3, none⟩ = some (.pointer (some ⟨lb, 0, none⟩)) := K0.out.cell A3.out (Nat.not_le.2 HBB.out)
        have HO0 := Lib.hid (HO.out.old HLT.out HB0.out K0.out)
        obtain ⟨y1, y2, cs, g1, g2, g3, g4, g5⟩ := kid_range HO0.out (fun x e => by obtain rfl := Option.some.inj e; exact ⟨_, HL.out _ List.mem_cons_self⟩ : There S (some lb))
        have d1 : w.cell? ⟨lb, 1, none⟩ = some (.int .i64 y1) := by rw [cell_at g1 1]; exact g2
        have d2 : w.cell? ⟨lb, 2, none⟩ = some (.int .i64 y2) := by rw [cell_at g1 2]; exact g3
        have G45 := Lib.hid (And.intro g4 g5)
        clear g1 g2 g3 g4 g5
        go_region_held3 (fun w' => w'.cell? ⟨b0, 3, none⟩ = some (.pointer (some ⟨lb, 0, none⟩)) ∧ w'.cell? ⟨lb, 1, none⟩ = some (.int .i64 y1) ∧ w'.cell? ⟨lb, 2, none⟩ = some (.int .i64 y2)) (go_keep)
          (first | (go_at_call 151; refine (over151 y1 y2 _ G45.out.1 G45.out.2).mono ?_; rintro e w' ⟨rfl, hw⟩; have hw := hw.symm; subst hw))
        go_wp2_with fail
        refine (IHL.out S B0 xs _ lb rfl HL.out (HO0.out.new ((Keeps.refl _ _).drew)) HLT.out HB0.out (HG.out.new ((Keeps.refl _ _).drew)) (by rw [RT.ivs, List.length_append] at HN; omega)).mono ?_
        rintro e w1 ⟨rfl, hg1, hk1⟩
        have HG1 := Lib.hid hg1; clear hg1
        have K1 : Hid (Keeps (fun y => B ≤ y) w w1) := (Keeps.drew (Keeps.refl _ w)).trans hk1 (fun _ _ f => f)
        clear hk1 a3 d1 d2
        go_wp2_with fail
        have e0 : w1.cell? ⟨b0, 0, none⟩ = some (.iface 132 (spanV i)) := K1.out.cell A0.out (Nat.not_le.2 HBB.out)
        refine (iover152 B0 b0 i q w1 (HIV.out.keeps K1.out (fun x hx f => by have := HB0.out; omega)) e0).mono ?_
        rintro e w2 ⟨rfl, hk2⟩
        have HG2 := Lib.hid (HG1.out.new hk2)
        have K2 := Lib.hid (K1.out.trans (new_old hk2) (fun _ _ f => f))
        clear hk2 e0
        go_wp2_with fail
        refine (gather142 B pe b0 _ _ i w2 HG2.out (K2.out.cell A0.out (Nat.not_le.2 HBB.out)) rfl (by simp only [List.length_append, RT.ivs, List.length_cons] at HN ⊢; omega)).mono ?_
        rintro e w3 ⟨rfl, hg3, hk3⟩
        have HG3 := Lib.hid hg3; clear hg3
        have K3 := Lib.hid (K2.out.trans hk3 (fun _ _ f => f)); clear hk3
        go_wp2_with fail
        have a4 : w3.cell? ⟨b0, 4, none⟩ = some (.pointer none) := K3.out.cell A4.out (Nat.not_le.2 HBB.out)
        go_quiet (fail)
        go_wp2_with fail
        go_end0
        refine ⟨rfl, ?_, K3.out.drewN _⟩
        have h := HG3.out.new ((Keeps.refl (fun _ => False) w3).drewN nq)
        simp only [List.append_assoc, RT.ivs, List.cons_append, List.nil_append] at h ⊢
        exact h
      | node rb ri rc rl rr =>
        have a3 : w.cell? ⟨b0, 3, none⟩ = some (.pointer (some ⟨lb, 0, none⟩)) := K0.out.cell A3.out (Nat.not_le.2 HBB.out)
        have HO0 := Lib.hid (HO.out.old HLT.out HB0.out K0.out)
        obtain ⟨y1, y2, cs, g1, g2, g3, g4, g5⟩ := kid_range HO0.out (fun x e => by obtain rfl := Option.some.inj e; exact ⟨_, HL.out _ List.mem_cons_self⟩ : There S (some lb))
        have d1 : w.cell? ⟨lb, 1, none⟩ = some (.int .i64 y1) := by rw [cell_at g1 1]; exact g2
        have d2 : w.cell? ⟨lb, 2, none⟩ = some (.int .i64 y2) := by rw [cell_at g1 2]; exact g3
        have G45 := Lib.hid (And.intro g4 g5)
        clear g1 g2 g3 g4 g5
        go_region_held3 (fun w' => w'.cell? ⟨b0, 3, none⟩ = some (.pointer (some ⟨lb, 0, none⟩)) ∧ w'.cell? ⟨lb, 1, none⟩ = some (.int .i64 y1) ∧ w'.cell? ⟨lb, 2, none⟩ = some (.int .i64 y2)) (go_keep)
          (first | (go_at_call 151; refine (over151 y1 y2 _ G45.out.1 G45.out.2).mono ?_; rintro e w' ⟨rfl, hw⟩; have hw := hw.symm; subst hw))
        go_wp2_with fail
        refine (IHL.out S B0 xs _ lb rfl HL.out (HO0.out.new ((Keeps.refl _ _).drew)) HLT.out HB0.out (HG.out.new ((Keeps.refl _ _).drew)) (by rw [RT.ivs, List.length_append] at HN; omega)).mono ?_
        rintro e w1 ⟨rfl, hg1, hk1⟩
        have HG1 := Lib.hid hg1; clear hg1
        have K1 : Hid (Keeps (fun y => B ≤ y) w w1) := (Keeps.drew (Keeps.refl _ w)).trans hk1 (fun _ _ f => f)
        clear hk1 a3 d1 d2
        go_wp2_with fail
        have e0 : w1.cell? ⟨b0, 0, none⟩ = some (.iface 132 (spanV i)) := K1.out.cell A0.out (Nat.not_le.2 HBB.out)
        refine (iover152 B0 b0 i q w1 (HIV.out.keeps K1.out (fun x hx f => by have := HB0.out; omega)) e0).mono ?_
        rintro e w2 ⟨rfl, hk2⟩
        have HG2 := Lib.hid (HG1.out.new hk2)
        have K2 := Lib.hid (K1.out.trans (new_old hk2) (fun _ _ f => f))
        clear hk2 e0
        go_wp2_with fail
        refine (gather142 B pe b0 _ _ i w2 HG2.out (K2.out.cell A0.out (Nat.not_le.2 HBB.out)) rfl (by simp only [List.length_append, RT.ivs, List.length_cons] at HN ⊢; omega)).mono ?_
        rintro e w3 ⟨rfl, hg3, hk3⟩
        have HG3 := Lib.hid hg3; clear hg3
        have K3 := Lib.hid (K2.out.trans hk3 (fun _ _ f => f)); clear hk3
        go_wp2_with fail
        have a4 : w3.cell? ⟨b0, 4, none⟩ = some (.pointer (some ⟨rb, 0, none⟩)) := K3.out.cell A4.out (Nat.not_le.2 HBB.out)
        have HO1 := Lib.hid (HO.out.old HLT.out HB0.out K3.out)
        obtain ⟨y1, y2, cs, g1, g2, g3, g4, g5⟩ := kid_range HO1.out (fun x e => by obtain rfl := Option.some.inj e; exact ⟨_, HR.out _ List.mem_cons_self⟩ : There S (some rb))
        have d1 : w3.cell? ⟨rb, 1, none⟩ = some (.int .i64 y1) := by rw [cell_at g1 1]; exact g2
        have d2 : w3.cell? ⟨rb, 2, none⟩ = some (.int .i64 y2) := by rw [cell_at g1 2]; exact g3
        have G45 := Lib.hid (And.intro g4 g5)
        clear g1 g2 g3 g4 g5
        go_region_held3 (fun w' => w'.cell? ⟨b0, 4, none⟩ = some (.pointer (some ⟨rb, 0, none⟩)) ∧ w'.cell? ⟨rb, 1, none⟩ = some (.int .i64 y1) ∧ w'.cell? ⟨rb, 2, none⟩ = some (.int .i64 y2)) (go_keep)
          (first | (go_at_call 151; refine (over151 y1 y2 _ G45.out.1 G45.out.2).mono ?_; rintro e w' ⟨rfl, hw⟩; have hw := hw.symm; subst hw))
        go_wp2_with fail
        refine (IHR.out S B0 _ _ rb rfl HR.out (HO1.out.new ((Keeps.refl _ _).drew)) HLT.out HB0.out (HG3.out.new ((Keeps.refl _ _).drew)) (by simp only [List.length_append, RT.ivs, List.length_cons, List.length_nil] at HN ⊢; omega)).mono ?_
        rintro e w4 ⟨rfl, hg4, hk4⟩
        have HG4 := Lib.hid hg4; clear hg4
        have K4 : Hid (Keeps (fun y => B ≤ y) w w4) := K3.out.trans ((Keeps.drew (Keeps.refl _ w3)).trans hk4 (fun _ _ f => f)) (fun _ _ f => f)
        clear hk4
        go_wp2_with fail
        go_end0
        refine ⟨rfl, ?_, K4.out⟩
        have h := HG4.out
        simp only [List.append_assoc, RT.ivs, List.cons_append, List.nil_append] at h ⊢
        exact h
end Go.Proofs.YtegejfhomocloaaGreat
