/- A part of the proof of FnRoadOrder: the tree of intervals: turns. No conditions but those of the theorems. -/
import Derived.Test.YtegejfhomocloaaGreatJ12
import Derived.StillTailTactics
import Derived.Test.YtegejfhomocloaaGreatJ11
import Derived.Deep.RegionLaw
import Derived.LaidEqlPtr
set_option linter.all false
namespace Go.Proofs.YtegejfhomocloaaGreat
open Go.RowKit

theorem opp0 (w : World) : Calls Tryz.prog 148 #[.int .i64 0] w fun e w' => e = .returned (.int .i64 1) ∧ w' = w := opp148 false w
theorem opp1 (w : World) : Calls Tryz.prog 148 #[.int .i64 1] w fun e w' => e = .returned (.int .i64 0) ∧ w' = w := opp148 true w

/-- Two nodes turned. -/
theorem HeapOK.turn2 {B : Nat} {w w' : World} {S : Nat → Option Sh} (h : HeapOK B w S) {g p : Nat} {sg sg' sp sp' : Sh} (k : Keeps (fun x => x = g ∨ x = p) w w') (hg : S g = some sg) (hp : S p = some sp) (hgp : g ≠ p) (ig : sg'.iv = sg.iv) (ip : sp'.iv = sp.iv)
    {mx mn nx nn : Int} (h1 : InR mx) (h2 : InR mn) (h3 : InR nx) (h4 : InR nn) (hcg : w'.heap[g]? = some (.cells (sg'.cells mx mn) 166 (0, 0))) (hcp : w'.heap[p]? = some (.cells (sp'.cells nx nn) 166 (0, 0))) : HeapOK B w' (upd (upd S g sg') p sp') := by
  have hgB : B ≤ g := (h g sg hg).2.2
  have hpB : B ≤ p := (h p sp hp).2.2
  have hB : ∀ x, x < B → ¬ (x = g ∨ x = p) := fun x hx e => by omega
  intro x sx hxx
  by_cases ep : x = p
  · subst ep
    rw [upd_same] at hxx
    obtain rfl := Option.some.inj hxx
    exact ⟨⟨nx, nn, hcp, h3, h4⟩, by rw [ip]; exact (h x sp hp).2.1.keeps k hB, hpB⟩
  · rw [upd_other _ _ ep] at hxx
    by_cases eg : x = g
    · subst eg
      rw [upd_same] at hxx
      obtain rfl := Option.some.inj hxx
      exact ⟨⟨mx, mn, hcg, h1, h2⟩, by rw [ig]; exact (h x sg hg).2.1.keeps k hB, hgB⟩
    · rw [upd_other _ _ eg] at hxx
      obtain ⟨⟨ax, an, a1, a2, a3⟩, a4, a5⟩ := h x sx hxx
      exact ⟨⟨ax, an, k.heap a1 (fun e => e.elim eg ep), a2, a3⟩, a4.keeps k hB, a5⟩

/-- What a turn leaves: the node that is up now, the two nodes' records. -/
def Turned (B : Nat) (S : Nat → Option Sh) (g p : Nat) (w : World) (e : Ending) (w' : World) : Prop :=
  e = .returned (.pointer (some ⟨p, 0, none⟩)) ∧ HeapOK B w' S ∧ Keeps (fun x => x = g ∨ x = p) w w'

set_option maxRecDepth 100000 in
set_option maxHeartbeats 1600000 in
theorem rot146_0 (B : Nat) (S : Nat → Option Sh) (g p : Nat) (gi pi : Iv) (a x y : Option Nat) (cg cp : Bool) (w : World) (h : HeapOK B w S) (hg : S g = some ⟨some gi, a, (some p), cg⟩) (hp : S p = some ⟨some pi, x, y, cp⟩) (hgp : g ≠ p)
    (ha : There S a) (hx : There S x) (hy : There S y) (ha1 : a ≠ some g) (hx1 : x ≠ some g) (hy2 : y ≠ some p) :
    Calls Tryz.prog 146 #[.pointer (some ⟨g, 0, none⟩), .int .i64 0] w (Turned B (upd (upd S g ⟨some gi, a, x, true⟩) p ⟨some pi, (some g), y, false⟩) g p w) := by
  obtain ⟨⟨mx, mn, g0, hmx, hmn⟩, hIg, hBg⟩ := h g _ hg
  obtain ⟨⟨nx, nn, p0, hnx, hnn⟩, hIp, hBp⟩ := h p _ hp
  have a1 : w.cell? ⟨g, 1, none⟩ = some (.int .i64 mx) := cell_at g0 1
  have a3 : w.cell? ⟨g, 3, none⟩ = some (ptrO a) := cell_at g0 3
  have a4 : w.cell? ⟨g, 4, none⟩ = some (ptrO (some p)) := cell_at g0 4
  have a5 : w.cell? ⟨g, 5, none⟩ = some (.bool cg) := cell_at g0 5
  have b1 : w.cell? ⟨p, 1, none⟩ = some (.int .i64 nx) := cell_at p0 1
  have b3 : w.cell? ⟨p, 3, none⟩ = some (ptrO x) := cell_at p0 3
  have b4 : w.cell? ⟨p, 4, none⟩ = some (ptrO y) := cell_at p0 4
  have b5 : w.cell? ⟨p, 5, none⟩ = some (.bool cp) := cell_at p0 5
  have ag : ∀ o, w.frozen? ⟨g, o, none⟩ = false := fun o => free_at g0 o
  have ap : ∀ o, w.frozen? ⟨p, o, none⟩ = false := fun o => free_at p0 o
  have ag4 := ag 4
  have ag5 := ag 5
  have ap3 := ap 3
  have ap5 := ap 5
  have ap1 := ap 1
  clear ag ap
  have hpg : p ≠ g := Ne.symm hgp
  have H := Lib.hid h; clear h
  have HG := Lib.hid hg; clear hg
  have HP := Lib.hid hp; clear hp
  have HG0 := Lib.hid g0; clear g0
  have HP0 := Lib.hid p0; clear p0
  have HA := Lib.hid ha; clear ha
  have HX := Lib.hid hx; clear hx
  have HY := Lib.hid hy; clear hy
  have e4 : ptrO (some p) = .pointer (some ⟨p, 0, none⟩) := rfl
  rw [e4] at a4
  clear e4
  obtain ⟨px, hpx⟩ : ∃ v, (x.map fun b => (⟨b, 0, none⟩ : Addr)) = v := ⟨_, rfl⟩
  have hpx' : ptrO x = .pointer px := congrArg Value.pointer hpx
  rw [hpx'] at b3
  clear hpx'
  have HPX := Lib.hid hpx; clear hpx
  go_enter Tryz.func146, Tryz.ntmps146
  go_wp2_with fail
  refine (opp0 w).mono ?_
  rintro e w' ⟨rfl, rfl⟩
  go_wp2_with fail
  go_region_held3 (fun w' => w'.cell? ⟨p, 3, none⟩ = some (.pointer px)) (go_keep) (fail)
  go_wp2_with fail
  clear a1 a3 a4 a5 b1 b3 b4 b5 ag4 ag5 ap3 ap5 ap1
  have hpx := HPX.out
  subst hpx
  have K5 := Lib.hid ((((((Keeps.refl (fun x => x = g ∨ x = p) w').setIn g 4 (.pointer (x.map fun b => (⟨b, 0, none⟩ : Addr))) (.inl rfl)).setIn p 3 (.pointer (some ⟨g, 0, none⟩)) (.inr rfl)).setIn g 5 (.bool true) (.inl rfl)).setIn p 5 (.bool false) (.inr rfl)).setIn p 1 (.int .i64 mx) (.inr rfl)).drew
  have H5 := Lib.hid (H.out.turn2 K5.out HG.out HP.out hgp (sg' := ⟨some gi, a, x, true⟩) (sp' := ⟨some pi, (some g), y, false⟩) rfl rfl hmx hmn hmx hnn
    (set_heap _ _ _ (set_heap _ _ _ (heap_setCell_same _ g 5 _ _ _ (set_heap _ _ _ (heap_setCell_same w' g 4 _ _ _ HG0.out) hgp)) hgp) hgp)
    (heap_setCell_same _ p 1 _ _ _ (heap_setCell_same _ p 5 _ _ _ (set_heap _ _ _ (heap_setCell_same _ p 3 _ _ _ (set_heap _ _ _ HP0.out hpg)) hpg))))
  have SP : Hid ((upd (upd S g ⟨some gi, a, x, true⟩) p ⟨some pi, (some g), y, false⟩) p = some ⟨some pi, (some g), y, false⟩) := upd_same _ _ _
  have SG : Hid ((upd (upd S g ⟨some gi, a, x, true⟩) p ⟨some pi, (some g), y, false⟩) g = some ⟨some gi, a, x, true⟩) := (upd_other _ _ hgp).trans (upd_same _ _ _)
  have TA : Hid (There (upd (upd S g ⟨some gi, a, x, true⟩) p ⟨some pi, (some g), y, false⟩) a) := (HA.out.upd _ _).upd _ _
  have TX : Hid (There (upd (upd S g ⟨some gi, a, x, true⟩) p ⟨some pi, (some g), y, false⟩) x) := (HX.out.upd _ _).upd _ _
  have TY : Hid (There (upd (upd S g ⟨some gi, a, x, true⟩) p ⟨some pi, (some g), y, false⟩) y) := (HY.out.upd _ _).upd _ _
  have TG : Hid (There (upd (upd S g ⟨some gi, a, x, true⟩) p ⟨some pi, (some g), y, false⟩) (some g)) := fun b e => by obtain rfl := Option.some.inj e; exact ⟨_, SG.out⟩
  generalize hs2 : (upd (upd S g ⟨some gi, a, x, true⟩) p ⟨some pi, (some g), y, false⟩) = S2 at H5 SP SG TA TX TY TG ⊢
  have HS2 := Lib.hid hs2; clear hs2
  have hng : some g ≠ some p := fun e => hgp (Option.some.inj e)
  clear HPX HG HP HG0 HP0 H hIg hIp hmx hmn hnx hnn HA HX HY
  refine (max153 B S2 p pi (some g) y false _ H5.out SP.out TG.out TY.out hng hy2).mono ?_
  rintro e w6 ⟨rfl, h6, k6⟩
  have H6 := Lib.hid h6; clear h6
  have K6 := Lib.hid (K5.out.trans k6 (fun b _ e => Or.inr e)); clear k6 H5 K5
  go_wp2_with fail
  refine (max153 B S2 g gi a x true _ H6.out SG.out TA.out TX.out ha1 hx1).mono ?_
  rintro e w7 ⟨rfl, h7, k7⟩
  have H7 := Lib.hid h7; clear h7
  have K7 := Lib.hid (K6.out.trans k7 (fun b _ e => Or.inl e)); clear k7 H6 K6
  go_wp2_with fail
  refine (min154 B S2 p pi (some g) y false _ H7.out SP.out TG.out TY.out hng hy2).mono ?_
  rintro e w8 ⟨rfl, h8, k8⟩
  have H8 := Lib.hid h8; clear h8
  have K8 := Lib.hid (K7.out.trans k8 (fun b _ e => Or.inr e)); clear k8 H7 K7
  go_wp2_with fail
  refine (min154 B S2 g gi a x true _ H8.out SG.out TA.out TX.out ha1 hx1).mono ?_
  rintro e w9 ⟨rfl, h9, k9⟩
  have H9 := Lib.hid h9; clear h9
  have K9 := Lib.hid (K8.out.trans k9 (fun b _ e => Or.inl e)); clear k9 H8 K8
  go_wp2_with fail
  go_ret
  exact ⟨rfl, by rw [HS2.out]; exact H9.out, K9.out⟩

set_option maxRecDepth 100000 in
set_option maxHeartbeats 1600000 in
theorem rot146_1 (B : Nat) (S : Nat → Option Sh) (g p : Nat) (gi pi : Iv) (a x y : Option Nat) (cg cp : Bool) (w : World) (h : HeapOK B w S) (hg : S g = some ⟨some gi, (some p), a, cg⟩) (hp : S p = some ⟨some pi, y, x, cp⟩) (hgp : g ≠ p)
    (ha : There S a) (hx : There S x) (hy : There S y) (ha1 : a ≠ some g) (hx1 : x ≠ some g) (hy2 : y ≠ some p) :
    Calls Tryz.prog 146 #[.pointer (some ⟨g, 0, none⟩), .int .i64 1] w (Turned B (upd (upd S g ⟨some gi, x, a, true⟩) p ⟨some pi, y, (some g), false⟩) g p w) := by
  obtain ⟨⟨mx, mn, g0, hmx, hmn⟩, hIg, hBg⟩ := h g _ hg
  obtain ⟨⟨nx, nn, p0, hnx, hnn⟩, hIp, hBp⟩ := h p _ hp
  have a1 : w.cell? ⟨g, 1, none⟩ = some (.int .i64 mx) := cell_at g0 1
  have a3 : w.cell? ⟨g, 3, none⟩ = some (ptrO (some p)) := cell_at g0 3
  have a4 : w.cell? ⟨g, 4, none⟩ = some (ptrO a) := cell_at g0 4
  have a5 : w.cell? ⟨g, 5, none⟩ = some (.bool cg) := cell_at g0 5
  have b1 : w.cell? ⟨p, 1, none⟩ = some (.int .i64 nx) := cell_at p0 1
  have b3 : w.cell? ⟨p, 3, none⟩ = some (ptrO y) := cell_at p0 3
  have b4 : w.cell? ⟨p, 4, none⟩ = some (ptrO x) := cell_at p0 4
  have b5 : w.cell? ⟨p, 5, none⟩ = some (.bool cp) := cell_at p0 5
  have ag : ∀ o, w.frozen? ⟨g, o, none⟩ = false := fun o => free_at g0 o
  have ap : ∀ o, w.frozen? ⟨p, o, none⟩ = false := fun o => free_at p0 o
  have ag3 := ag 3
  have ag5 := ag 5
  have ap4 := ap 4
  have ap5 := ap 5
  have ap1 := ap 1
  clear ag ap
  have hpg : p ≠ g := Ne.symm hgp
  have H := Lib.hid h; clear h
  have HG := Lib.hid hg; clear hg
  have HP := Lib.hid hp; clear hp
  have HG0 := Lib.hid g0; clear g0
  have HP0 := Lib.hid p0; clear p0
  have HA := Lib.hid ha; clear ha
  have HX := Lib.hid hx; clear hx
  have HY := Lib.hid hy; clear hy
  have e3 : ptrO (some p) = .pointer (some ⟨p, 0, none⟩) := rfl
  rw [e3] at a3
  clear e3
  obtain ⟨px, hpx⟩ : ∃ v, (x.map fun b => (⟨b, 0, none⟩ : Addr)) = v := ⟨_, rfl⟩
  have hpx' : ptrO x = .pointer px := congrArg Value.pointer hpx
  rw [hpx'] at b4
  clear hpx'
  have HPX := Lib.hid hpx; clear hpx
  go_enter Tryz.func146, Tryz.ntmps146
  go_wp2_with fail
  refine (opp1 w).mono ?_
  rintro e w' ⟨rfl, rfl⟩
  go_wp2_with fail
  go_region_held3 (fun w' => w'.cell? ⟨p, 4, none⟩ = some (.pointer px)) (go_keep) (fail)
  go_wp2_with fail
  clear a1 a3 a4 a5 b1 b3 b4 b5 ag3 ag5 ap4 ap5 ap1
  have hpx := HPX.out
  subst hpx
  have K5 := Lib.hid ((((((Keeps.refl (fun x => x = g ∨ x = p) w').setIn g 3 (.pointer (x.map fun b => (⟨b, 0, none⟩ : Addr))) (.inl rfl)).setIn p 4 (.pointer (some ⟨g, 0, none⟩)) (.inr rfl)).setIn g 5 (.bool true) (.inl rfl)).setIn p 5 (.bool false) (.inr rfl)).setIn p 1 (.int .i64 mx) (.inr rfl)).drew
  have H5 := Lib.hid (H.out.turn2 K5.out HG.out HP.out hgp (sg' := ⟨some gi, x, a, true⟩) (sp' := ⟨some pi, y, (some g), false⟩) rfl rfl hmx hmn hmx hnn
    (set_heap _ _ _ (set_heap _ _ _ (heap_setCell_same _ g 5 _ _ _ (set_heap _ _ _ (heap_setCell_same w' g 3 _ _ _ HG0.out) hgp)) hgp) hgp)
    (heap_setCell_same _ p 1 _ _ _ (heap_setCell_same _ p 5 _ _ _ (set_heap _ _ _ (heap_setCell_same _ p 4 _ _ _ (set_heap _ _ _ HP0.out hpg)) hpg))))
  have SP : Hid ((upd (upd S g ⟨some gi, x, a, true⟩) p ⟨some pi, y, (some g), false⟩) p = some ⟨some pi, y, (some g), false⟩) := upd_same _ _ _
  have SG : Hid ((upd (upd S g ⟨some gi, x, a, true⟩) p ⟨some pi, y, (some g), false⟩) g = some ⟨some gi, x, a, true⟩) := (upd_other _ _ hgp).trans (upd_same _ _ _)
  have TA : Hid (There (upd (upd S g ⟨some gi, x, a, true⟩) p ⟨some pi, y, (some g), false⟩) a) := (HA.out.upd _ _).upd _ _
  have TX : Hid (There (upd (upd S g ⟨some gi, x, a, true⟩) p ⟨some pi, y, (some g), false⟩) x) := (HX.out.upd _ _).upd _ _
  have TY : Hid (There (upd (upd S g ⟨some gi, x, a, true⟩) p ⟨some pi, y, (some g), false⟩) y) := (HY.out.upd _ _).upd _ _
  have TG : Hid (There (upd (upd S g ⟨some gi, x, a, true⟩) p ⟨some pi, y, (some g), false⟩) (some g)) := fun b e => by obtain rfl := Option.some.inj e; exact ⟨_, SG.out⟩
  generalize hs2 : (upd (upd S g ⟨some gi, x, a, true⟩) p ⟨some pi, y, (some g), false⟩) = S2 at H5 SP SG TA TX TY TG ⊢
  have HS2 := Lib.hid hs2; clear hs2
  have hng : some g ≠ some p := fun e => hgp (Option.some.inj e)
  clear HPX HG HP HG0 HP0 H hIg hIp hmx hmn hnx hnn HA HX HY
  refine (max153 B S2 p pi y (some g) false _ H5.out SP.out TY.out TG.out hy2 hng).mono ?_
  rintro e w6 ⟨rfl, h6, k6⟩
  have H6 := Lib.hid h6; clear h6
  have K6 := Lib.hid (K5.out.trans k6 (fun b _ e => Or.inr e)); clear k6 H5 K5
  go_wp2_with fail
  refine (max153 B S2 g gi x a true _ H6.out SG.out TX.out TA.out hx1 ha1).mono ?_
  rintro e w7 ⟨rfl, h7, k7⟩
  have H7 := Lib.hid h7; clear h7
  have K7 := Lib.hid (K6.out.trans k7 (fun b _ e => Or.inl e)); clear k7 H6 K6
  go_wp2_with fail
  refine (min154 B S2 p pi y (some g) false _ H7.out SP.out TY.out TG.out hy2 hng).mono ?_
  rintro e w8 ⟨rfl, h8, k8⟩
  have H8 := Lib.hid h8; clear h8
  have K8 := Lib.hid (K7.out.trans k8 (fun b _ e => Or.inr e)); clear k8 H7 K7
  go_wp2_with fail
  refine (min154 B S2 g gi x a true _ H8.out SG.out TX.out TA.out hx1 ha1).mono ?_
  rintro e w9 ⟨rfl, h9, k9⟩
  have H9 := Lib.hid h9; clear h9
  have K9 := Lib.hid (K8.out.trans k9 (fun b _ e => Or.inl e)); clear k9 H8 K8
  go_wp2_with fail
  go_ret
  exact ⟨rfl, by rw [HS2.out]; exact H9.out, K9.out⟩
end Go.Proofs.YtegejfhomocloaaGreat

namespace Go.Proofs.YtegejfhomocloaaGreat
open Go.RowKit

/-- Two turns: three nodes' records. -/
def Twice (B : Nat) (S : Nat → Option Sh) (g p q : Nat) (w : World) (e : Ending) (w' : World) : Prop :=
  e = .returned (.pointer (some ⟨q, 0, none⟩)) ∧ HeapOK B w' S ∧ Keeps (fun x => x = g ∨ x = p ∨ x = q) w w'
theorem upd_five (S : Nat → Option Sh) {g q : Nat} (h : g ≠ q) (p : Nat) (A B C D E : Sh) : upd (upd (upd (upd (upd S p A) q B) g C) g D) q E = upd (upd (upd S p A) q E) g D := by
  rw [upd_upd, upd_swap _ h, upd_upd]

set_option maxRecDepth 100000 in
set_option maxHeartbeats 1600000 in
theorem dbl147_0 (B : Nat) (S : Nat → Option Sh) (g p q : Nat) (gi pi qi : Iv) (a b v z : Option Nat) (cg cp cq : Bool) (w : World) (h : HeapOK B w S) (hg : S g = some ⟨some gi, a, (some p), cg⟩) (hp : S p = some ⟨some pi, (some q), b, cp⟩) (hq : S q = some ⟨some qi, v, z, cq⟩)
    (hgp : g ≠ p) (hgq : g ≠ q) (hpq : p ≠ q) (ha : There S a) (hb : There S b) (hv : There S v) (hz : There S z) (ha1 : a ≠ some g) (hb1 : b ≠ some p) (hz1 : z ≠ some p) (hv1 : v ≠ some q) (hv2 : v ≠ some g) :
    Calls Tryz.prog 147 #[.pointer (some ⟨g, 0, none⟩), .int .i64 0] w (Twice B (upd (upd (upd S p ⟨some pi, z, b, true⟩) q ⟨some qi, (some g), (some p), false⟩) g ⟨some gi, a, v, true⟩) g p q w) := by
  obtain ⟨⟨mx, mn, g0, hmx, hmn⟩, hIg, hBg⟩ := h g _ hg
  have a4 : w.cell? ⟨g, 4, none⟩ = some (.pointer (some ⟨p, 0, none⟩)) := cell_at g0 4
  have H := Lib.hid h; clear h
  have HG := Lib.hid hg; clear hg
  have HP := Lib.hid hp; clear hp
  have HQ := Lib.hid hq; clear hq
  have HA := Lib.hid ha; clear ha
  have HB := Lib.hid hb; clear hb
  have HV := Lib.hid hv; clear hv
  have HZ := Lib.hid hz; clear hz
  have HA1 := Lib.hid ha1; clear ha1
  have HB1 := Lib.hid hb1; clear hb1
  have HZ1 := Lib.hid hz1; clear hz1
  have HV1 := Lib.hid hv1; clear hv1
  have HV2 := Lib.hid hv2; clear hv2
  have HGP := Lib.hid hgp; clear hgp
  have HGQ := Lib.hid hgq; clear hgq
  have HPQ := Lib.hid hpq; clear hpq
  clear g0 hmx hmn hIg
  have hspq : some p ≠ some q := fun e => HPQ.out (Option.some.inj e)
  have HSPQ := Lib.hid hspq; clear hspq
  have HGA : Hid ((upd (upd S p ⟨some pi, z, b, true⟩) q ⟨some qi, v, (some p), false⟩) g = some ⟨some gi, a, (some p), cg⟩) := (upd_other _ _ HGQ.out).trans ((upd_other _ _ HGP.out).trans HG.out)
  go_enter Tryz.func147, Tryz.ntmps147
  go_wp2_with fail
  refine (opp0 w).mono ?_
  rintro e w' ⟨rfl, hw⟩
  subst hw
  go_wp2_with fail
  go_region_with
    (first | (go_at_call 146; refine (rot146_1 B S p q pi qi b z v cp cq _ (H.out.new ((Keeps.refl _ _).drew)) HP.out HQ.out HPQ.out HB.out HZ.out HV.out HB1.out HZ1.out HV1.out).mono ?_; rintro e w5 ⟨rfl, h5, k5⟩; have H5 := Lib.hid h5; have K5 := Lib.hid k5; clear h5 k5; have A5 : Hid (w5.cell? ⟨g, 4, none⟩ = some (.pointer (some ⟨p, 0, none⟩))) := K5.out.cell a4 (fun e => e.elim HGP.out HGQ.out); have a5 := A5.out; have f5 : w5.frozen? ⟨g, 4, none⟩ = false := by (obtain ⟨⟨_, _, h9, _, _⟩, _, _⟩ := H5.out g _ HGA.out; exact free_at h9 4)))
  go_wp2_with fail
  obtain ⟨⟨mx5, mn5, h9, i1, i2⟩, -, -⟩ := H5.out g _ HGA.out
  have K6 := Lib.hid ((Keeps.refl (fun x => x = g) w5).setIn g 4 (.pointer (some ⟨q, 0, none⟩)) rfl)
  have H6 := Lib.hid (H5.out.turn K6.out HGA.out (s' := ⟨some gi, a, (some q), cg⟩) rfl i1 i2 (heap_setCell_same w5 g 4 _ _ _ h9))
  have SG : Hid ((upd (upd (upd S p ⟨some pi, z, b, true⟩) q ⟨some qi, v, (some p), false⟩) g ⟨some gi, a, (some q), cg⟩) g = some ⟨some gi, a, (some q), cg⟩) := upd_same _ _ _
  have SQ : Hid ((upd (upd (upd S p ⟨some pi, z, b, true⟩) q ⟨some qi, v, (some p), false⟩) g ⟨some gi, a, (some q), cg⟩) q = some ⟨some qi, v, (some p), false⟩) := (upd_other _ _ (Ne.symm HGQ.out)).trans (upd_same _ _ _)
  have TA : Hid (There (upd (upd (upd S p ⟨some pi, z, b, true⟩) q ⟨some qi, v, (some p), false⟩) g ⟨some gi, a, (some q), cg⟩) a) := ((HA.out.upd _ _).upd _ _).upd _ _
  have TV : Hid (There (upd (upd (upd S p ⟨some pi, z, b, true⟩) q ⟨some qi, v, (some p), false⟩) g ⟨some gi, a, (some q), cg⟩) v) := ((HV.out.upd _ _).upd _ _).upd _ _
  have TP : Hid (There (upd (upd (upd S p ⟨some pi, z, b, true⟩) q ⟨some qi, v, (some p), false⟩) g ⟨some gi, a, (some q), cg⟩) (some p)) := fun b e => by obtain rfl := Option.some.inj e; exact ⟨_, (upd_other _ _ (Ne.symm HGP.out)).trans ((upd_other _ _ HPQ.out).trans (upd_same _ _ _))⟩
  have K7 := Lib.hid (((Keeps.refl (fun x => x = g ∨ x = p ∨ x = q) w').drew.trans K5.out (fun b _ e => Or.inr e)).trans K6.out (fun b _ e => Or.inl e))
  clear h9 i1 i2 K5 K6 H5 A5 a5 f5 HGA a4
  refine (rot146_0 B (upd (upd (upd S p ⟨some pi, z, b, true⟩) q ⟨some qi, v, (some p), false⟩) g ⟨some gi, a, (some q), cg⟩) g q gi qi a v (some p) cg false _ H6.out SG.out SQ.out HGQ.out TA.out TV.out TP.out HA1.out HV2.out HSPQ.out).mono ?_
  rintro e w8 ⟨rfl, h8, k8⟩
  rw [upd_five _ HGQ.out] at h8
  have H8 := Lib.hid h8; clear h8
  have K8 := Lib.hid (K7.out.trans k8 (fun b _ e => e.elim Or.inl (fun e => Or.inr (Or.inr e)))); clear k8 K7
  go_wp2_with fail
  go_ret
  exact ⟨rfl, H8.out, K8.out⟩

set_option maxRecDepth 100000 in
set_option maxHeartbeats 1600000 in
theorem dbl147_1 (B : Nat) (S : Nat → Option Sh) (g p q : Nat) (gi pi qi : Iv) (a b v z : Option Nat) (cg cp cq : Bool) (w : World) (h : HeapOK B w S) (hg : S g = some ⟨some gi, (some p), a, cg⟩) (hp : S p = some ⟨some pi, b, (some q), cp⟩) (hq : S q = some ⟨some qi, z, v, cq⟩)
    (hgp : g ≠ p) (hgq : g ≠ q) (hpq : p ≠ q) (ha : There S a) (hb : There S b) (hv : There S v) (hz : There S z) (ha1 : a ≠ some g) (hb1 : b ≠ some p) (hz1 : z ≠ some p) (hv1 : v ≠ some q) (hv2 : v ≠ some g) :
    Calls Tryz.prog 147 #[.pointer (some ⟨g, 0, none⟩), .int .i64 1] w (Twice B (upd (upd (upd S p ⟨some pi, b, z, true⟩) q ⟨some qi, (some p), (some g), false⟩) g ⟨some gi, v, a, true⟩) g p q w) := by
  obtain ⟨⟨mx, mn, g0, hmx, hmn⟩, hIg, hBg⟩ := h g _ hg
  have a3 : w.cell? ⟨g, 3, none⟩ = some (.pointer (some ⟨p, 0, none⟩)) := cell_at g0 3
  have H := Lib.hid h; clear h
  have HG := Lib.hid hg; clear hg
  have HP := Lib.hid hp; clear hp
  have HQ := Lib.hid hq; clear hq
  have HA := Lib.hid ha; clear ha
  have HB := Lib.hid hb; clear hb
  have HV := Lib.hid hv; clear hv
  have HZ := Lib.hid hz; clear hz
  have HA1 := Lib.hid ha1; clear ha1
  have HB1 := Lib.hid hb1; clear hb1
  have HZ1 := Lib.hid hz1; clear hz1
  have HV1 := Lib.hid hv1; clear hv1
  have HV2 := Lib.hid hv2; clear hv2
  have HGP := Lib.hid hgp; clear hgp
  have HGQ := Lib.hid hgq; clear hgq
  have HPQ := Lib.hid hpq; clear hpq
  clear g0 hmx hmn hIg
  have hspq : some p ≠ some q := fun e => HPQ.out (Option.some.inj e)
  have HSPQ := Lib.hid hspq; clear hspq
  have HGA : Hid ((upd (upd S p ⟨some pi, b, z, true⟩) q ⟨some qi, (some p), v, false⟩) g = some ⟨some gi, (some p), a, cg⟩) := (upd_other _ _ HGQ.out).trans ((upd_other _ _ HGP.out).trans HG.out)
  go_enter Tryz.func147, Tryz.ntmps147
  go_wp2_with fail
  refine (opp1 w).mono ?_
  rintro e w' ⟨rfl, hw⟩
  subst hw
  go_wp2_with fail
  go_region_with
    (first | (go_at_call 146; refine (rot146_0 B S p q pi qi b z v cp cq _ (H.out.new ((Keeps.refl _ _).drew)) HP.out HQ.out HPQ.out HB.out HZ.out HV.out HB1.out HZ1.out HV1.out).mono ?_; rintro e w5 ⟨rfl, h5, k5⟩; have H5 := Lib.hid h5; have K5 := Lib.hid k5; clear h5 k5; have A5 : Hid (w5.cell? ⟨g, 3, none⟩ = some (.pointer (some ⟨p, 0, none⟩))) := K5.out.cell a3 (fun e => e.elim HGP.out HGQ.out); have a5 := A5.out; have f5 : w5.frozen? ⟨g, 3, none⟩ = false := by (obtain ⟨⟨_, _, h9, _, _⟩, _, _⟩ := H5.out g _ HGA.out; exact free_at h9 3)))
  go_wp2_with fail
  obtain ⟨⟨mx5, mn5, h9, i1, i2⟩, -, -⟩ := H5.out g _ HGA.out
  have K6 := Lib.hid ((Keeps.refl (fun x => x = g) w5).setIn g 3 (.pointer (some ⟨q, 0, none⟩)) rfl)
  have H6 := Lib.hid (H5.out.turn K6.out HGA.out (s' := ⟨some gi, (some q), a, cg⟩) rfl i1 i2 (heap_setCell_same w5 g 3 _ _ _ h9))
  have SG : Hid ((upd (upd (upd S p ⟨some pi, b, z, true⟩) q ⟨some qi, (some p), v, false⟩) g ⟨some gi, (some q), a, cg⟩) g = some ⟨some gi, (some q), a, cg⟩) := upd_same _ _ _
  have SQ : Hid ((upd (upd (upd S p ⟨some pi, b, z, true⟩) q ⟨some qi, (some p), v, false⟩) g ⟨some gi, (some q), a, cg⟩) q = some ⟨some qi, (some p), v, false⟩) := (upd_other _ _ (Ne.symm HGQ.out)).trans (upd_same _ _ _)
  have TA : Hid (There (upd (upd (upd S p ⟨some pi, b, z, true⟩) q ⟨some qi, (some p), v, false⟩) g ⟨some gi, (some q), a, cg⟩) a) := ((HA.out.upd _ _).upd _ _).upd _ _
  have TV : Hid (There (upd (upd (upd S p ⟨some pi, b, z, true⟩) q ⟨some qi, (some p), v, false⟩) g ⟨some gi, (some q), a, cg⟩) v) := ((HV.out.upd _ _).upd _ _).upd _ _
  have TP : Hid (There (upd (upd (upd S p ⟨some pi, b, z, true⟩) q ⟨some qi, (some p), v, false⟩) g ⟨some gi, (some q), a, cg⟩) (some p)) := fun b e => by obtain rfl := Option.some.inj e; exact ⟨_, (upd_other _ _ (Ne.symm HGP.out)).trans ((upd_other _ _ HPQ.out).trans (upd_same _ _ _))⟩
  have K7 := Lib.hid (((Keeps.refl (fun x => x = g ∨ x = p ∨ x = q) w').drew.trans K5.out (fun b _ e => Or.inr e)).trans K6.out (fun b _ e => Or.inl e))
  clear h9 i1 i2 K5 K6 H5 A5 a5 f5 HGA a3
  refine (rot146_1 B (upd (upd (upd S p ⟨some pi, b, z, true⟩) q ⟨some qi, (some p), v, false⟩) g ⟨some gi, (some q), a, cg⟩) g q gi qi a v (some p) cg false _ H6.out SG.out SQ.out HGQ.out TA.out TV.out TP.out HA1.out HV2.out HSPQ.out).mono ?_
  rintro e w8 ⟨rfl, h8, k8⟩
  rw [upd_five _ HGQ.out] at h8
  have H8 := Lib.hid h8; clear h8
  have K8 := Lib.hid (K7.out.trans k8 (fun b _ e => e.elim Or.inl (fun e => Or.inr (Or.inr e)))); clear k8 K7
  go_wp2_with fail
  go_ret
  exact ⟨rfl, H8.out, K8.out⟩
end Go.Proofs.YtegejfhomocloaaGreat

namespace Go.Proofs.YtegejfhomocloaaGreat
open Go.RowKit

def treeCells (rt : Option Nat) (m : Int) : Array Value := #[ptrO rt, .int .u64 1, .int .u64 m, .nilIface, .int .i64 0, .int .i64 0, .pointer none, .pointer none, .bool false, .int .u64 0]
def TreeAt (t : Nat) (rt : Option Nat) (w : World) : Prop := ∃ m, w.heap[t]? = some (.cells (treeCells rt m) 169 (0, 0))

set_option maxRecDepth 100000 in
set_option maxHeartbeats 400000 in
theorem reset137 (t : Nat) (rt : Option Nat) (w : World) (h : TreeAt t rt w) : Calls Tryz.prog 137 #[.pointer (some ⟨t, 0, none⟩)] w fun e w' => e = .returned (.tuple #[]) ∧ TreeAt t rt w' ∧ Keeps (fun x => x = t) w w' := by
  obtain ⟨m, hm⟩ := h
  have a6 : w.cell? ⟨t, 6, none⟩ = some (.pointer none) := cell_at hm 6
  have a7 : w.cell? ⟨t, 7, none⟩ = some (.pointer none) := cell_at hm 7
  have a8 : w.cell? ⟨t, 8, none⟩ = some (.bool false) := cell_at hm 8
  have f6 : w.frozen? ⟨t, 6, none⟩ = false := free_at hm 6
  have f7 : w.frozen? ⟨t, 7, none⟩ = false := free_at hm 7
  have f8 : w.frozen? ⟨t, 8, none⟩ = false := free_at hm 8
  have HM := Lib.hid hm; clear hm
  go_enter Tryz.func137, Tryz.ntmps137
  go_wp2_with fail
  go_region_law (fail)
  all_goals
    go_wp2_with fail
    go_end0
    refine ⟨rfl, ⟨m, ?_⟩, ?_⟩
    first
      | exact heap_setCell_same _ t 8 _ _ (.bool false) (heap_setCell_same _ t 7 _ _ (.pointer none) (heap_setCell_same w t 6 _ _ (.pointer none) HM.out))
      | exact heap_setCell_same _ t 8 _ _ (.bool false) (heap_setCell_same _ t 6 _ _ (.pointer none) (heap_setCell_same w t 7 _ _ (.pointer none) HM.out))
    first
      | exact ((((Keeps.refl (fun x => x = t) w).setIn t 6 _ rfl).setIn t 7 _ rfl).setIn t 8 _ rfl).drew
      | exact ((((Keeps.refl (fun x => x = t) w).setIn t 7 _ rfl).setIn t 6 _ rfl).setIn t 8 _ rfl).drew
end Go.Proofs.YtegejfhomocloaaGreat

namespace Go.Proofs.YtegejfhomocloaaGreat
open Go.RowKit

theorem und163 : Tryz.prog.underlying 163 = some (.pointer 166) := by kernel_rfl
theorem inf166 : (Tryz.prog.info? 166).map (fun i => i.size) = some 7 := by kernel_rfl
theorem inf166' : ∃ j, Tryz.prog.info? 166 = some j ∧ j.size ≠ 0 := by
  have h := inf166
  cases hj : Tryz.prog.info? 166 with
  | none => rw [hj] at h; cases h
  | some j => rw [hj] at h; exact ⟨j, rfl, by have h7 : j.size = 7 := Option.some.inj h; rw [h7]; decide⟩
@[go_sem] theorem eql163_same (a : Addr) (w : World) : (binOp .eql 163 (.pointer (some a)) (.pointer (some a))).run Tryz.prog w = .ok (.bool true) w := by
  obtain ⟨j, hj, -⟩ := inf166'
  exact run_eql_ptr_same w a und163 hj
@[go_sem] theorem eql163_ns (a : Addr) (w : World) : (binOp .eql 163 (.pointer none) (.pointer (some a))).run Tryz.prog w = .ok (.bool false) w := by
  have h : ∀ d : Nat, (Op.equalIn (d + 1) 163 (.pointer none) (.pointer (some a))).run Tryz.prog w = .ok false w := fun d => by
    simp [Op.equalIn, run_underlying und163]
  simp only [binOp]
  simp [Op.equal, Op.maxDepth, h 9999]
theorem eql163_other {w : World} {x g : Nat} {ca cb : Array Value} (h : x ≠ g) (hx : w.heap[x]? = some (.cells ca 166 (0, 0))) (hg : w.heap[g]? = some (.cells cb 166 (0, 0))) :
    (binOp .eql 163 (.pointer (some ⟨x, 0, none⟩)) (.pointer (some ⟨g, 0, none⟩))).run Tryz.prog w = .ok (.bool false) w := by
  obtain ⟨j, hj, hz⟩ := inf166'
  exact run_eql_ptr_other w und163 hj hz (fun e => h (by injection e)) hx hg
theorem third_sib {S : Nat → Option Sh} {p g hh : Fr} {H : List Fr} {q : Option Nat} {R : List (Nat × Sh)} (h : Has S (cRecs (p :: g :: hh :: H) q ++ R)) : There S hh.sib.root := root_there h (fun x hx => by simp [cRecs, hx])
theorem first_sib {S : Nat → Option Sh} {p : Fr} {H : List Fr} {q : Option Nat} {R : List (Nat × Sh)} (h : Has S (cRecs (p :: H) q ++ R)) : There S p.sib.root := root_there h (fun x hx => by simp [cRecs, hx])
end Go.Proofs.YtegejfhomocloaaGreat
