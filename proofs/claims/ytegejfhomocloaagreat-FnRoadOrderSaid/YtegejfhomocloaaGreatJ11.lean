/- A part of the proof of FnRoadOrder: red-black trees with a place in them: the plain half. No conditions but those of the theorems. -/
import Derived.Handy
import Derived.Test.YtegejfhomocloaaGreatJ1
set_option linter.all false
/- Red-black trees with a place in them: what the turns of such a tree do to its nodes and to their order. Plain; no program in sight. -/
namespace Go.Proofs.YtegejfhomocloaaGreat

/-- An interval of one point: where its ends lie, the point, its number. -/
structure Iv where
  la : Nat
  ha : Nat
  k : Int
  id : Nat
/-- What a node holds, but for its ranges; the dummy holds no interval. -/
structure Sh where
  iv : Option Iv
  c0 : Option Nat
  c1 : Option Nat
  red : Bool
/-- A tree with its nodes' blocks. -/
inductive RT where
  | nil
  | node (b : Nat) (iv : Iv) (red : Bool) (l r : RT)
namespace RT
def root : RT → Option Nat
  | nil => none
  | node b _ _ _ _ => some b
def isRed : RT → Bool
  | nil => false
  | node _ _ c _ _ => c
def recs : RT → List (Nat × Sh)
  | nil => []
  | node b i c l r => (b, ⟨some i, l.root, r.root, c⟩) :: (recs l ++ recs r)
def ivs : RT → List Iv
  | nil => []
  | node _ i _ l r => ivs l ++ i :: ivs r
def NRR : RT → Prop
  | nil => True
  | node _ _ c l r => (c = true → l.isRed = false ∧ r.isRed = false) ∧ NRR l ∧ NRR r
def size : RT → Nat
  | nil => 0
  | node _ _ _ l r => size l + size r + 1
def Safe (t : RT) : Prop := ∃ b i l r, t = node b i false l r ∧ l.isRed = false ∧ r.isRed = false
def black : RT → RT
  | nil => nil
  | node b i _ l r => node b i false l r
def kid (d : Bool) : RT → RT
  | nil => nil
  | node _ _ _ l r => bif d then r else l
end RT
/-- A node above the place: the way that was taken there, and the tree on the other side. -/
structure Fr where
  b : Nat
  iv : Option Iv
  red : Bool
  dir : Bool
  sib : RT
def Fr.sh (f : Fr) (p : Option Nat) : Sh := bif f.dir then ⟨f.iv, f.sib.root, p, f.red⟩ else ⟨f.iv, p, f.sib.root, f.red⟩
def Sh.kid (s : Sh) (d : Bool) : Option Nat := bif d then s.c1 else s.c0
def Sh.put (s : Sh) (d : Bool) (p : Option Nat) : Sh := bif d then ⟨s.iv, s.c0, p, s.red⟩ else ⟨s.iv, p, s.c1, s.red⟩
def Sh.dye (s : Sh) (c : Bool) : Sh := ⟨s.iv, s.c0, s.c1, c⟩
def cRecs : List Fr → Option Nat → List (Nat × Sh)
  | [], _ => []
  | f :: F, p => (f.b, f.sh p) :: (f.sib.recs ++ cRecs F (some f.b))
def cL : List Fr → List Iv
  | [] => []
  | f :: F => cL F ++ bif f.dir then f.sib.ivs ++ f.iv.toList else []
def cR : List Fr → List Iv
  | [] => []
  | f :: F => (bif f.dir then [] else f.iv.toList ++ f.sib.ivs) ++ cR F
def cNRR : List Fr → Bool → Prop
  | [], _ => True
  | f :: F, c => (f.red = true → c = false ∧ f.sib.isRed = false) ∧ f.sib.NRR ∧ cNRR F f.red
/-- The last one is the dummy. -/
def Dum (d : Nat) : List Fr → Prop
  | [] => False
  | [f] => f = ⟨d, none, false, true, .nil⟩
  | f :: F => f.iv.isSome = true ∧ Dum d F
/-- A node with one child on a side. -/
def mk (b : Nat) (i : Iv) (c d : Bool) (s x : RT) : RT := bif d then .node b i c s x else .node b i c x s

/-- The map S knows the records, each block once. -/
def Has (S : Nat → Option Sh) (R : List (Nat × Sh)) : Prop := (R.map (·.1)).Nodup ∧ ∀ x ∈ R, S x.1 = some x.2
def upd (S : Nat → Option Sh) (b : Nat) (r : Sh) : Nat → Option Sh := fun x => if x = b then some r else S x
theorem upd_same (S : Nat → Option Sh) (b : Nat) (r : Sh) : upd S b r b = some r := if_pos rfl
theorem upd_other (S : Nat → Option Sh) {b x : Nat} (r : Sh) (h : x ≠ b) : upd S b r x = S x := if_neg h
theorem Has.perm {S : Nat → Option Sh} {R R' : List (Nat × Sh)} (h : Has S R) (p : R.Perm R') : Has S R' := ⟨(p.map _).nodup_iff.1 h.1, fun x hx => h.2 x (p.mem_iff.2 hx)⟩
theorem Has.upd {S : Nat → Option Sh} {R : List (Nat × Sh)} {b : Nat} {s : Sh} (h : Has S ((b, s) :: R)) (s' : Sh) : Has (upd S b s') ((b, s') :: R) := by
  obtain ⟨h1, h2⟩ := h
  rw [List.map_cons, List.nodup_cons] at h1
  refine ⟨by rw [List.map_cons, List.nodup_cons]; exact h1, fun x hx => ?_⟩
  rcases List.mem_cons.1 hx with rfl | hx
  · exact upd_same _ _ _
  · have hx' : x.1 ∈ R.map (·.1) := List.mem_map_of_mem hx
    rw [upd_other _ _ (fun e => h1.1 (by rw [e] at hx'; exact hx'))]
    exact h2 x (List.mem_cons_of_mem _ hx)
theorem Has.new {S : Nat → Option Sh} {R : List (Nat × Sh)} {b : Nat} (h : Has S R) (hb : ∀ x s, S x = some s → x ≠ b) (s' : Sh) : Has (YtegejfhomocloaaGreat.upd S b s') ((b, s') :: R) := by
  have hn : b ∉ R.map (·.1) := fun hm => by
    obtain ⟨x, hx, hxb⟩ := List.mem_map.1 hm
    exact hb x.1 _ (h.2 x hx) hxb
  refine ⟨by rw [List.map_cons, List.nodup_cons]; exact ⟨hn, h.1⟩, fun x hx => ?_⟩
  rcases List.mem_cons.1 hx with rfl | hx
  · exact upd_same _ _ _
  · rw [upd_other _ _ (hb x.1 _ (h.2 x hx))]; exact h.2 x hx
theorem Has.tail {S : Nat → Option Sh} {R R' : List (Nat × Sh)} (h : Has S (R ++ R')) : Has S R' := by
  refine ⟨?_, fun x hx => h.2 x (List.mem_append_right _ hx)⟩
  have := h.1
  rw [List.map_append, List.nodup_append] at this
  exact this.2.1
theorem Has.ne {S : Nat → Option Sh} {R : List (Nat × Sh)} {x y : Nat × Sh} (h : Has S (x :: R)) (hy : y ∈ R) : x.1 ≠ y.1 := by
  have h1 := h.1
  rw [List.map_cons, List.nodup_cons] at h1
  exact fun e => h1.1 (by rw [e]; exact List.mem_map_of_mem hy)

theorem perm_of {R R' : List (Nat × Sh)} (h : ∀ (_ : DecidableEq (Nat × Sh)) a, R.count a = R'.count a) : R.Perm R' := by
  have d : DecidableEq (Nat × Sh) := Classical.typeDecidableEq _
  exact (List.perm_iff_count).2 (fun a => h d a)


/-- One turn of three in line. -/
theorem single_recs (pb gb : Nat) (pi gi : Iv) (d : Bool) (ps gs : RT) (h : Fr) (F : List Fr) (t : Option Nat) (R : List (Nat × Sh)) :
    (cRecs (⟨pb, some pi, true, d, ps⟩ :: ⟨gb, some gi, false, d, gs⟩ :: h :: F) t ++ R).Perm
      ((gb, (Fr.mk gb (some gi) false d gs).sh (some pb)) :: (pb, (Fr.mk pb (some pi) true d ps).sh t) :: (h.b, h.sh (some gb)) :: (ps.recs ++ (gs.recs ++ (h.sib.recs ++ (cRecs F (some h.b) ++ R))))) := by
  refine perm_of fun D a => ?_
  simp only [cRecs, List.count_append, List.count_cons, List.cons_append]
  omega
theorem single_recs' (pb gb : Nat) (pi gi : Iv) (d : Bool) (ps gs : RT) (h : Fr) (F : List Fr) (t : Option Nat) (R : List (Nat × Sh)) :
    (cRecs (⟨pb, some pi, false, d, mk gb gi true d gs ps⟩ :: h :: F) t ++ R).Perm
      ((gb, (((Fr.mk gb (some gi) false d gs).sh (some pb)).put d (((Fr.mk pb (some pi) true d ps).sh t).kid (!d))).dye true) ::
       (pb, (((Fr.mk pb (some pi) true d ps).sh t).put (!d) (some gb)).dye false) :: (h.b, (h.sh (some gb)).put h.dir (some pb)) :: (ps.recs ++ (gs.recs ++ (h.sib.recs ++ (cRecs F (some h.b) ++ R))))) := by
  obtain ⟨hb, hi, hc, hd, hs⟩ := h
  refine perm_of fun D a => ?_
  cases d <;> cases hd <;>
  · simp only [cRecs, mk, cond_true, cond_false, RT.recs, Fr.sh, RT.root, Sh.put, Sh.dye, Sh.kid, Bool.not_true, Bool.not_false, List.count_append, List.count_cons, List.cons_append]
    omega
/-- Two turns of three in a knee. -/
theorem double_recs (pb gb qb : Nat) (pi gi qi : Iv) (d : Bool) (ps gs l r : RT) (h : Fr) (F : List Fr) :
    (cRecs (⟨pb, some pi, true, !d, ps⟩ :: ⟨gb, some gi, false, d, gs⟩ :: h :: F) (some qb) ++ (RT.node qb qi true l r).recs).Perm
      ((pb, (Fr.mk pb (some pi) true (!d) ps).sh (some qb)) :: (qb, ⟨some qi, l.root, r.root, true⟩) :: (gb, (Fr.mk gb (some gi) false d gs).sh (some pb)) :: (h.b, h.sh (some gb)) :: (l.recs ++ (r.recs ++ (ps.recs ++ (gs.recs ++ (h.sib.recs ++ cRecs F (some h.b))))))) := by
  refine perm_of fun D a => ?_
  simp only [cRecs, RT.recs, List.count_append, List.count_cons, List.cons_append]
  omega
def dblT (pb gb qb : Nat) (pi gi qi : Iv) (d : Bool) (ps gs l r : RT) : RT :=
  bif d then .node qb qi false (.node gb gi true gs l) (.node pb pi true r ps) else .node qb qi false (.node pb pi true ps l) (.node gb gi true r gs)
/-- The first turn: the parent below the node. -/
theorem double_recs' (pb gb qb : Nat) (pi gi qi : Iv) (d : Bool) (ps gs l r : RT) (h : Fr) (F : List Fr) :
    (cRecs (h :: F) (some qb) ++ (dblT pb gb qb pi gi qi d ps gs l r).recs).Perm
      ((pb, (((Fr.mk pb (some pi) true (!d) ps).sh (some qb)).put (!d) ((Sh.mk (some qi) l.root r.root true).kid d)).dye true) ::
       (qb, ((((((Sh.mk (some qi) l.root r.root true).put d (some pb)).dye false).put (!d) (some gb)).dye false))) ::
       (gb, ((((Fr.mk gb (some gi) false d gs).sh (some pb)).put d (some qb)).put d ((((Sh.mk (some qi) l.root r.root true).put d (some pb)).dye false).kid (!d))).dye true) ::
       (h.b, (h.sh (some gb)).put h.dir (some qb)) :: (l.recs ++ (r.recs ++ (ps.recs ++ (gs.recs ++ (h.sib.recs ++ cRecs F (some h.b))))))) := by
  obtain ⟨hb, hi, hc, hd, hs⟩ := h
  refine perm_of fun D a => ?_
  cases d <;> cases hd <;>
  · simp only [dblT, cRecs, cond_true, cond_false, RT.recs, Fr.sh, RT.root, Sh.put, Sh.dye, Sh.kid, Bool.not_true, Bool.not_false, List.count_append, List.count_cons, List.cons_append]
    omega

/-- The whole in order. -/
def whole (F : List Fr) (t : RT) : List Iv := cL F ++ (t.ivs ++ cR F)
theorem single_whole (pb gb : Nat) (pi gi : Iv) (d : Bool) (ps gs : RT) (F : List Fr) (t : RT) :
    whole (⟨pb, some pi, false, d, mk gb gi true d gs ps⟩ :: F) t = whole (⟨pb, some pi, true, d, ps⟩ :: ⟨gb, some gi, false, d, gs⟩ :: F) t := by
  cases d <;> simp [whole, cL, cR, mk, RT.ivs]
theorem double_whole (pb gb qb : Nat) (pi gi qi : Iv) (d c : Bool) (ps gs l r : RT) (F : List Fr) :
    whole F (dblT pb gb qb pi gi qi d ps gs l r) = whole (⟨pb, some pi, true, !d, ps⟩ :: ⟨gb, some gi, false, d, gs⟩ :: F) (.node qb qi c l r) := by
  cases d <;> simp [whole, cL, cR, dblT, RT.ivs]
theorem down_whole (b : Nat) (i : Iv) (c d : Bool) (l r : RT) (F : List Fr) :
    whole (⟨b, some i, c, d, (RT.node b i c l r).kid (!d)⟩ :: F) ((RT.node b i c l r).kid d) = whole F (.node b i c l r) := by
  cases d <;> simp [whole, cL, cR, RT.kid, RT.ivs]
theorem down_recs (b : Nat) (i : Iv) (c d : Bool) (l r : RT) (F : List Fr) :
    (cRecs F (some b) ++ (RT.node b i c l r).recs).Perm (cRecs (⟨b, some i, c, d, (RT.node b i c l r).kid (!d)⟩ :: F) ((RT.node b i c l r).kid d).root ++ ((RT.node b i c l r).kid d).recs) := by
  refine perm_of fun D a => ?_
  cases d <;>
  · simp only [cRecs, cond_true, cond_false, RT.recs, Fr.sh, RT.kid, Bool.not_true, Bool.not_false, List.count_append, List.count_cons, List.cons_append]
    omega

theorem Dum.ne {d : Nat} {F : List Fr} (h : Dum d F) : F ≠ [] := fun e => by subst e; exact h
theorem Dum.cons {d : Nat} {F : List Fr} (h : Dum d F) (f : Fr) (hf : f.iv.isSome = true) : Dum d (f :: F) := by
  cases F with
  | nil => exact h.elim
  | cons g G => exact ⟨hf, h⟩
theorem Dum.tail {d : Nat} {f g : Fr} {F : List Fr} (h : Dum d (f :: g :: F)) : Dum d (g :: F) := h.2
theorem Dum.some {d : Nat} {f g : Fr} {F : List Fr} (h : Dum d (f :: g :: F)) : f.iv.isSome = true := h.1
theorem Dum.one {d : Nat} {f : Fr} (h : Dum d [f]) : f = ⟨d, none, false, true, .nil⟩ := h

/-- What holds at the head of a round, the ways' slots aside. -/
structure Core (d : Nat) (key : Int) (F : List Fr) (t : RT) : Prop where
  dum : Dum d F
  asc : (whole F t).Pairwise (fun x y => x.k < y.k)
  lo : ∀ x ∈ cL F, x.k < key
  hi : ∀ x ∈ cR F, key < x.k
  nt : t.NRR
  nc : cNRR F t.isRed

def HdOK (key : Int) (F : List Fr) (t : RT) : Nat → Prop
  | 0 => (∀ f G, F = f :: G → (t.isRed = true → f.sib.isRed = false) ∧ (f.red = true → t.Safe ∨ ∃ g h H, G = g :: h :: H ∧ g.sib.isRed = false))
  | 1 => (∃ f g h H, F = f :: g :: h :: H) ∧ t.Safe
  | 2 => (∃ f g H, F = f :: g :: H ∧ f.red = false) ∧ ∃ b i l r, t = .node b i true l r ∧ l.isRed = false ∧ r.isRed = false ∧ (key < i.k → l.Safe) ∧ (i.k < key → r.Safe)
  | _ => False
def wayOf (key : Int) (i : Iv) : Bool := decide (i.k < key)

theorem down_core {d : Nat} {key : Int} {F : List Fr} {b : Nat} {i : Iv} {c : Bool} {l r : RT} (h : Core d key F (.node b i c l r)) (hk : i.k ≠ key) :
    Core d key (⟨b, some i, c, wayOf key i, (RT.node b i c l r).kid (!wayOf key i)⟩ :: F) ((RT.node b i c l r).kid (wayOf key i)) := by
  have hasc := h.asc
  refine ⟨h.dum.cons _ rfl, by rw [down_whole]; exact hasc, ?_, ?_, ?_, ?_⟩
  · intro x hx
    by_cases hw : i.k < key
    · have hw' : wayOf key i = true := by simp [wayOf, hw]
      rw [hw'] at hx
      simp only [cL, cond_true, RT.kid, Bool.not_true, cond_false, Option.toList, List.mem_append, List.mem_singleton] at hx
      rcases hx with hx | hx | rfl
      · exact h.lo x hx
      · have : x.k < i.k := by
          unfold whole at hasc
          have h2 := (List.pairwise_append.1 (List.pairwise_append.1 hasc).2.1).1
          exact (List.pairwise_append.1 h2).2.2 x hx i (by simp)
        omega
      · exact hw
    · have hw' : wayOf key i = false := by simp [wayOf, hw]
      rw [hw'] at hx
      simp only [cL, cond_false, List.append_nil] at hx
      exact h.lo x hx
  · intro x hx
    by_cases hw : i.k < key
    · have hw' : wayOf key i = true := by simp [wayOf, hw]
      rw [hw'] at hx
      simp only [cR, cond_true, List.nil_append] at hx
      exact h.hi x hx
    · have hw' : wayOf key i = false := by simp [wayOf, hw]
      rw [hw'] at hx
      simp only [cR, cond_true, RT.kid, Bool.not_false, cond_false, Option.toList, List.mem_append, List.mem_singleton] at hx
      rcases hx with (rfl | hx) | hx
      · omega
      · have : i.k < x.k := by
          unfold whole at hasc
          have h2 := (List.pairwise_append.1 (List.pairwise_append.1 hasc).2.1).1
          exact (List.pairwise_cons.1 (List.pairwise_append.1 h2).2.1).1 x hx
        omega
      · exact h.hi x hx
  · have := h.nt
    cases wayOf key i
    · exact this.2.1
    · exact this.2.2
  · have h1 := h.nt
    have h2 := h.nc
    cases wayOf key i
    · exact ⟨fun e => h1.1 e, h1.2.2, h2⟩
    · exact ⟨fun e => ⟨(h1.1 e).2, (h1.1 e).1⟩, h1.2.1, h2⟩
end Go.Proofs.YtegejfhomocloaaGreat

namespace Go.Proofs.YtegejfhomocloaaGreat

theorem black_root (t : RT) : t.black.root = t.root := by cases t <;> rfl
theorem black_ivs (t : RT) : t.black.ivs = t.ivs := by cases t <;> rfl
theorem black_not (t : RT) : t.black.isRed = false := by cases t <;> rfl
theorem black_nrr {t : RT} (h : t.NRR) : t.black.NRR := by
  cases t with
  | nil => trivial
  | node b i c l r => exact ⟨fun e => (by cases e), h.2.1, h.2.2⟩
theorem black_safe {t : RT} (h : t.NRR) (hr : t.isRed = true) : t.black.Safe := by
  cases t with
  | nil => cases hr
  | node b i c l r => exact ⟨b, i, l, r, rfl, (h.1 hr).1, (h.1 hr).2⟩
theorem not_safe_nil : ¬ RT.nil.Safe := fun ⟨_, _, _, _, h, _⟩ => by cases h

/-- As Core, but that the place may be red below a red one. -/
structure CoreX (d : Nat) (key : Int) (F : List Fr) (t : RT) : Prop where
  dum : Dum d F
  asc : (whole F t).Pairwise (fun x y => x.k < y.k)
  lo : ∀ x ∈ cL F, x.k < key
  hi : ∀ x ∈ cR F, key < x.k
  nt : t.NRR
  nc : cNRR F false

theorem cNRR_top {f : Fr} {F : List Fr} {c c' : Bool} (h : cNRR (f :: F) c) (hf : f.red = false) : cNRR (f :: F) c' := ⟨fun e => (by rw [hf] at e; cases e), h.2⟩
theorem cNRR_less {F : List Fr} {c : Bool} (h : cNRR F c) : cNRR F false := by
  cases F with
  | nil => trivial
  | cons f F => exact ⟨fun e => ⟨rfl, (h.1 e).2⟩, h.2⟩
theorem CoreX.core {d : Nat} {key : Int} {f : Fr} {F : List Fr} {t : RT} (h : CoreX d key (f :: F) t) (hf : f.red = false ∨ t.isRed = false) : Core d key (f :: F) t := by
  refine ⟨h.dum, h.asc, h.lo, h.hi, h.nt, ?_⟩
  rcases hf with hf | hf
  · exact cNRR_top h.nc hf
  · rw [hf]; exact h.nc

/-- The place dyed red, its children black. -/
def flipT (b : Nat) (i : Iv) (l r : RT) : RT := .node b i true l.black r.black
theorem flip_core {d : Nat} {key : Int} {F : List Fr} {b : Nat} {i : Iv} {c : Bool} {l r : RT} (h : Core d key F (.node b i c l r)) : CoreX d key F (flipT b i l r) := by
  refine ⟨h.dum, ?_, h.lo, h.hi, ⟨fun _ => ⟨black_not l, black_not r⟩, black_nrr h.nt.2.1, black_nrr h.nt.2.2⟩, cNRR_less h.nc⟩
  have : whole F (flipT b i l r) = whole F (.node b i c l r) := by simp [whole, flipT, RT.ivs, black_ivs]
  rw [this]; exact h.asc
theorem new_core {d : Nat} {key : Int} {F : List Fr} (h : Core d key F .nil) (b : Nat) (i : Iv) (hi : i.k = key) : CoreX d key F (.node b i true .nil .nil) := by
  refine ⟨h.dum, ?_, h.lo, h.hi, ⟨fun _ => ⟨rfl, rfl⟩, trivial, trivial⟩, h.nc⟩
  have h1 := h.asc
  unfold whole at h1 ⊢
  simp only [RT.ivs, List.nil_append] at h1 ⊢
  obtain ⟨p1, p2, p3⟩ := List.pairwise_append.1 h1
  refine List.pairwise_append.2 ⟨p1, List.pairwise_cons.2 ⟨fun x hx => by rw [hi]; exact h.hi x hx, p2⟩, fun x hx y hy => ?_⟩
  rcases List.mem_cons.1 hy with rfl | hy
  · rw [hi]; exact h.lo x hx
  · exact p3 x hx y hy

/-- The shape in which two red ones lie: parent, grandparent, helper. -/
theorem three {d : Nat} {key : Int} {f : Fr} {F : List Fr} {t t' : RT} (h : CoreX d key (f :: F) t') (hd : HdOK key (f :: F) t 0) (hf : f.red = true) (hs : ¬ t.Safe) :
    ∃ pb gb pi gi pd gd ps gs hh H, f = ⟨pb, some pi, true, pd, ps⟩ ∧ F = ⟨gb, some gi, false, gd, gs⟩ :: hh :: H ∧ ps.isRed = false ∧ gs.isRed = false := by
  obtain ⟨h1, h2⟩ := hd f F rfl
  rcases h2 hf with h3 | ⟨g, hh, H, rfl, hgs⟩
  · exact absurd h3 hs
  obtain ⟨pb, pi, pc, pd, ps⟩ := f
  obtain ⟨gb, gi, gc, gd, gs⟩ := g
  have e1 := h.dum.some
  have e2 := h.dum.tail.some
  obtain ⟨pi, rfl⟩ := Option.isSome_iff_exists.1 e1
  obtain ⟨gi, rfl⟩ := Option.isSome_iff_exists.1 e2
  have hpc : pc = true := hf
  subst hpc
  have hn := h.nc
  have hgc : gc = false := by
    cases gc with
    | false => rfl
    | true => exact absurd (hn.2.2.1 rfl).1 (by simp)
  subst hgc
  exact ⟨pb, gb, pi, gi, pd, gd, ps, gs, hh, H, rfl, rfl, (hn.1 rfl).2, hgs⟩

theorem single_core {d : Nat} {key : Int} {pb gb : Nat} {pi gi : Iv} {dd : Bool} {ps gs : RT} {hh : Fr} {H : List Fr} {t : RT}
    (h : CoreX d key (⟨pb, some pi, true, dd, ps⟩ :: ⟨gb, some gi, false, dd, gs⟩ :: hh :: H) t) (hps : ps.isRed = false) (hgs : gs.isRed = false) :
    Core d key (⟨pb, some pi, false, dd, mk gb gi true dd gs ps⟩ :: hh :: H) t := by
  refine ⟨h.dum.tail.tail.cons _ rfl, by rw [single_whole]; exact h.asc, ?_, ?_, h.nt, ⟨fun e => (by cases e), ?_, ?_⟩⟩
  · intro x hx
    refine h.lo x ?_
    cases dd <;> simp [cL, mk, RT.ivs] at hx ⊢
    · exact hx
    · rcases hx with hx | hx | hx | hx | hx <;> simp [hx]
  · intro x hx
    refine h.hi x ?_
    cases dd <;> simp [cR, mk, RT.ivs] at hx ⊢
    · rcases hx with hx | hx | hx | hx | hx <;> simp [hx]
    · exact hx
  · have h1 := h.nc.2.1
    have h2 := h.nc.2.2.2.1
    cases dd
    · exact ⟨fun _ => ⟨hps, hgs⟩, h1, h2⟩
    · exact ⟨fun _ => ⟨hgs, hps⟩, h2, h1⟩
  · exact h.nc.2.2.2.2

theorem double_core {d : Nat} {key : Int} {pb gb qb : Nat} {pi gi qi : Iv} {dd : Bool} {ps gs l r : RT} {hh : Fr} {H : List Fr}
    (h : CoreX d key (⟨pb, some pi, true, !dd, ps⟩ :: ⟨gb, some gi, false, dd, gs⟩ :: hh :: H) (.node qb qi true l r)) (hps : ps.isRed = false) (hgs : gs.isRed = false) :
    Core d key (hh :: H) (dblT pb gb qb pi gi qi dd ps gs l r) := by
  have hl := (h.nt.1 rfl).1
  have hr := (h.nt.1 rfl).2
  refine ⟨h.dum.tail.tail, by rw [double_whole]; exact h.asc, ?_, ?_, ?_, ?_⟩
  · intro x hx
    refine h.lo x ?_
    cases dd <;> exact List.mem_append_left _ (List.mem_append_left _ hx)
  · intro x hx
    refine h.hi x ?_
    cases dd <;> exact List.mem_append_right _ (List.mem_append_right _ hx)
  · have h1 := h.nc.2.1
    have h2 := h.nc.2.2.2.1
    have h3 := h.nt.2.1
    have h4 := h.nt.2.2
    cases dd
    · exact ⟨fun e => (by cases e), ⟨fun _ => ⟨hps, hl⟩, h1, h3⟩, ⟨fun _ => ⟨hr, hgs⟩, h4, h2⟩⟩
    · exact ⟨fun e => (by cases e), ⟨fun _ => ⟨hgs, hl⟩, h2, h3⟩, ⟨fun _ => ⟨hr, hps⟩, h4, h1⟩⟩
  · have : (dblT pb gb qb pi gi qi dd ps gs l r).isRed = false := by cases dd <;> rfl
    rw [this]; exact h.nc.2.2.2.2

/-- A step down where nothing was turned. -/
theorem down_plain {d : Nat} {key : Int} {F : List Fr} {b : Nat} {i : Iv} {c : Bool} {l r : RT} {ph : Nat} (h : Core d key F (.node b i c l r)) (hd : HdOK key F (.node b i c l r) ph)
    (h0 : ph = 0 → ∀ f, F = [f] → c = false) (hk : i.k ≠ key) (hlr : ¬ (l.isRed = true ∧ r.isRed = true)) :
    HdOK key (⟨b, some i, c, wayOf key i, (RT.node b i c l r).kid (!wayOf key i)⟩ :: F) ((RT.node b i c l r).kid (wayOf key i)) (if ph = 2 then 1 else 0) := by
  have hsib : ∀ w, ((RT.node b i c l r).kid w).isRed = true → ((RT.node b i c l r).kid (!w)).isRed = false := by
    intro w hw
    rcases hw' : ((RT.node b i c l r).kid (!w)).isRed with _ | _
    · rfl
    · cases w
      · exact absurd ⟨hw, hw'⟩ hlr
      · exact absurd ⟨hw', hw⟩ hlr
  match ph, hd, h0 with
  | 0, hd, h0 =>
    intro f' G' e
    obtain ⟨rfl, rfl⟩ := List.cons.inj e
    refine ⟨hsib _, fun hc => ?_⟩
    have hc : c = true := hc
    subst hc
    obtain ⟨f, G, rfl⟩ : ∃ f G, F = f :: G := by
      cases F with
      | nil => exact absurd rfl h.dum.ne
      | cons f G => exact ⟨f, G, rfl⟩
    cases G with
    | nil => exact absurd (h0 rfl f rfl) (by simp)
    | cons g G => exact .inr ⟨f, g, G, rfl, (hd f (g :: G) rfl).1 rfl⟩
  | 1, hd, h0 =>
    obtain ⟨-, b', i', l', r', e, h1, h2⟩ := hd
    cases e
    intro f' G' e
    obtain ⟨rfl, rfl⟩ := List.cons.inj e
    exact ⟨hsib _, fun hc => (by cases hc)⟩
  | 2, hd, h0 =>
    obtain ⟨⟨f, g, H, rfl, hf⟩, b', i', l', r', e, h1, h2, h3, h4⟩ := hd
    cases e
    refine ⟨⟨_, f, g, H, rfl⟩, ?_⟩
    by_cases hw : i.k < key
    · have hw' : wayOf key i = true := by simp [wayOf, hw]
      rw [hw']; exact h4 hw
    · have hw' : wayOf key i = false := by simp [wayOf, hw]
      rw [hw']; exact h3 (by omega)
  | n + 3, hd, h0 => exact hd.elim

/-- Where both children are red, the phase is the first. -/
theorem flip_phase {key : Int} {F : List Fr} {b : Nat} {i : Iv} {c : Bool} {l r : RT} {ph : Nat} (hn : (RT.node b i c l r).NRR) (hd : HdOK key F (.node b i c l r) ph) (hl : l.isRed = true) (hr : r.isRed = true) :
    ph = 0 ∧ c = false ∧ ¬ (RT.node b i c l r).Safe := by
  have hs : ¬ (RT.node b i c l r).Safe := fun ⟨_, _, _, _, e, h1, _⟩ => by cases e; rw [hl] at h1; cases h1
  have hc : c = false := by
    cases c with
    | false => rfl
    | true => have := (hn.1 rfl).1; rw [hl] at this; cases this
  match ph, hd with
  | 0, _ => exact ⟨rfl, hc, hs⟩
  | 1, hd => exact absurd hd.2 hs
  | 2, hd =>
    obtain ⟨-, b', i', l', r', e, -⟩ := hd
    cases e; cases hc
  | n + 3, hd => exact hd.elim
theorem nil_phase {key : Int} {F : List Fr} {ph : Nat} (hd : HdOK key F .nil ph) : ph = 0 := by
  match ph, hd with
  | 0, _ => rfl
  | 1, hd => exact absurd hd.2 not_safe_nil
  | 2, hd => obtain ⟨-, b', i', l', r', e, -⟩ := hd; cases e
  | n + 3, hd => exact hd.elim

/-- A step down behind a dyeing, nothing turned. -/
theorem down_flip {key : Int} {F : List Fr} {b : Nat} {i : Iv} {l r : RT} (hF : F ≠ []) (hn : l.NRR ∧ r.NRR) (hl : l.isRed = true) (hr : r.isRed = true) :
    HdOK key (⟨b, some i, true, wayOf key i, (flipT b i l r).kid (!wayOf key i)⟩ :: F) ((flipT b i l r).kid (wayOf key i)) 0 := by
  intro f' G' e
  obtain ⟨rfl, rfl⟩ := List.cons.inj e
  cases wayOf key i
  · exact ⟨fun _ => black_not r, fun _ => .inl (black_safe hn.1 hl)⟩
  · exact ⟨fun _ => black_not l, fun _ => .inl (black_safe hn.2 hr)⟩
/-- A step down behind one turn. -/
theorem down_single {key : Int} {f : Fr} {hh : Fr} {H : List Fr} {b : Nat} {i : Iv} {l r : RT} (hn : l.NRR ∧ r.NRR) (hl : l.isRed = true) (hr : r.isRed = true) :
    HdOK key (⟨b, some i, true, wayOf key i, (flipT b i l r).kid (!wayOf key i)⟩ :: f :: hh :: H) ((flipT b i l r).kid (wayOf key i)) 1 := by
  refine ⟨⟨_, _, _, _, rfl⟩, ?_⟩
  cases wayOf key i
  · exact black_safe hn.1 hl
  · exact black_safe hn.2 hr
/-- A step down behind two turns. -/
theorem down_double {d : Nat} {key : Int} {pb gb qb : Nat} {pi gi qi : Iv} {dd : Bool} {ps gs l r : RT} {hh : Fr} {H : List Fr}
    (h : CoreX d key (⟨pb, some pi, true, !dd, ps⟩ :: ⟨gb, some gi, false, dd, gs⟩ :: hh :: H) (flipT qb qi l r)) (hps : ps.isRed = false) (hgs : gs.isRed = false)
    (hn : l.NRR ∧ r.NRR) (hl : l.isRed = true) (hr : r.isRed = true) :
    HdOK key (⟨qb, some qi, false, wayOf key qi, (dblT pb gb qb pi gi qi dd ps gs l.black r.black).kid (!wayOf key qi)⟩ :: hh :: H) ((dblT pb gb qb pi gi qi dd ps gs l.black r.black).kid (wayOf key qi)) 2 := by
  refine ⟨⟨_, hh, H, rfl, rfl⟩, ?_⟩
  have hlo := h.lo
  have hhi := h.hi
  cases dd
  · have h1 : pi.k < key := hlo pi (by simp [cL])
    have h2 : key < gi.k := hhi gi (by simp [cR])
    cases wayOf key qi
    · exact ⟨_, _, _, _, rfl, hps, black_not l, fun e => by omega, fun _ => black_safe hn.1 hl⟩
    · exact ⟨_, _, _, _, rfl, black_not r, hgs, fun _ => black_safe hn.2 hr, fun e => by omega⟩
  · have h1 : key < pi.k := hhi pi (by simp [cR])
    have h2 : gi.k < key := hlo gi (by simp [cL])
    cases wayOf key qi
    · exact ⟨_, _, _, _, rfl, hgs, black_not l, fun e => by omega, fun _ => black_safe hn.1 hl⟩
    · exact ⟨_, _, _, _, rfl, black_not r, hps, fun _ => black_safe hn.2 hr, fun e => by omega⟩

/-- What the way still has before it. -/
def left (key : Int) (t : RT) (ph : Nat) : Nat :=
  if ph = 2 then match t with
    | .nil => 0
    | .node _ i _ l r => 2 * ((RT.node 0 i false l r).kid (wayOf key i)).size + 2
  else 2 * t.size + 1
theorem kid_size (b : Nat) (i : Iv) (c w : Bool) (l r : RT) : ((RT.node b i c l r).kid w).size < (RT.node b i c l r).size := by
  cases w <;> simp [RT.kid, RT.size] <;> omega
theorem black_size (t : RT) : t.black.size = t.size := by cases t <;> rfl
theorem left_plain {key : Int} {b : Nat} {i : Iv} {c : Bool} {l r : RT} {ph : Nat} (h : ph ≤ 2) : left key ((RT.node b i c l r).kid (wayOf key i)) (if ph = 2 then 1 else 0) < left key (.node b i c l r) ph := by
  have := kid_size b i c (wayOf key i) l r
  by_cases e : ph = 2
  · subst e
    have h2 : ∀ x, left key x 1 = 2 * x.size + 1 := fun _ => rfl
    have h3 : left key (.node b i c l r) 2 = 2 * ((RT.node b i c l r).kid (wayOf key i)).size + 2 := rfl
    rw [if_pos rfl, h2, h3]; omega
  · have h2 : ∀ x, left key x 0 = 2 * x.size + 1 := fun _ => rfl
    have h3 : ∀ x, left key x ph = 2 * x.size + 1 := fun _ => if_neg e
    rw [if_neg e, h2, h3]; omega
theorem left_flip {key : Int} {b : Nat} {i : Iv} {c : Bool} {l r : RT} (ph : Nat) (h : ph ≤ 1) : left key ((flipT b i l r).kid (wayOf key i)) ph < left key (.node b i c l r) 0 := by
  have h2 : ∀ x, left key x ph = 2 * x.size + 1 := fun _ => if_neg (by omega)
  have h3 : ∀ x, left key x 0 = 2 * x.size + 1 := fun _ => rfl
  rw [h2, h3]
  have := kid_size b i c (wayOf key i) l r
  have h4 : ((flipT b i l r).kid (wayOf key i)).size = ((RT.node b i c l r).kid (wayOf key i)).size := by
    cases wayOf key i <;> simp [flipT, RT.kid, black_size]
  omega
theorem left_double {d : Nat} {key : Int} {pb gb qb : Nat} {pi gi qi : Iv} {c dd : Bool} {ps gs l r : RT} {hh : Fr} {H : List Fr}
    (h : CoreX d key (⟨pb, some pi, true, !dd, ps⟩ :: ⟨gb, some gi, false, dd, gs⟩ :: hh :: H) (flipT qb qi l r)) :
    left key ((dblT pb gb qb pi gi qi dd ps gs l.black r.black).kid (wayOf key qi)) 2 < left key (.node qb qi c l r) 0 := by
  have hlo := h.lo
  have hhi := h.hi
  have h3 : left key (.node qb qi c l r) 0 = 2 * (l.size + r.size + 1) + 1 := rfl
  rw [h3]
  cases dd
  · have h1 : wayOf key pi = true := by have : pi.k < key := hlo pi (by simp [cL]); simp [wayOf, this]
    have h2 : wayOf key gi = false := by have : key < gi.k := hhi gi (by simp [cR]); simp [wayOf]; omega
    cases wayOf key qi
    · show 2 * ((RT.node 0 pi false ps l.black).kid (wayOf key pi)).size + 2 < _
      rw [h1]; show 2 * l.black.size + 2 < _; rw [black_size]; omega
    · show 2 * ((RT.node 0 gi false r.black gs).kid (wayOf key gi)).size + 2 < _
      rw [h2]; show 2 * r.black.size + 2 < _; rw [black_size]; omega
  · have h1 : wayOf key pi = false := by have : key < pi.k := hhi pi (by simp [cR]); simp [wayOf]; omega
    have h2 : wayOf key gi = true := by have : gi.k < key := hlo gi (by simp [cL]); simp [wayOf, this]
    cases wayOf key qi
    · show 2 * ((RT.node 0 gi false gs l.black).kid (wayOf key gi)).size + 2 < _
      rw [h2]; show 2 * l.black.size + 2 < _; rw [black_size]; omega
    · show 2 * ((RT.node 0 pi false r.black ps).kid (wayOf key pi)).size + 2 < _
      rw [h1]; show 2 * r.black.size + 2 < _; rw [black_size]; omega

/-- The tree, the place closed. -/
def plugT (f : Fr) (t : RT) : RT := match f.iv with
  | none => t
  | some i => mk f.b i f.red f.dir f.sib t
def zipUp : List Fr → RT → RT
  | [], t => t
  | f :: F, t => zipUp F (plugT f t)
theorem zip_ivs {d : Nat} : ∀ {F : List Fr} {t : RT}, Dum d F → (zipUp F t).ivs = whole F t
  | [f], t, h => by
    obtain rfl := h.one
    simp [zipUp, plugT, whole, cL, cR, RT.ivs]
  | f :: g :: F, t, h => by
    obtain ⟨b, i, c, w, s⟩ := f
    obtain ⟨i, rfl⟩ := Option.isSome_iff_exists.1 h.some
    rw [zipUp, zip_ivs h.tail]
    cases w <;> simp [plugT, mk, whole, cL, cR, RT.ivs]
theorem zip_nrr {d : Nat} : ∀ {F : List Fr} {t : RT}, Dum d F → t.NRR → cNRR F t.isRed → (zipUp F t).NRR
  | [f], t, h, ht, _ => by
    obtain rfl := h.one
    exact ht
  | f :: g :: F, t, h, ht, hc => by
    obtain ⟨b, i, c, w, s⟩ := f
    obtain ⟨i, rfl⟩ := Option.isSome_iff_exists.1 h.some
    rw [zipUp]
    refine zip_nrr h.tail ?_ ?_
    · cases w
      · exact ⟨fun e => hc.1 e, ht, hc.2.1⟩
      · exact ⟨fun e => ⟨(hc.1 e).2, (hc.1 e).1⟩, hc.2.1, ht⟩
    · cases w <;> exact hc.2.2
theorem zip_recs {d : Nat} : ∀ {F : List Fr} {t : RT}, Dum d F → (cRecs F t.root ++ t.recs).Perm ((d, ⟨none, none, (zipUp F t).root, false⟩) :: (zipUp F t).recs)
  | [f], t, h => by
    obtain rfl := h.one
    simp only [cRecs, Fr.sh, cond_true, RT.recs, List.nil_append, RT.root, List.cons_append, zipUp, plugT]
    exact List.Perm.refl _
  | f :: g :: F, t, h => by
    obtain ⟨b, i, c, w, s⟩ := f
    obtain ⟨i, rfl⟩ := Option.isSome_iff_exists.1 h.some
    rw [zipUp]
    refine List.Perm.trans ?_ (zip_recs h.tail)
    refine perm_of fun D a => ?_
    cases w <;>
    · simp only [cRecs, plugT, mk, cond_true, cond_false, RT.recs, Fr.sh, RT.root, List.count_append, List.count_cons, List.cons_append]
      omega
end Go.Proofs.YtegejfhomocloaaGreat

namespace Go.Proofs.YtegejfhomocloaaGreat
open Go.RowKit

def ivV (i : Iv) : Value := .iface 132 (.agg #[.slice (some ⟨i.la, 0, none⟩) 1 1, .slice (some ⟨i.ha, 0, none⟩) 1 1, .int .u64 (i.id : Int)])
def ivO : Option Iv → Value
  | none => .nilIface
  | some i => ivV i
def idO : Option Iv → Int
  | none => 0
  | some i => i.id
def ptrO (p : Option Nat) : Value := .pointer (p.map fun b => ⟨b, 0, none⟩)
def Sh.cells (s : Sh) (mx mn : Int) : Array Value := #[ivO s.iv, .int .i64 mx, .int .i64 mn, ptrO s.c0, ptrO s.c1, .bool s.red, .int .u64 (idO s.iv)]

def IvAt (w : World) (i : Iv) : Prop := w.cell? ⟨i.la, 0, none⟩ = some (.int .i64 i.k) ∧ w.cell? ⟨i.ha, 0, none⟩ = some (.int .i64 i.k)
def InR (m : Int) : Prop := 0 ≤ m ∧ m ≤ 65535
def IvOK (B : Nat) (w : World) (i : Iv) : Prop := IvAt w i ∧ InR i.k ∧ i.la < B ∧ i.ha < B
def IvsOK (B : Nat) (w : World) : Option Iv → Prop
  | none => True
  | some i => IvOK B w i

/-- A node in memory, its interval below B, itself from B on. -/
def NodeAt (B : Nat) (w : World) (b : Nat) (s : Sh) : Prop :=
  (∃ mx mn, w.heap[b]? = some (.cells (s.cells mx mn) 166 (0, 0)) ∧ InR mx ∧ InR mn) ∧ IvsOK B w s.iv ∧ B ≤ b
/-- The nodes of which S speaks lie in memory so. -/
def HeapOK (B : Nat) (w : World) (S : Nat → Option Sh) : Prop := ∀ b s, S b = some s → NodeAt B w b s

theorem IvOK.keeps {B : Nat} {w w' : World} {F : Nat → Prop} {i : Iv} (h : IvOK B w i) (k : Keeps F w w') (hB : ∀ x, x < B → ¬ F x) : IvOK B w' i :=
  ⟨⟨k.cell h.1.1 (hB _ h.2.2.1), k.cell h.1.2 (hB _ h.2.2.2)⟩, h.2⟩
theorem IvsOK.keeps {B : Nat} {w w' : World} {F : Nat → Prop} {i : Option Iv} (h : IvsOK B w i) (k : Keeps F w w') (hB : ∀ x, x < B → ¬ F x) : IvsOK B w' i := by
  cases i with
  | none => trivial
  | some i => exact IvOK.keeps h k hB
theorem HeapOK.keeps {B : Nat} {w w' : World} {S : Nat → Option Sh} {F : Nat → Prop} (h : HeapOK B w S) (k : Keeps F w w') (hF : ∀ b s, S b = some s → ¬ F b) (hB : ∀ x, x < B → ¬ F x) : HeapOK B w' S := fun b s hb => by
  obtain ⟨⟨mx, mn, h1, h2, h3⟩, h4, h5⟩ := h b s hb
  exact ⟨⟨mx, mn, k.heap h1 (hF b s hb), h2, h3⟩, h4.keeps k hB, h5⟩
theorem HeapOK.new {B : Nat} {w w' : World} {S : Nat → Option Sh} (h : HeapOK B w S) (k : Keeps (fun _ => False) w w') : HeapOK B w' S := h.keeps k (fun _ _ _ f => f) (fun _ _ f => f)
theorem HeapOK.lt {B : Nat} {w : World} {S : Nat → Option Sh} (h : HeapOK B w S) {b : Nat} {s : Sh} (hb : S b = some s) : b < w.heap.size := by
  obtain ⟨⟨mx, mn, h1, -⟩, -⟩ := h b s hb
  exact lt_of_block h1
/-- One node turned, its ranges too. -/
theorem HeapOK.turn {B : Nat} {w w' : World} {S : Nat → Option Sh} (h : HeapOK B w S) {b : Nat} {s s' : Sh} (k : Keeps (fun x => x = b) w w') (hb : S b = some s) (hiv : s'.iv = s.iv) {mx mn : Int} (hx : InR mx) (hn : InR mn)
    (hc : w'.heap[b]? = some (.cells (s'.cells mx mn) 166 (0, 0))) : HeapOK B w' (upd S b s') := by
  have h0 := h b s hb
  have hBb : B ≤ b := h0.2.2
  have hB : ∀ x, x < B → ¬ x = b := fun x hx e => by omega
  intro x sx hxx
  by_cases e : x = b
  · subst e
    rw [upd_same] at hxx
    obtain rfl := Option.some.inj hxx
    exact ⟨⟨mx, mn, hc, hx, hn⟩, by rw [hiv]; exact h0.2.1.keeps k hB, hBb⟩
  · rw [upd_other S s' e] at hxx
    obtain ⟨⟨mx, mn, h1, h2, h3⟩, h4, h5⟩ := h x sx hxx
    exact ⟨⟨mx, mn, k.heap h1 e, h2, h3⟩, h4.keeps k hB, h5⟩
theorem upd_self {S : Nat → Option Sh} {b : Nat} {s : Sh} (h : S b = some s) : upd S b s = S := by
  funext x
  by_cases e : x = b
  · subst e; rw [upd_same, h]
  · rw [upd_other S s e]
theorem upd_upd (S : Nat → Option Sh) (b : Nat) (s s' : Sh) : upd (upd S b s) b s' = upd S b s' := by
  funext x
  by_cases e : x = b
  · subst e; rw [upd_same, upd_same]
  · rw [upd_other _ _ e, upd_other _ _ e, upd_other _ _ e]
theorem upd_swap (S : Nat → Option Sh) {a b : Nat} (h : a ≠ b) (s s' : Sh) : upd (upd S a s) b s' = upd (upd S b s') a s := by
  funext x
  by_cases e : x = a
  · subst e; rw [upd_same, upd_other _ _ h, upd_same]
  · by_cases e' : x = b
    · subst e'; rw [upd_same, upd_other _ _ e, upd_same]
    · rw [upd_other _ _ e', upd_other _ _ e, upd_other _ _ e, upd_other _ _ e']
/-- One node's ranges turned, nothing else. -/
theorem HeapOK.range {B : Nat} {w w' : World} {S : Nat → Option Sh} (h : HeapOK B w S) {b : Nat} {s : Sh} (k : Keeps (fun x => x = b) w w') (hb : S b = some s) {mx mn : Int} (hx : InR mx) (hn : InR mn)
    (hc : w'.heap[b]? = some (.cells (s.cells mx mn) 166 (0, 0))) : HeapOK B w' S := by
  have := h.turn k hb rfl hx hn hc
  rw [upd_self hb] at this
  exact this
/-- A new node. -/
theorem HeapOK.born {B : Nat} {w w' : World} {S : Nat → Option Sh} (h : HeapOK B w S) {b : Nat} {s : Sh} (k : Keeps (fun _ => False) w w') (hb : w.heap.size ≤ b) (hB : B ≤ w.heap.size) {mx mn : Int} (hx : InR mx) (hn : InR mn)
    (hc : w'.heap[b]? = some (.cells (s.cells mx mn) 166 (0, 0))) (hi : IvsOK B w s.iv) : HeapOK B w' (upd S b s) := by
  intro x sx hxx
  by_cases e : x = b
  · subst e
    rw [upd_same] at hxx
    obtain rfl := Option.some.inj hxx
    exact ⟨⟨mx, mn, hc, hx, hn⟩, hi.keeps k (fun _ _ f => f), by omega⟩
  · rw [upd_other S s e] at hxx
    exact (h.new k) x sx hxx

/-- What a pointer at a node tells. -/
def redAt (S : Nat → Option Sh) : Option Nat → Bool
  | none => false
  | some b => ((S b).map (·.red)).getD false
def There (S : Nat → Option Sh) (p : Option Nat) : Prop := ∀ b, p = some b → ∃ s, S b = some s
theorem There.upd {S : Nat → Option Sh} {p : Option Nat} (h : There S p) (b : Nat) (s : Sh) : There (upd S b s) p := fun x hx => by
  by_cases e : x = b
  · subst e; exact ⟨s, upd_same _ _ _⟩
  · rw [upd_other _ _ e]; exact h x hx

theorem root_has {S : Nat → Option Sh} {t : RT} (h : ∀ x ∈ t.recs, S x.1 = some x.2) : There S t.root ∧ redAt S t.root = t.isRed := by
  cases t with
  | nil => exact ⟨fun b hb => (by cases hb), rfl⟩
  | node b i c l r =>
    have := h _ (List.mem_cons_self)
    refine ⟨fun b' hb => ?_, ?_⟩
    · obtain rfl := Option.some.inj hb
      exact ⟨_, this⟩
    · show ((S b).map (·.red)).getD false = c
      rw [this]; rfl
end Go.Proofs.YtegejfhomocloaaGreat

namespace Go.Proofs.YtegejfhomocloaaGreat

theorem Has.drop {S : Nat → Option Sh} {x : Nat × Sh} {R : List (Nat × Sh)} (h : Has S (x :: R)) : Has S R := Has.tail (R := [x]) h
theorem Has.at' {S : Nat → Option Sh} {b : Nat} {s : Sh} {R : List (Nat × Sh)} (h : Has S ((b, s) :: R)) : S b = some s := h.2 _ (List.mem_cons_self)
theorem root_mem {t : RT} {b : Nat} (h : t.root = some b) : ∃ s, (b, s) ∈ t.recs := by
  cases t with
  | nil => cases h
  | node b' i c l r => obtain rfl := Option.some.inj h; exact ⟨_, List.mem_cons_self⟩
theorem root_there {S : Nat → Option Sh} {R : List (Nat × Sh)} {t : RT} (h : Has S R) (ht : ∀ x ∈ t.recs, x ∈ R) : There S t.root := fun b hb => by
  obtain ⟨s, hs⟩ := root_mem hb
  exact ⟨s, h.2 _ (ht _ hs)⟩
theorem root_apart {S : Nat → Option Sh} {R : List (Nat × Sh)} {x : Nat × Sh} {t : RT} (h : Has S (x :: R)) (ht : ∀ y ∈ t.recs, y ∈ R) : t.root ≠ some x.1 := fun e => by
  obtain ⟨s, hs⟩ := root_mem e
  exact h.ne (ht _ hs) rfl

/-- The parent's pointer, as the loop has it: nil at the dummy. -/
def pO : List Fr → Option Nat
  | f :: _ :: _ => some f.b
  | _ => none
def hO (d : Nat) : List Fr → Nat
  | _ :: _ :: h :: _ => h.b
  | _ => d

/-- What holds at a round's head, the memory aside. -/
structure PInv (d : Nat) (key : Int) (L : List Iv) (F : List Fr) (t : RT) (ph : Nat) (S : Nat → Option Sh) (dd ll : Bool) (gp : Option Nat) (hp : Nat) : Prop where
  core : Core d key F t
  hd : HdOK key F t ph
  top : ∀ f, F = [f] → t ≠ .nil ∧ t.isRed = false
  all : whole F t = L
  has : Has S (cRecs F t.root ++ t.recs)
  phle : ph ≤ 2
  dir : ∀ f g G, F = f :: g :: G → dd = f.dir
  last : ph = 0 → ∀ f g h G, F = f :: g :: h :: G → ll = g.dir
  gpr : ph ≤ 1 → gp = pO F.tail
  hpr : ph = 0 → hp = hO d F

theorem pO_cons {d : Nat} {F : List Fr} (h : Dum d F) (f : Fr) : pO (f :: F) = some f.b := by
  cases F with
  | nil => exact h.elim
  | cons g G => rfl
theorem hO_next {d : Nat} {F : List Fr} (h : Dum d F) (f : Fr) : (pO F.tail).getD (hO d F) = hO d (f :: F) := by
  match F, h with
  | [f0], h => obtain rfl := h.one; rfl
  | [f0, f1], h => obtain rfl := h.tail.one; rfl
  | f0 :: f1 :: f2 :: G, h => rfl

theorem Has.down {S : Nat → Option Sh} {F : List Fr} {b : Nat} {i : Iv} {c : Bool} {l r : RT} (h : Has S (cRecs F (some b) ++ (RT.node b i c l r).recs)) (w : Bool) :
    Has S (cRecs (⟨b, some i, c, w, (RT.node b i c l r).kid (!w)⟩ :: F) ((RT.node b i c l r).kid w).root ++ ((RT.node b i c l r).kid w).recs) := h.perm (down_recs b i c w l r F)

/-- A step down where nothing was turned. -/
theorem step_plain {d : Nat} {key : Int} {L : List Iv} {F : List Fr} {b : Nat} {i : Iv} {c : Bool} {l r : RT} {ph : Nat} {S : Nat → Option Sh} {dd ll : Bool} {gp : Option Nat} {hp : Nat}
    (P : PInv d key L F (.node b i c l r) ph S dd ll gp hp) (hk : i.k ≠ key) (hlr : ¬ (l.isRed = true ∧ r.isRed = true)) :
    PInv d key L (⟨b, some i, c, wayOf key i, (RT.node b i c l r).kid (!wayOf key i)⟩ :: F) ((RT.node b i c l r).kid (wayOf key i)) (if ph = 2 then 1 else 0) S (wayOf key i) dd (pO F) (gp.getD hp) ∧
      left key ((RT.node b i c l r).kid (wayOf key i)) (if ph = 2 then 1 else 0) < left key (.node b i c l r) ph := by
  refine ⟨⟨down_core P.core hk, down_plain P.core P.hd (fun _ f e => (P.top f e).2) hk hlr, ?_, by rw [down_whole]; exact P.all, P.has.down _, by split <;> omega, ?_, ?_, ?_, ?_⟩, left_plain P.phle⟩
  · intro f e
    obtain ⟨-, e2⟩ := List.cons.inj e
    exact absurd e2 P.core.dum.ne
  · intro f g G e
    obtain ⟨rfl, -⟩ := List.cons.inj e
    rfl
  · intro _ f g h G e
    obtain ⟨-, e2⟩ := List.cons.inj e
    exact P.dir g h G e2
  · intro _
    rfl
  · intro h0
    have hph : ph ≠ 2 := fun e => by rw [if_pos e] at h0; omega
    by_cases h1 : ph = 0
    · rw [P.gpr (by omega), P.hpr h1]
      exact hO_next P.core.dum _
    · have : ph = 1 := by have := P.phle; omega
      subst this
      rw [P.gpr (by omega)]
      obtain ⟨⟨f, g, hh, H, rfl⟩, -⟩ := P.hd
      rfl

/-- The dyeing, in the map. -/
def flipS (S : Nat → Option Sh) (b : Nat) (i : Iv) (l r : RT) (lb rb : Nat) (sl sr : Sh) : Nat → Option Sh := upd (upd (upd S b ⟨some i, l.root, r.root, true⟩) lb (sl.dye false)) rb (sr.dye false)
theorem flip_recs (F : List Fr) (b : Nat) (i : Iv) (c : Bool) (lb : Nat) (li : Iv) (lc : Bool) (ll lr : RT) (rb : Nat) (ri : Iv) (rc : Bool) (rl rr : RT) :
    (cRecs F (some b) ++ (RT.node b i c (.node lb li lc ll lr) (.node rb ri rc rl rr)).recs).Perm
      ((b, ⟨some i, some lb, some rb, c⟩) :: (lb, ⟨some li, ll.root, lr.root, lc⟩) :: (rb, ⟨some ri, rl.root, rr.root, rc⟩) :: (ll.recs ++ (lr.recs ++ (rl.recs ++ (rr.recs ++ cRecs F (some b)))))) := by
  refine perm_of fun D a => ?_
  simp only [RT.recs, RT.root, List.count_append, List.count_cons, List.cons_append]
  omega
/-- What is known of three nodes, the two children red. -/
theorem flip_has {S : Nat → Option Sh} {F : List Fr} {b : Nat} {i : Iv} {c : Bool} {lb : Nat} {li : Iv} {lc : Bool} {ll lr : RT} {rb : Nat} {ri : Iv} {rc : Bool} {rl rr : RT}
    (h : Has S (cRecs F (some b) ++ (RT.node b i c (.node lb li lc ll lr) (.node rb ri rc rl rr)).recs)) :
    S b = some ⟨some i, some lb, some rb, c⟩ ∧ S lb = some ⟨some li, ll.root, lr.root, lc⟩ ∧ S rb = some ⟨some ri, rl.root, rr.root, rc⟩ ∧ b ≠ lb ∧ b ≠ rb ∧ lb ≠ rb ∧
    Has (upd (upd (upd S b ⟨some i, some lb, some rb, true⟩) lb ⟨some li, ll.root, lr.root, false⟩) rb ⟨some ri, rl.root, rr.root, false⟩) (cRecs F (some b) ++ (flipT b i (.node lb li lc ll lr) (.node rb ri rc rl rr)).recs) := by
  have h1 := h.perm (flip_recs F b i c lb li lc ll lr rb ri rc rl rr)
  have h2 := h1.drop
  refine ⟨h1.at', h2.at', h2.drop.at', h1.ne (List.mem_cons_self), h1.ne (List.mem_cons_of_mem _ List.mem_cons_self), h2.ne List.mem_cons_self, ?_⟩
  refine Has.perm ?_ (flip_recs F b i true lb li false ll lr rb ri false rl rr).symm
  have q1 := (h1.upd ⟨some i, some lb, some rb, true⟩).perm (List.Perm.swap _ _ _)
  have q2 := (q1.upd ⟨some li, ll.root, lr.root, false⟩).perm (List.Perm.trans (List.Perm.cons _ (List.Perm.swap _ _ _)) (List.Perm.swap _ _ _))
  have q3 := q2.upd ⟨some ri, rl.root, rr.root, false⟩
  exact q3.perm ((List.Perm.swap _ _ _).trans ((List.Perm.cons _ (List.Perm.swap _ _ _)).trans ((List.Perm.swap _ _ _).trans (List.Perm.refl _))))

/-- What holds behind the first part of a round: the place, red now or as it was. -/
structure PMid (d : Nat) (key : Int) (F : List Fr) (b : Nat) (i : Iv) (c : Bool) (l r : RT) (S : Nat → Option Sh) : Prop where
  core : CoreX d key F (.node b i c l r)
  has : Has S (cRecs F (some b) ++ (RT.node b i c l r).recs)

theorem step_flip {d : Nat} {key : Int} {L : List Iv} {f0 : Fr} {F : List Fr} {b : Nat} {i : Iv} {c : Bool} {l r : RT} {ph : Nat} {S S1 : Nat → Option Sh} {dd ll : Bool} {gp : Option Nat} {hp : Nat}
    (P : PInv d key L (f0 :: F) (.node b i c l r) ph S dd ll gp hp) (hk : i.k ≠ key) (hl : l.isRed = true) (hr : r.isRed = true) (hf : f0.red = false)
    (h1 : Has S1 (cRecs (f0 :: F) (some b) ++ (flipT b i l r).recs)) :
    PInv d key L (⟨b, some i, true, wayOf key i, (flipT b i l r).kid (!wayOf key i)⟩ :: f0 :: F) ((flipT b i l r).kid (wayOf key i)) 0 S1 (wayOf key i) dd (pO (f0 :: F)) (gp.getD hp) ∧
      left key ((flipT b i l r).kid (wayOf key i)) 0 < left key (.node b i c l r) ph := by
  obtain ⟨rfl, rfl, hs⟩ := flip_phase P.core.nt P.hd hl hr
  have C1 := (flip_core P.core).core (.inl hf)
  have hw : whole (f0 :: F) (flipT b i l r) = L := by rw [← P.all]; simp [whole, flipT, RT.ivs, black_ivs]
  refine ⟨⟨down_core C1 hk, down_flip P.core.dum.ne P.core.nt.2 hl hr, ?_, by rw [← hw]; exact down_whole b i true _ l.black r.black (f0 :: F), h1.down _, by omega, ?_, ?_, ?_, ?_⟩, left_flip 0 (by omega)⟩
  · intro f e
    obtain ⟨-, e2⟩ := List.cons.inj e
    cases e2
  · intro f g G e
    obtain ⟨rfl, -⟩ := List.cons.inj e
    rfl
  · intro _ f g h G e
    obtain ⟨-, e2⟩ := List.cons.inj e
    exact P.dir g h G e2
  · intro _
    rfl
  · intro _
    rw [P.gpr (by omega), P.hpr rfl]
    exact hO_next P.core.dum _

theorem step_single {d : Nat} {key : Int} {L : List Iv} {pb gb : Nat} {pi gi : Iv} {w : Bool} {ps gs : RT} {hh : Fr} {H : List Fr} {b : Nat} {i : Iv} {c : Bool} {l r : RT} {ph : Nat} {S S2 : Nat → Option Sh} {dd ll : Bool} {gp : Option Nat} {hp : Nat}
    (P : PInv d key L (⟨pb, some pi, true, w, ps⟩ :: ⟨gb, some gi, false, w, gs⟩ :: hh :: H) (.node b i c l r) ph S dd ll gp hp) (hk : i.k ≠ key) (hl : l.isRed = true) (hr : r.isRed = true) (hps : ps.isRed = false) (hgs : gs.isRed = false)
    (h2 : Has S2 (cRecs (⟨pb, some pi, false, w, mk gb gi true w gs ps⟩ :: hh :: H) (some b) ++ (flipT b i l r).recs)) (hp' : Nat) :
    PInv d key L (⟨b, some i, true, wayOf key i, (flipT b i l r).kid (!wayOf key i)⟩ :: ⟨pb, some pi, false, w, mk gb gi true w gs ps⟩ :: hh :: H) ((flipT b i l r).kid (wayOf key i)) 1 S2 (wayOf key i) dd (some pb) hp' ∧
      left key ((flipT b i l r).kid (wayOf key i)) 1 < left key (.node b i c l r) ph := by
  obtain ⟨rfl, rfl, hs⟩ := flip_phase P.core.nt P.hd hl hr
  have C1 := single_core (flip_core P.core) hps hgs
  have hw : whole (⟨pb, some pi, true, w, ps⟩ :: ⟨gb, some gi, false, w, gs⟩ :: hh :: H) (flipT b i l r) = L := by rw [← P.all]; simp [whole, flipT, RT.ivs, black_ivs]
  refine ⟨⟨down_core C1 hk, down_single P.core.nt.2 hl hr, ?_, by rw [← hw, ← single_whole]; exact down_whole b i true _ l.black r.black _, h2.down _, by omega, ?_, fun e => by omega, ?_, fun e => by omega⟩, left_flip 1 (by omega)⟩
  · intro f e
    obtain ⟨-, e2⟩ := List.cons.inj e
    cases e2
  · intro f g G e
    obtain ⟨rfl, -⟩ := List.cons.inj e
    rfl
  · intro _
    rfl

theorem step_double {d : Nat} {key : Int} {L : List Iv} {pb gb : Nat} {pi gi : Iv} {w : Bool} {ps gs : RT} {hh : Fr} {H : List Fr} {b : Nat} {i : Iv} {c : Bool} {l r : RT} {ph : Nat} {S S2 : Nat → Option Sh} {dd ll : Bool} {gp : Option Nat} {hp : Nat}
    (P : PInv d key L (⟨pb, some pi, true, !w, ps⟩ :: ⟨gb, some gi, false, w, gs⟩ :: hh :: H) (.node b i c l r) ph S dd ll gp hp) (hk : i.k ≠ key) (hl : l.isRed = true) (hr : r.isRed = true) (hps : ps.isRed = false) (hgs : gs.isRed = false)
    (h2 : Has S2 (cRecs (hh :: H) (some b) ++ (dblT pb gb b pi gi i w ps gs l.black r.black).recs)) (gp' : Option Nat) (hp' : Nat) :
    PInv d key L (⟨b, some i, false, wayOf key i, (dblT pb gb b pi gi i w ps gs l.black r.black).kid (!wayOf key i)⟩ :: hh :: H) ((dblT pb gb b pi gi i w ps gs l.black r.black).kid (wayOf key i)) 2 S2 (wayOf key i) dd gp' hp' ∧
      left key ((dblT pb gb b pi gi i w ps gs l.black r.black).kid (wayOf key i)) 2 < left key (.node b i c l r) ph := by
  obtain ⟨rfl, rfl, hs⟩ := flip_phase P.core.nt P.hd hl hr
  have C0 := flip_core P.core
  have C1 := double_core C0 hps hgs
  have hw : whole (⟨pb, some pi, true, !w, ps⟩ :: ⟨gb, some gi, false, w, gs⟩ :: hh :: H) (flipT b i l r) = L := by rw [← P.all]; simp [whole, flipT, RT.ivs, black_ivs]
  have hw2 : whole (hh :: H) (dblT pb gb b pi gi i w ps gs l.black r.black) = L := by rw [double_whole (c := true)]; exact hw
  refine ⟨⟨?_, down_double C0 hps hgs P.core.nt.2 hl hr, ?_, ?_, ?_, by omega, ?_, fun e => by omega, fun e => by omega, fun e => by omega⟩, left_double C0⟩
  · cases w <;> exact down_core C1 hk
  · intro f e
    obtain ⟨-, e2⟩ := List.cons.inj e
    cases e2
  · rw [← hw2]
    cases w <;> exact down_whole b i false _ _ _ _
  · cases w <;> exact Has.down h2 _
  · intro f g G e
    obtain ⟨rfl, -⟩ := List.cons.inj e
    rfl

/-- The end of an insertion: the tree closed, the dummy above it. -/
def Fin (d : Nat) (iv : Iv) (L : List Iv) (S : Nat → Option Sh) : Prop :=
  ∃ T : RT, T ≠ .nil ∧ T.NRR ∧ T.ivs.Pairwise (fun x y => x.k < y.k) ∧ T.ivs.Perm (iv :: L) ∧ Has S ((d, ⟨none, none, T.root, false⟩) :: T.recs)
theorem fin_of {d : Nat} {key : Int} {iv : Iv} {L : List Iv} {F : List Fr} {t : RT} {S : Nat → Option Sh} (C : Core d key F t) (hw : (whole F t).Perm (iv :: L)) (h : Has S (cRecs F t.root ++ t.recs)) : Fin d iv L S := by
  refine ⟨zipUp F t, fun e => ?_, zip_nrr C.dum C.nt C.nc, by rw [zip_ivs C.dum]; exact C.asc, by rw [zip_ivs C.dum]; exact hw, h.perm (zip_recs C.dum)⟩
  have h1 : (zipUp F t).ivs.Perm (iv :: L) := by rw [zip_ivs C.dum]; exact hw
  rw [e] at h1
  have := h1.length_eq
  simp [RT.ivs] at this
theorem whole_new (F : List Fr) (b : Nat) (iv : Iv) : (whole F (.node b iv true .nil .nil)).Perm (iv :: whole F .nil) := by
  simp only [whole, RT.ivs, List.nil_append]
  exact List.perm_middle

theorem fin_plain {d : Nat} {L : List Iv} {f0 : Fr} {F : List Fr} {ph : Nat} {S S1 : Nat → Option Sh} {dd ll : Bool} {gp : Option Nat} {hp : Nat} {iv : Iv} {nb : Nat}
    (P : PInv d iv.k L (f0 :: F) .nil ph S dd ll gp hp) (hf : f0.red = false) (h1 : Has S1 (cRecs (f0 :: F) (some nb) ++ (RT.node nb iv true .nil .nil).recs)) : Fin d iv L S1 :=
  fin_of ((new_core P.core nb iv rfl).core (.inl hf)) (by rw [← P.all]; exact whole_new _ _ _) h1
theorem fin_single {d : Nat} {L : List Iv} {pb gb : Nat} {pi gi : Iv} {w : Bool} {ps gs : RT} {hh : Fr} {H : List Fr} {ph : Nat} {S S2 : Nat → Option Sh} {dd ll : Bool} {gp : Option Nat} {hp : Nat} {iv : Iv} {nb : Nat}
    (P : PInv d iv.k L (⟨pb, some pi, true, w, ps⟩ :: ⟨gb, some gi, false, w, gs⟩ :: hh :: H) .nil ph S dd ll gp hp) (hps : ps.isRed = false) (hgs : gs.isRed = false)
    (h2 : Has S2 (cRecs (⟨pb, some pi, false, w, mk gb gi true w gs ps⟩ :: hh :: H) (some nb) ++ (RT.node nb iv true .nil .nil).recs)) : Fin d iv L S2 :=
  fin_of (single_core (new_core P.core nb iv rfl) hps hgs) (by rw [single_whole, ← P.all]; exact whole_new _ _ _) h2
theorem fin_double {d : Nat} {L : List Iv} {pb gb : Nat} {pi gi : Iv} {w : Bool} {ps gs : RT} {hh : Fr} {H : List Fr} {ph : Nat} {S S2 : Nat → Option Sh} {dd ll : Bool} {gp : Option Nat} {hp : Nat} {iv : Iv} {nb : Nat}
    (P : PInv d iv.k L (⟨pb, some pi, true, !w, ps⟩ :: ⟨gb, some gi, false, w, gs⟩ :: hh :: H) .nil ph S dd ll gp hp) (hps : ps.isRed = false) (hgs : gs.isRed = false)
    (h2 : Has S2 (cRecs (hh :: H) (some nb) ++ (dblT pb gb nb pi gi iv w ps gs .nil .nil).recs)) : Fin d iv L S2 := by
  refine fin_of (double_core (new_core P.core nb iv rfl) hps hgs) (by rw [double_whole (c := true), ← P.all]; exact whole_new _ _ _) ?_
  cases w <;> exact h2

/-- What the three nodes of one turn hold, and that they are apart. -/
theorem single_facts {S : Nat → Option Sh} {pb gb : Nat} {pi gi : Iv} {w : Bool} {ps gs : RT} {hh : Fr} {H : List Fr} {qb : Nat} {t : RT} (ht : t.root = some qb)
    (h : Has S (cRecs (⟨pb, some pi, true, w, ps⟩ :: ⟨gb, some gi, false, w, gs⟩ :: hh :: H) (some qb) ++ t.recs)) :
    S gb = some ((Fr.mk gb (some gi) false w gs).sh (some pb)) ∧ S pb = some ((Fr.mk pb (some pi) true w ps).sh (some qb)) ∧ S hh.b = some (hh.sh (some gb)) ∧ gb ≠ pb ∧ gb ≠ hh.b ∧ pb ≠ hh.b ∧
    There S gs.root ∧ There S ps.root ∧ There S (some qb) ∧ gs.root ≠ some gb ∧ ps.root ≠ some gb ∧ qb ≠ pb ∧ hh.sib.root ≠ some gb ∧ ps.root ≠ some qb ∧
    Has (upd (upd (upd S gb ((((Fr.mk gb (some gi) false w gs).sh (some pb)).put w (((Fr.mk pb (some pi) true w ps).sh (some qb)).kid (!w))).dye true)) pb ((((Fr.mk pb (some pi) true w ps).sh (some qb)).put (!w) (some gb)).dye false)) hh.b ((hh.sh (some gb)).put hh.dir (some pb)))
      (cRecs (⟨pb, some pi, false, w, mk gb gi true w gs ps⟩ :: hh :: H) (some qb) ++ t.recs) := by
  have h1 := h.perm (single_recs pb gb pi gi w ps gs hh H (some qb) t.recs)
  have h2 := h1.drop
  have h3 := h2.drop
  have hps : ∀ x ∈ ps.recs, x ∈ ps.recs ++ (gs.recs ++ (hh.sib.recs ++ (cRecs H (some hh.b) ++ t.recs))) := fun x hx => List.mem_append_left _ hx
  have hgs : ∀ x ∈ gs.recs, x ∈ ps.recs ++ (gs.recs ++ (hh.sib.recs ++ (cRecs H (some hh.b) ++ t.recs))) := fun x hx => List.mem_append_right _ (List.mem_append_left _ hx)
  have hhs : ∀ x ∈ hh.sib.recs, x ∈ ps.recs ++ (gs.recs ++ (hh.sib.recs ++ (cRecs H (some hh.b) ++ t.recs))) := fun x hx => List.mem_append_right _ (List.mem_append_right _ (List.mem_append_left _ hx))
  have hts : ∀ x ∈ t.recs, x ∈ ps.recs ++ (gs.recs ++ (hh.sib.recs ++ (cRecs H (some hh.b) ++ t.recs))) := fun x hx => List.mem_append_right _ (List.mem_append_right _ (List.mem_append_right _ (List.mem_append_right _ hx)))
  have hd := h3.drop
  obtain ⟨sq, hsq⟩ := root_mem ht
  refine ⟨h1.at', h2.at', h3.at', h1.ne List.mem_cons_self, h1.ne (List.mem_cons_of_mem _ List.mem_cons_self), h2.ne List.mem_cons_self, root_there hd hgs, root_there hd hps, ?_, ?_, ?_, ?_, ?_, ?_, ?_⟩
  · rw [← ht]; exact root_there hd hts
  · exact root_apart h1 (fun y hy => List.mem_cons_of_mem _ (List.mem_cons_of_mem _ (hgs y hy)))
  · exact root_apart h1 (fun y hy => List.mem_cons_of_mem _ (List.mem_cons_of_mem _ (hps y hy)))
  · exact fun e => h2.ne (List.mem_cons_of_mem _ (hts _ hsq)) e.symm
  · exact root_apart h1 (fun y hy => List.mem_cons_of_mem _ (List.mem_cons_of_mem _ (hhs y hy)))
  · intro e
    obtain ⟨sp, hsp⟩ := root_mem e
    have := hd.1
    rw [List.map_append, List.nodup_append] at this
    refine this.2.2 qb (List.mem_map.2 ⟨_, hsp, rfl⟩) qb (List.mem_map.2 ⟨(qb, sq), ?_, rfl⟩) rfl
    exact List.mem_append_right _ (List.mem_append_right _ (List.mem_append_right _ hsq))
  · refine Has.perm ?_ (single_recs' pb gb pi gi w ps gs hh H (some qb) t.recs).symm
    have q1 := (h1.upd ((((Fr.mk gb (some gi) false w gs).sh (some pb)).put w (((Fr.mk pb (some pi) true w ps).sh (some qb)).kid (!w))).dye true)).perm (List.Perm.swap _ _ _)
    have q2 := (q1.upd ((((Fr.mk pb (some pi) true w ps).sh (some qb)).put (!w) (some gb)).dye false)).perm (List.Perm.trans (List.Perm.cons _ (List.Perm.swap _ _ _)) (List.Perm.swap _ _ _))
    have q3 := q2.upd ((hh.sh (some gb)).put hh.dir (some pb))
    exact q3.perm ((List.Perm.swap _ _ _).trans ((List.Perm.cons _ (List.Perm.swap _ _ _)).trans (List.Perm.swap _ _ _)))
end Go.Proofs.YtegejfhomocloaaGreat

namespace Go.Proofs.YtegejfhomocloaaGreat

/-- What the four nodes of two turns hold, and that they are apart. -/
theorem double_facts {S : Nat → Option Sh} {pb gb qb : Nat} {pi gi qi : Iv} {w : Bool} {ps gs l r : RT} {hh : Fr} {H : List Fr}
    (h : Has S (cRecs (⟨pb, some pi, true, !w, ps⟩ :: ⟨gb, some gi, false, w, gs⟩ :: hh :: H) (some qb) ++ (RT.node qb qi true l r).recs)) :
    S gb = some ((Fr.mk gb (some gi) false w gs).sh (some pb)) ∧ S pb = some ((Fr.mk pb (some pi) true (!w) ps).sh (some qb)) ∧ S qb = some ⟨some qi, l.root, r.root, true⟩ ∧ S hh.b = some (hh.sh (some gb)) ∧
    (gb ≠ pb ∧ gb ≠ qb ∧ pb ≠ qb ∧ gb ≠ hh.b ∧ pb ≠ hh.b ∧ qb ≠ hh.b) ∧ (There S gs.root ∧ There S ps.root ∧ There S l.root ∧ There S r.root) ∧
    (gs.root ≠ some gb ∧ ps.root ≠ some pb ∧ ps.root ≠ some qb ∧ l.root ≠ some pb ∧ l.root ≠ some qb ∧ l.root ≠ some gb ∧ r.root ≠ some pb ∧ r.root ≠ some qb ∧ r.root ≠ some gb ∧ hh.sib.root ≠ some gb) ∧
    Has (upd (upd (upd (upd S pb ((((Fr.mk pb (some pi) true (!w) ps).sh (some qb)).put (!w) ((Sh.mk (some qi) l.root r.root true).kid w)).dye true))
      qb ((((((Sh.mk (some qi) l.root r.root true).put w (some pb)).dye false).put (!w) (some gb)).dye false)))
      gb (((((Fr.mk gb (some gi) false w gs).sh (some pb)).put w (some qb)).put w ((((Sh.mk (some qi) l.root r.root true).put w (some pb)).dye false).kid (!w))).dye true))
      hh.b ((hh.sh (some gb)).put hh.dir (some qb)))
      (cRecs (hh :: H) (some qb) ++ (dblT pb gb qb pi gi qi w ps gs l r).recs) := by
  have h1 := h.perm (double_recs pb gb qb pi gi qi w ps gs l r hh H)
  have h2 := h1.drop
  have h3 := h2.drop
  have h4 := h3.drop
  have hd := h4.drop
  have hl : ∀ x ∈ l.recs, x ∈ l.recs ++ (r.recs ++ (ps.recs ++ (gs.recs ++ (hh.sib.recs ++ cRecs H (some hh.b))))) := fun x hx => List.mem_append_left _ hx
  have hr : ∀ x ∈ r.recs, x ∈ l.recs ++ (r.recs ++ (ps.recs ++ (gs.recs ++ (hh.sib.recs ++ cRecs H (some hh.b))))) := fun x hx => List.mem_append_right _ (List.mem_append_left _ hx)
  have hps : ∀ x ∈ ps.recs, x ∈ l.recs ++ (r.recs ++ (ps.recs ++ (gs.recs ++ (hh.sib.recs ++ cRecs H (some hh.b))))) := fun x hx => List.mem_append_right _ (List.mem_append_right _ (List.mem_append_left _ hx))
  have hgs : ∀ x ∈ gs.recs, x ∈ l.recs ++ (r.recs ++ (ps.recs ++ (gs.recs ++ (hh.sib.recs ++ cRecs H (some hh.b))))) := fun x hx => List.mem_append_right _ (List.mem_append_right _ (List.mem_append_right _ (List.mem_append_left _ hx)))
  have hhs : ∀ x ∈ hh.sib.recs, x ∈ l.recs ++ (r.recs ++ (ps.recs ++ (gs.recs ++ (hh.sib.recs ++ cRecs H (some hh.b))))) := fun x hx => List.mem_append_right _ (List.mem_append_right _ (List.mem_append_right _ (List.mem_append_right _ (List.mem_append_left _ hx))))
  -- from each node the trees lie apart
  have u4 : ∀ {t : RT}, (∀ x ∈ t.recs, x ∈ l.recs ++ (r.recs ++ (ps.recs ++ (gs.recs ++ (hh.sib.recs ++ cRecs H (some hh.b)))))) → t.root ≠ some gb := fun ht => root_apart h3 (fun y hy => List.mem_cons_of_mem _ (ht y hy))
  have u2 : ∀ {t : RT}, (∀ x ∈ t.recs, x ∈ l.recs ++ (r.recs ++ (ps.recs ++ (gs.recs ++ (hh.sib.recs ++ cRecs H (some hh.b)))))) → t.root ≠ some qb := fun ht => root_apart h2 (fun y hy => List.mem_cons_of_mem _ (List.mem_cons_of_mem _ (ht y hy)))
  have u1 : ∀ {t : RT}, (∀ x ∈ t.recs, x ∈ l.recs ++ (r.recs ++ (ps.recs ++ (gs.recs ++ (hh.sib.recs ++ cRecs H (some hh.b)))))) → t.root ≠ some pb := fun ht => root_apart h1 (fun y hy => List.mem_cons_of_mem _ (List.mem_cons_of_mem _ (List.mem_cons_of_mem _ (ht y hy))))
  refine ⟨h3.at', h1.at', h2.at', h4.at', ⟨fun e => h1.ne (List.mem_cons_of_mem _ List.mem_cons_self) e.symm, fun e => h2.ne List.mem_cons_self e.symm, h1.ne List.mem_cons_self, h3.ne List.mem_cons_self, h1.ne (List.mem_cons_of_mem _ (List.mem_cons_of_mem _ List.mem_cons_self)), h2.ne (List.mem_cons_of_mem _ List.mem_cons_self)⟩,
    ⟨root_there hd hgs, root_there hd hps, root_there hd hl, root_there hd hr⟩, ⟨u4 hgs, u1 hps, u2 hps, u1 hl, u2 hl, u4 hl, u1 hr, u2 hr, u4 hr, u4 hhs⟩, ?_⟩
  refine Has.perm ?_ (double_recs' pb gb qb pi gi qi w ps gs l r hh H).symm
  have q1 := (h1.upd ((((Fr.mk pb (some pi) true (!w) ps).sh (some qb)).put (!w) ((Sh.mk (some qi) l.root r.root true).kid w)).dye true)).perm (List.Perm.swap _ _ _)
  have q2 := (q1.upd ((((((Sh.mk (some qi) l.root r.root true).put w (some pb)).dye false).put (!w) (some gb)).dye false))).perm (List.Perm.trans (List.Perm.cons _ (List.Perm.swap _ _ _)) (List.Perm.swap _ _ _))
  have q3 := (q2.upd (((((Fr.mk gb (some gi) false w gs).sh (some pb)).put w (some qb)).put w ((((Sh.mk (some qi) l.root r.root true).put w (some pb)).dye false).kid (!w))).dye true)).perm (List.Perm.trans (List.Perm.cons _ ((List.Perm.cons _ (List.Perm.swap _ _ _)).trans (List.Perm.swap _ _ _))) (List.Perm.swap _ _ _))
  have q4 := q3.upd ((hh.sh (some gb)).put hh.dir (some qb))
  refine q4.perm (perm_of fun D a => ?_)
  simp only [List.count_cons]
  omega

/-- What the place's parent tells. -/
theorem par_red {S : Nat → Option Sh} {d : Nat} {f0 : Fr} {F : List Fr} {p : Option Nat} {R : List (Nat × Sh)} (hd : Dum d (f0 :: F)) (h : Has S (cRecs (f0 :: F) p ++ R)) : There S (pO (f0 :: F)) ∧ redAt S (pO (f0 :: F)) = f0.red := by
  cases F with
  | nil =>
    obtain rfl := hd.one
    exact ⟨fun b e => (by cases e), rfl⟩
  | cons f1 G =>
    have h0 : S f0.b = some (f0.sh p) := h.at'
    refine ⟨fun b e => by obtain rfl := Option.some.inj e; exact ⟨_, h0⟩, ?_⟩
    show ((S f0.b).map (·.red)).getD false = f0.red
    rw [h0]
    obtain ⟨b, i, c, w, s⟩ := f0
    cases w <;> rfl
/-- What the place's own node and its children tell. -/
theorem own_has {S : Nat → Option Sh} {F : List Fr} {b : Nat} {i : Iv} {c : Bool} {l r : RT} (h : Has S (cRecs F (some b) ++ (RT.node b i c l r).recs)) :
    S b = some ⟨some i, l.root, r.root, c⟩ ∧ There S l.root ∧ There S r.root ∧ redAt S l.root = l.isRed ∧ redAt S r.root = r.isRed := by
  have h2 := h.2
  have hl : ∀ x ∈ l.recs, S x.1 = some x.2 := fun x hx => h2 x (List.mem_append_right _ (List.mem_cons_of_mem _ (List.mem_append_left _ hx)))
  have hr : ∀ x ∈ r.recs, S x.1 = some x.2 := fun x hx => h2 x (List.mem_append_right _ (List.mem_cons_of_mem _ (List.mem_append_right _ hx)))
  exact ⟨h2 _ (List.mem_append_right _ List.mem_cons_self), (root_has hl).1, (root_has hr).1, (root_has hl).2, (root_has hr).2⟩
theorem kid_root (b : Nat) (i : Iv) (c : Bool) (l r : RT) (w : Bool) : ((RT.node b i c l r).kid w).root = (Sh.mk (some i) l.root r.root c).kid w := by cases w <;> rfl

/-- A new node at an empty place. -/
theorem new_has {S : Nat → Option Sh} {f0 : Fr} {F : List Fr} {nb : Nat} {iv : Iv} (h : Has S (cRecs (f0 :: F) none ++ RT.nil.recs)) (hb : ∀ x s, S x = some s → x ≠ nb) :
    S f0.b = some (f0.sh none) ∧ f0.b ≠ nb ∧ Has (upd (upd S nb ⟨some iv, none, none, true⟩) f0.b ((f0.sh none).put f0.dir (some nb))) (cRecs (f0 :: F) (some nb) ++ (RT.node nb iv true .nil .nil).recs) := by
  have h0 : S f0.b = some (f0.sh none) := h.at'
  refine ⟨h0, hb _ _ h0, ?_⟩
  have e : (f0.sh none).put f0.dir (some nb) = f0.sh (some nb) := by
    obtain ⟨b, i, c, w, s⟩ := f0
    cases w <;> rfl
  rw [e]
  have q1 : Has (upd S nb ⟨some iv, none, none, true⟩) ((nb, ⟨some iv, none, none, true⟩) :: (f0.b, f0.sh none) :: (f0.sib.recs ++ cRecs F (some f0.b))) := Has.new (by have := h; rw [RT.recs, List.append_nil] at this; exact this) hb _
  have q2 := (q1.perm (List.Perm.swap _ _ _)).upd (f0.sh (some nb))
  refine q2.perm (perm_of fun D a => ?_)
  simp only [cRecs, RT.recs, RT.root, List.count_append, List.count_cons, List.cons_append, List.count_nil]
  omega

/-- The place at the start. -/
theorem start_inv {d : Nat} {key : Int} {T : RT} {S : Nat → Option Sh} (hn : T ≠ .nil) (hr : T.isRed = false) (hN : T.NRR) (ha : T.ivs.Pairwise (fun x y => x.k < y.k)) (h : Has S ((d, ⟨none, none, T.root, false⟩) :: T.recs)) :
    PInv d key T.ivs [⟨d, none, false, true, .nil⟩] T 0 S false false none d := by
  have hw : whole [⟨d, none, false, true, .nil⟩] T = T.ivs := by simp [whole, cL, cR, RT.ivs]
  refine ⟨⟨rfl, by rw [hw]; exact ha, fun x hx => ?_, fun x hx => ?_, hN, ⟨fun e => (by cases e), trivial, trivial⟩⟩, ?_, fun f e => ⟨hn, hr⟩, hw, h, by omega, fun f g G e => (by cases e), fun _ f g h G e => (by cases e), fun _ => rfl, fun _ => rfl⟩
  · simp [cL, RT.ivs] at hx
  · simp [cR] at hx
  · intro f G e
    obtain ⟨rfl, rfl⟩ := List.cons.inj e
    exact ⟨fun _ => rfl, fun e => (by cases e)⟩
end Go.Proofs.YtegejfhomocloaaGreat

namespace Go.Proofs.YtegejfhomocloaaGreat

/-- How the place came to be as it is behind the first part of a round. -/
def FirstPart (F : List Fr) (t : RT) (iv : Iv) (b : Nat) (i : Iv) (c : Bool) (l r : RT) (S1 : Nat → Option Sh) : Prop :=
  Has S1 (cRecs F (some b) ++ (RT.node b i c l r).recs) ∧
  ((t = .nil ∧ i = iv ∧ c = true ∧ l = .nil ∧ r = .nil) ∨ (t = .node b i c l r ∧ ¬ (l.isRed = true ∧ r.isRed = true)) ∨
   (∃ c0 l0 r0, t = .node b i c0 l0 r0 ∧ l0.isRed = true ∧ r0.isRed = true ∧ c = true ∧ l = l0.black ∧ r = r0.black))

/-- Behind the turns: the end, or a round more. -/
def AftC (d : Nat) (iv : Iv) (L : List Iv) (F : List Fr) (b : Nat) (dd : Bool) (gp : Option Nat) (hp : Nat) (m : Nat) (S2 : Nat → Option Sh) : Prop :=
  (∃ s, S2 b = some s ∧ s.iv = some iv ∧ Fin d iv L S2) ∨
  (∃ i s F' t' ph', S2 b = some s ∧ s.iv = some i ∧ i.k ≠ iv.k ∧ i.id ≠ iv.id ∧ t'.root = s.kid (wayOf iv.k i) ∧ PInv d iv.k L F' t' ph' S2 (wayOf iv.k i) dd (pO F) (gp.getD hp) ∧ pO F' = some b ∧ left iv.k t' ph' < m)

theorem mem_whole (F : List Fr) (b : Nat) (i : Iv) (c : Bool) (l r : RT) : i ∈ whole F (.node b i c l r) := by simp [whole, RT.ivs]

theorem aft_none {d : Nat} {iv : Iv} {L : List Iv} {f0 : Fr} {F : List Fr} {t : RT} {ph : Nat} {S S1 : Nat → Option Sh} {dd ll : Bool} {gp : Option Nat} {hp : Nat} {b : Nat} {i : Iv} {c : Bool} {l r : RT}
    (P : PInv d iv.k L (f0 :: F) t ph S dd ll gp hp) (hx : ∀ x ∈ L, x.k ≠ iv.k ∧ x.id ≠ iv.id) (A : FirstPart (f0 :: F) t iv b i c l r S1) (hv : f0.red = false ∨ c = false) :
    AftC d iv L (f0 :: F) b dd gp hp (left iv.k t ph) S1 := by
  obtain ⟨hH, h⟩ := A
  have hb := (own_has hH).1
  rcases h with ⟨rfl, rfl, rfl, rfl, rfl⟩ | ⟨rfl, hlr⟩ | ⟨c0, l0, r0, rfl, hl, hr, rfl, rfl, rfl⟩
  · have hf : f0.red = false := hv.elim id (fun e => by cases e)
    exact .inl ⟨_, hb, rfl, fin_plain P hf hH⟩
  · have hi := hx i (by rw [← P.all]; exact mem_whole _ _ _ _ _ _)
    have hS : PInv d iv.k L (f0 :: F) (.node b i c l r) ph S1 dd ll gp hp := { P with has := hH }
    obtain ⟨h1, h2⟩ := step_plain hS hi.1 hlr
    exact .inr ⟨i, _, _, _, _, hb, rfl, hi.1, hi.2, kid_root _ _ _ _ _ _, h1, pO_cons P.core.dum _, h2⟩
  · have hf : f0.red = false := hv.elim id (fun e => by cases e)
    have hi := hx i (by rw [← P.all]; exact mem_whole _ _ _ _ _ _)
    obtain ⟨h1, h2⟩ := step_flip P hi.1 hl hr hf hH
    exact .inr ⟨i, _, _, _, _, hb, rfl, hi.1, hi.2, kid_root _ _ _ _ _ _, h1, pO_cons P.core.dum _, h2⟩

/-- The shape where two red ones lie. -/
theorem viol_shape {d : Nat} {iv : Iv} {L : List Iv} {f0 : Fr} {F : List Fr} {t : RT} {ph : Nat} {S S1 : Nat → Option Sh} {dd ll : Bool} {gp : Option Nat} {hp : Nat} {b : Nat} {i : Iv} {c : Bool} {l r : RT}
    (P : PInv d iv.k L (f0 :: F) t ph S dd ll gp hp) (A : FirstPart (f0 :: F) t iv b i c l r S1) (hf : f0.red = true) (hc : c = true) :
    ph = 0 ∧ ∃ pb gb pi gi pd gd ps gs hh H, f0 = ⟨pb, some pi, true, pd, ps⟩ ∧ F = ⟨gb, some gi, false, gd, gs⟩ :: hh :: H ∧ ps.isRed = false ∧ gs.isRed = false ∧ dd = pd ∧ ll = gd ∧ gp = some gb ∧ hp = hh.b := by
  obtain ⟨hH, h⟩ := A
  have fin : ∀ {t' : RT}, ph = 0 → CoreX d iv.k (f0 :: F) t' → ¬ t.Safe → ∃ pb gb pi gi pd gd ps gs hh H, f0 = ⟨pb, some pi, true, pd, ps⟩ ∧ F = ⟨gb, some gi, false, gd, gs⟩ :: hh :: H ∧ ps.isRed = false ∧ gs.isRed = false ∧ dd = pd ∧ ll = gd ∧ gp = some gb ∧ hp = hh.b := by
    intro t' h0 hX hs
    subst h0
    obtain ⟨pb, gb, pi, gi, pd, gd, ps, gs, hh, H, e1, e2, h1, h2⟩ := three hX P.hd hf hs
    subst e1 e2
    exact ⟨pb, gb, pi, gi, pd, gd, ps, gs, hh, H, rfl, rfl, h1, h2, P.dir _ _ _ rfl, P.last rfl _ _ _ _ rfl, P.gpr (by omega), P.hpr rfl⟩
  rcases h with ⟨rfl, rfl, rfl, rfl, rfl⟩ | ⟨rfl, hlr⟩ | ⟨c0, l0, r0, rfl, hl, hr, rfl, rfl, rfl⟩
  · exact ⟨nil_phase P.hd, fin (nil_phase P.hd) (new_core P.core b i rfl) not_safe_nil⟩
  · subst hc
    exact absurd (P.core.nc.1 hf).1 (by simp [RT.isRed])
  · obtain ⟨h0, h1, hs⟩ := flip_phase P.core.nt P.hd hl hr
    exact ⟨h0, fin h0 (flip_core P.core) hs⟩

theorem aft_single {d : Nat} {iv : Iv} {L : List Iv} {pb gb : Nat} {pi gi : Iv} {w : Bool} {ps gs : RT} {hh : Fr} {H : List Fr} {t : RT} {ph : Nat} {S S1 S2 : Nat → Option Sh} {dd ll : Bool} {gp : Option Nat} {hp : Nat} {b : Nat} {i : Iv} {l r : RT}
    (P : PInv d iv.k L (⟨pb, some pi, true, w, ps⟩ :: ⟨gb, some gi, false, w, gs⟩ :: hh :: H) t ph S dd ll gp hp) (hx : ∀ x ∈ L, x.k ≠ iv.k ∧ x.id ≠ iv.id)
    (A : FirstPart (⟨pb, some pi, true, w, ps⟩ :: ⟨gb, some gi, false, w, gs⟩ :: hh :: H) t iv b i true l r S1) (hps : ps.isRed = false) (hgs : gs.isRed = false)
    (h2 : Has S2 (cRecs (⟨pb, some pi, false, w, mk gb gi true w gs ps⟩ :: hh :: H) (some b) ++ (RT.node b i true l r).recs)) :
    AftC d iv L (⟨pb, some pi, true, w, ps⟩ :: ⟨gb, some gi, false, w, gs⟩ :: hh :: H) b dd gp hp (left iv.k t ph) S2 := by
  obtain ⟨hH, h⟩ := A
  have hb := (own_has h2).1
  rcases h with ⟨rfl, rfl, -, rfl, rfl⟩ | ⟨rfl, hlr⟩ | ⟨c0, l0, r0, rfl, hl, hr, -, rfl, rfl⟩
  · exact .inl ⟨_, hb, rfl, fin_single P hps hgs h2⟩
  · exact absurd (P.core.nc.1 rfl).1 (by simp [RT.isRed])
  · have hi := hx i (by rw [← P.all]; exact mem_whole _ _ _ _ _ _)
    obtain ⟨h3, h4⟩ := step_single P hi.1 hl hr hps hgs h2 (gp.getD hp)
    exact .inr ⟨i, _, _, _, _, hb, rfl, hi.1, hi.2, kid_root _ _ _ _ _ _, h3, rfl, h4⟩

theorem aft_double {d : Nat} {iv : Iv} {L : List Iv} {pb gb : Nat} {pi gi : Iv} {w : Bool} {ps gs : RT} {hh : Fr} {H : List Fr} {t : RT} {ph : Nat} {S S1 S2 : Nat → Option Sh} {dd ll : Bool} {gp : Option Nat} {hp : Nat} {b : Nat} {i : Iv} {l r : RT}
    (P : PInv d iv.k L (⟨pb, some pi, true, !w, ps⟩ :: ⟨gb, some gi, false, w, gs⟩ :: hh :: H) t ph S dd ll gp hp) (hx : ∀ x ∈ L, x.k ≠ iv.k ∧ x.id ≠ iv.id)
    (A : FirstPart (⟨pb, some pi, true, !w, ps⟩ :: ⟨gb, some gi, false, w, gs⟩ :: hh :: H) t iv b i true l r S1) (hps : ps.isRed = false) (hgs : gs.isRed = false)
    (h2 : Has S2 (cRecs (hh :: H) (some b) ++ (dblT pb gb b pi gi i w ps gs l r).recs)) :
    AftC d iv L (⟨pb, some pi, true, !w, ps⟩ :: ⟨gb, some gi, false, w, gs⟩ :: hh :: H) b dd gp hp (left iv.k t ph) S2 := by
  obtain ⟨hH, h⟩ := A
  have hb : ∃ s, S2 b = some s ∧ s.iv = some i ∧ ∀ x, ((dblT pb gb b pi gi i w ps gs l r).kid x).root = s.kid x := by
    cases w
    · exact ⟨_, (own_has h2).1, rfl, fun x => kid_root _ _ _ _ _ _⟩
    · exact ⟨_, (own_has h2).1, rfl, fun x => kid_root _ _ _ _ _ _⟩
  obtain ⟨s, hb1, hb2, hb3⟩ := hb
  rcases h with ⟨rfl, rfl, -, rfl, rfl⟩ | ⟨rfl, hlr⟩ | ⟨c0, l0, r0, rfl, hl, hr, -, rfl, rfl⟩
  · exact .inl ⟨_, hb1, hb2, fin_double P hps hgs h2⟩
  · exact absurd (P.core.nc.1 rfl).1 (by simp [RT.isRed])
  · have hi := hx i (by rw [← P.all]; exact mem_whole _ _ _ _ _ _)
    obtain ⟨h3, h4⟩ := step_double P hi.1 hl hr hps hgs h2 (pO (⟨pb, some pi, true, !w, ps⟩ :: ⟨gb, some gi, false, w, gs⟩ :: hh :: H)) (gp.getD hp)
    exact .inr ⟨i, s, _, _, _, hb1, hb2, hi.1, hi.2, hb3 _, h3, pO_cons P.core.dum.tail.tail _, h4⟩
end Go.Proofs.YtegejfhomocloaaGreat
