/- FnRoadOrder: whatever keys of 16 bits come in, the plus tree, the range tree, the tree of intervals, the sparse bit array and the sorted slice hand back the same order: the law answers true and leaves its argument as it was. No conditions. -/
import Derived.Test.YtegejfhomocloaaGreatRows
import Derived.Test.YtegejfhomocloaaGreatJ19
import Derived.ProofKit
import Derived.Carry
import Derived.ChangeSlices
set_option linter.all false
namespace Go.Proofs.YtegejfhomocloaaGreat
open Go.ChangeShapes Go.WideShapes Go.ChangeAt Go.RowKit

theorem Tryz.own : ownKnob Tryz.prog.godebug = none := by kernel_rfl
theorem Tryz.laidOut : laidOutB Tryz.prog = true := by kernel_rfl
theorem Tryz.cells67 : Tryz.prog.cellsOf 67 = 1 := by kernel_rfl

set_option maxRecDepth 100000 in
set_option maxHeartbeats 800000 in
/-- More keys than the law looks at. -/
theorem road3big (n cap : Nat) (vp : Option Addr) (w : World) (hbig : 2147483647 < n) (hm : n ≤ maxLen) : Calls Tryz.prog 3 #[.slice vp n cap] w (Gives (.bool true) w) := by
  unfold maxLen at hm
  have hd : decide ((2147483647 : Int) < (n : Int)) = true := by simp; omega
  go_enter Tryz.func3, Tryz.ntmps3
  go_wp2_with fail
  go_ret
  exact ⟨rfl, Keeps.refl _ _⟩

theorem u16_range {z : Int} (h : (Lit.int .u16 z).wf = true) : 0 ≤ z ∧ z ≤ 65535 := by
  simp only [Lit.wf, Bool.and_eq_true, decide_eq_true_eq] at h
  have e1 : IntKind.u16.min = 0 := by decide
  have e2 : IntKind.u16.max = 65535 := by decide
  omega
set_option maxRecDepth 100000 in
theorem road_lifted (os : Os) (started : os.Started) (H : Type) (enc : TypeId × Value → H) :
    ReturnsInHanded {} Tryz.checked os 3 .any (Rows.fnRoadOrderSpec.pre6 enc Tryz.prog Tryz.f3 Rows.fnRoadOrderRow.domain false) (Rows.fnRoadOrderSpec.post enc Tryz.prog Tryz.f3 false true false false) := by
  refine returnsInHanded_of_change (C := Tryz.checked) Tryz.own started (by kernel_rfl) Tryz.func3
    (ChangeSpec.witness6 (enc := enc) (C := Tryz.checked) false ⟨#[], #[.slice none 0 0], []⟩ 8 (by kernel_rfl) (by kernel_rfl) (by kernel_rfl) (by kernel_rfl)) ?_
  intro W base args ds gs before hval0 hW hcnd _
  have hval : ∀ (j : Nat) t v, Tryz.f3.params[j]? = some t → args[j]? = some v → Value.okWide Tryz.prog W .any base t v := hval0
  have hW' := hW
  obtain ⟨p, q, hA0, hV, rfl, hfz, hnd⟩ := hW
  have hA : DataW.TrodAll enc Tryz.prog W 0 (fun _ => true) true Tryz.f3.params.toList args.toList ds p := hA0
  rw [Tryz.params3] at hA hval
  obtain ⟨v0, d0, rfl, rfl, h0⟩ := trodAll_one hA
  obtain ⟨rfl, rfl⟩ := trodVars_none hV
  have h0k := h0
  obtain ⟨a0, len, cap, rfl⟩ := okWide_slice Tryz.underlying22 (hval 0 22 v0 rfl rfl)
  obtain ⟨fuel, hf⟩ := h0
  clear hA0 hval0
  simp only [List.append_nil] at hW'
  have hlt : ∀ x ∈ p, x.block < W.heap.size := fun x hx => by simpa using hW'.lt x hx
  have key : Calls Tryz.prog 3 #[.slice a0 len cap] W (Gives (.bool true) W) := by
    rcases open_ints Tryz.underlying22 Tryz.underlying67 Tryz.cells67 hf with ⟨hcs, hx⟩ | ⟨a, len', cap', zs, hcs, _, hl, hm, hz, hx, hcell, hwz⟩
    · simp [Value.cells] at hcs
      obtain ⟨rfl, rfl, rfl⟩ := hcs
      exact road3 0 0 none (fun _ => 0) W (by omega) (fun i hi => by omega)
    · simp [Value.cells] at hcs
      obtain ⟨rfl, rfl, rfl⟩ := hcs
      by_cases hb : len ≤ 2147483647
      · simp only [if_true] at hz
        refine road3 len cap (some a) (fun i => (zs.getD i 0).toNat) W hb (fun i hi => ?_)
        have hc := hcell i (by omega)
        have hwf := hwz (zs.getD i 0) (by rw [List.getD_eq_getElem?_getD, List.getElem?_eq_getElem (by omega)]; exact List.getElem_mem _)
        have hr : 0 ≤ zs.getD i 0 ∧ zs.getD i 0 ≤ 65535 := u16_range hwf
        obtain ⟨b, off, spot⟩ := a
        have hspot : spot = none := by simpa [Addr.add] using World.cell?_spot (hcell 0 (by omega))
        subst hspot
        refine ⟨by omega, b, off, rfl, ?_⟩
        have e : (⟨b, off, none⟩ : Addr).add i = ⟨b, off + i, none⟩ := by
          unfold Addr.add
          by_cases h9 : i = 0
          · rw [if_pos h9, h9]; rfl
          · rw [if_neg h9]
        rw [e] at hc
        rw [hc, Int.toNat_of_nonneg hr.1]
      · exact road3big len cap (some a) W (by omega) (by omega)
  refine key.mono fun e W' ⟨he, hk⟩ => ?_
  subst he
  have hb : Below W.heap.size W W' := hk.below (Nat.le_refl _) (fun _ _ f => f)
  refine ⟨_, rfl, [d0], [], p, [], p, [], hW', ?_, ?_, rfl, ?_, fun h => (by cases h)⟩
  · exact trodAll_mk1 (shut_bool Tryz.underlying4 true)
  · exact trodAll_mk1 (Below.trod Tryz.laidOut (by kernel_rfl) (of_decide_eq_true (by kernel_rfl)) h0k hb hlt)
  · exact World.keptBut_mono (fun x hx => ⟨by simpa using hx, .inr (.inl hx)⟩) (hb.frame (· ∈ p))

theorem FnRoadOrder_holds : Rows.FnRoadOrderSaid :=
  OpenClaim.holds_of_wide 3 Tryz.f3 rfl rfl rfl rfl rfl rfl rfl ⟨rfl, rfl, rfl, rfl, rfl⟩ rfl rfl rfl rfl rfl (by kernel_rfl) Tryz.func3 (by kernel_rfl)
    (of_decide_eq_true (by kernel_rfl)) (by unfold Func.isWrapper; first | (rw [if_pos (by decide +kernel)]; kernel_rfl) | (rw [if_neg (by decide +kernel)]; exact ⟨rfl, rfl⟩))
    (fun os started H enc _ => road_lifted os started H enc)
end Go.Proofs.YtegejfhomocloaaGreat
#print axioms Go.Proofs.YtegejfhomocloaaGreat.FnRoadOrder_holds
