/- Printed by the kit's print.py, called for several laws at once: functions as plain Lean, and the walks' contracts. -/
import Derived.Test.YtiifnofghicnaaaDoorQAllx0
import Derived.Test.YtiifnofghicnaaaDoorQAllx1
namespace Go.Proofs.YtiifnofghicnaaaDoor.PAll
open Go.RowKit Go.Proofs.YtiifnofghicnaaaDoorW.PrintWords Go.Proofs.YtiifnofghicnaaaDoorW.PrintLast Go.Proofs.YtiifnofghicnaaaDoorW.PrintMore
attribute [local go_sem] max2_int min2_int max_two min_two max_three min_three max_four min_four   -- for this text's walks alone
set_option linter.unusedVariables false
set_option linter.unusedSimpArgs false

attribute [local go_sem high] eqA24
/-! ### laws_wideSmall: function 31 -/
def laws_wideSmall.f (a0 : Int) : Option (List Int) := (spec_Whole.f a0 0).bind fun t240 => (some t240)
set_option maxHeartbeats 8000000 in
set_option maxRecDepth 100000 in
theorem laws_wideSmall.calls (a0 : Int) (r : List Int) (w : World) (h : laws_wideSmall.f a0 = some r) :
    Calls Tryd.prog 31 #[.int .u64 a0] w fun e w' => ∃ v0_ : Value, e = .returned (v0_) ∧ Kd.V (Kd.int .i64) 3 w' w.heap.size (fun k_ => (w.heap.size ≤ k_)) v0_ r ∧ Below w.heap.size w w' := by
  have HB := Aside0.mk (Below.refl w.heap.size w)
  have H : ((spec_Whole.f a0 0).bind fun t240 => (some t240)) = some r := h
  clear h
  replace H := Option.bind_eq_some_iff.mp H
  obtain ⟨t240, A20, H⟩ := H
  replace H : (some t240) = some r := H
  have A2 := Aside0.mk A20
  clear A20
  obtain rfl := Option.some.inj H
  go_enter Tryd.func31, Tryd.ntmps31
  go_wp2_with (first | ((with_reducible refine gate_callee (f := 45) rfl ?_); refine goesL_ (some 4) rfl rfl Tryd.func45 (by kernel_rfl) rfl #[.int .u64 a0, .int .u64 0] rfl (by (try simp only [List.map_toArray, List.map_cons, List.map_nil]); first | done | rfl | (simp only [List.length_drop, List.length_take]; rfl)) ?_; (with_reducible refine (spec_Whole.calls a0 0 t240 _ A2.out).mono ?_); rintro e w3 ⟨v241, rfl, ho0, hb⟩; refine ⟨_, rfl, ?_⟩; have n0_ := Aside0.mk (Kd.V_lower (Kd.V_mono (ok' := fun k_ => (w.heap.size ≤ k_)) ho0 (fun k_ hk_ => (Nat.le_trans (below_size (by repeat (first | (with_reducible first | exact HB.out | apply below_alloc | apply pw_below_drewN | apply below_drew1) | exact HB.out))) hk_))) (below_size (by repeat (first | (with_reducible first | exact HB.out | apply below_alloc | apply pw_below_drewN | apply below_drew1) | exact HB.out)))); have n1_ := Aside0.mk (below_step (by repeat (first | (with_reducible first | exact HB.out | apply below_alloc | apply pw_below_drewN | apply below_drew1) | exact HB.out)) hb); clear HB; have HO242 := n0_; have HB := n1_; clear n0_ n1_; (try clear hb); (try clear hb2); (try clear hk); (try clear hi); (try clear ho0)))
  go_ret
  exact ⟨_, by first | rfl | (simp [errW_none, errW_some] <;> rfl) | (simp [*, errW_none, errW_some] <;> rfl), by (with_reducible repeat (first | apply Kd.V_alloc | apply Kd.V_drewN | apply Kd.V_drew)); exact HO242.out, by repeat (first | (with_reducible first | exact HB.out | apply below_alloc | apply pw_below_drewN | apply below_drew1) | exact HB.out)⟩


-- NOT PRINTED: function 6 (laws_FnWideQuoRem64)

-- NOT PRINTED: function 32 (impl_WideQuoRem)

-- NOT PRINTED: function 7 (laws_FnWideQuoRem)

end Go.Proofs.YtiifnofghicnaaaDoor.PAll
