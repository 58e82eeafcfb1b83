import PyProof.Rows.All
import Wide.All
import OpenK.AllK
import Wide.FinOn
import KE.KDictMeth
import KE.KSortTup
import KE.KDictIter
import OpenK.KEqL
import Lean
import PySem.Challenge.RW_mr0378_01
set_option Elab.async false
set_option maxRecDepth 100000
set_option maxHeartbeats 0
set_option linter.unusedVariables false
set_option linter.all false
set_option compiler.extract_closed false
set_option genSizeOf false
set_option genInjectivity false
section
open PySem PySem.W PySem.Spec PySem.Calls PyProof.Rows
namespace Mine
theorem words : True := by
  (k_with "EN" => (k_here; k_dflt (refine nm_L (by rfl) (by rfl) (by decide) (by k_asm) (by exact @Eq.refl _ (some _)) ?_; k_whole)))
  (k_with "PS9" => ((repeat (with_unfolding_all (refine fa_cons (by exact @Eq.refl _ (some _)) ?_))); exact fa_nil))
  (k_with "kmem" => first | exact mm0 | exact mm1 | exact mm2 | exact mm3 | exact mm4 | exact mm5 | exact mm6 | exact mm7 | exact mm8 | exact mm9 | exact mm10 | exact mm11 | exact mm12 | (refine' List.Mem.tail _ ?_; k_extra "kmem"))
  (k_with "same" => (focus ((first | (with_reducible refine so_go ?_) | (with_reducible refine so_go1 ?_)); (repeat (first | (with_reducible exact so_refl) | (refine so_if (by exact rfl) ?_) | (refine so_st (by exact rfl) ?_))); done)))
  (k_with "hr2" => first | k_extra "same" | (intro z h2 h3; first | rfl | ((simp only [List.forall_mem_cons, List.not_mem_nil, false_implies, implies_true, and_true, ne_eq] at h2); (simp [h2]; done))))
  (k_with "kss" => first | k_extra "same" | (intro z h1 h2 h3; first | rfl | (simp [h1]; done) | ((simp only [List.forall_mem_cons, List.not_mem_nil, false_implies, implies_true, and_true, ne_eq] at h2); (simp [h1, h2]; done)) | ((simp only [List.contains_cons, List.contains_nil, Bool.or_false, Bool.or_eq_false_iff, beq_eq_false_iff_ne, ne_eq] at h3); (simp [h1, h3]; done)) | ((simp only [List.forall_mem_cons, List.not_mem_nil, false_implies, implies_true, and_true, ne_eq] at h2); (simp only [List.contains_cons, List.contains_nil, Bool.or_false, Bool.or_eq_false_iff, beq_eq_false_iff_ne, ne_eq] at h3); (simp [h1, h2, h3]; done))))
  (k_with "ksw" => first | k_extra "same" | (intro z h2 h3; first | rfl | ((simp only [List.forall_mem_cons, List.not_mem_nil, false_implies, implies_true, and_true, ne_eq] at h2); (simp [h2]; done)) | ((simp only [List.contains_cons, List.contains_nil, Bool.or_false, Bool.or_eq_false_iff, beq_eq_false_iff_ne, ne_eq] at h3); (simp [h3]; done)) | ((simp only [List.forall_mem_cons, List.not_mem_nil, false_implies, implies_true, and_true, ne_eq] at h2); (simp only [List.contains_cons, List.contains_nil, Bool.or_false, Bool.or_eq_false_iff, beq_eq_false_iff_ne, ne_eq] at h3); (simp [h2, h3]; done))))
  (k_with "om" => first | ((fail_if_success (fail_if_success (with_reducible show _ ≠ _))); first | (with_reducible assumption) | (exact Ne.symm (by with_reducible assumption)) | (exact Nat.ne_of_lt (by with_reducible assumption)) | (exact Nat.ne_of_gt (by with_reducible assumption)) | (exact ne0 (by with_reducible assumption)) | (exact en0 (by with_reducible assumption)) | (exact ne1 (by with_reducible assumption)) | (exact en1 (by with_reducible assumption)) | (exact ne2 (by with_reducible assumption)) | (exact en2 (by with_reducible assumption)) | (exact ne3 (by with_reducible assumption)) | (exact en3 (by with_reducible assumption)) | (exact ne4 (by with_reducible assumption)) | (exact en4 (by with_reducible assumption)) | (exact ne5 (by with_reducible assumption)) | (exact en5 (by with_reducible assumption)) | (exact ne6 (by with_reducible assumption)) | (exact en6 (by with_reducible assumption)) | (exact ne7 (by with_reducible assumption)) | (exact en7 (by with_reducible assumption)) | (exact ne8 (by with_reducible assumption)) | (exact en8 (by with_reducible assumption)) | (exact ne9 (by with_reducible assumption)) | (exact en9 (by with_reducible assumption)) | (exact ne10 (by with_reducible assumption)) | (exact en10 (by with_reducible assumption)) | (exact ne11 (by with_reducible assumption)) | (exact en11 (by with_reducible assumption)) | (exact ne12 (by with_reducible assumption)) | (exact en12 (by with_reducible assumption))) | ((fail_if_success (fail_if_success (with_reducible show ¬ (_ = _)))); first | (with_reducible assumption) | (exact Ne.symm (by with_reducible assumption)) | (exact Nat.ne_of_lt (by with_reducible assumption)) | (exact Nat.ne_of_gt (by with_reducible assumption)) | (exact ne0 (by with_reducible assumption)) | (exact en0 (by with_reducible assumption)) | (exact ne1 (by with_reducible assumption)) | (exact en1 (by with_reducible assumption)) | (exact ne2 (by with_reducible assumption)) | (exact en2 (by with_reducible assumption)) | (exact ne3 (by with_reducible assumption)) | (exact en3 (by with_reducible assumption)) | (exact ne4 (by with_reducible assumption)) | (exact en4 (by with_reducible assumption)) | (exact ne5 (by with_reducible assumption)) | (exact en5 (by with_reducible assumption)) | (exact ne6 (by with_reducible assumption)) | (exact en6 (by with_reducible assumption)) | (exact ne7 (by with_reducible assumption)) | (exact en7 (by with_reducible assumption)) | (exact ne8 (by with_reducible assumption)) | (exact en8 (by with_reducible assumption)) | (exact ne9 (by with_reducible assumption)) | (exact en9 (by with_reducible assumption)) | (exact ne10 (by with_reducible assumption)) | (exact en10 (by with_reducible assumption)) | (exact ne11 (by with_reducible assumption)) | (exact en11 (by with_reducible assumption)) | (exact ne12 (by with_reducible assumption)) | (exact en12 (by with_reducible assumption))) | ((fail_if_success (fail_if_success (with_reducible show @LE.le Nat _ _ _))); first | (with_reducible assumption) | ((fail_if_success (fail_if_success (with_reducible show @OfNat.ofNat Nat _ _ ≤ OfNat.ofNat _))); exact Nat.le_of_ble_eq_true rfl) | (exact Nat.le_trans (m := 4) (by with_reducible assumption) (by exact Nat.le_of_ble_eq_true rfl)) | (exact Nat.le_trans (m := 5) (by with_reducible assumption) (by exact Nat.le_of_ble_eq_true rfl)) | (exact Nat.le_trans (m := 12) (by with_reducible assumption) (by exact Nat.le_of_ble_eq_true rfl)) | (exact Nat.le_trans (m := 20) (by with_reducible assumption) (by exact Nat.le_of_ble_eq_true rfl)) | (exact Nat.le_trans (m := 50) (by with_reducible assumption) (by exact Nat.le_of_ble_eq_true rfl)) | (exact Nat.le_trans (m := 60) (by with_reducible assumption) (by exact Nat.le_of_ble_eq_true rfl)) | (exact Nat.le_trans (m := 63) (by with_reducible assumption) (by exact Nat.le_of_ble_eq_true rfl)) | (exact Nat.le_trans (m := 100) (by with_reducible assumption) (by exact Nat.le_of_ble_eq_true rfl)) | (exact Nat.le_succ_of_le (by with_reducible assumption)) | (exact Nat.succ_le_succ (by with_reducible assumption)) | (exact om_ss (by with_reducible assumption)) | (exact om_2k (by with_reducible assumption) (by with_reducible assumption)) | (exact om_le (by with_reducible assumption) (by with_reducible assumption)) | (exact Nat.le_trans (m := 4) (om_le (by with_reducible assumption) (by with_reducible assumption)) (by exact Nat.le_of_ble_eq_true rfl)) | (exact Nat.le_trans (m := 12) (om_le (by with_reducible assumption) (by with_reducible assumption)) (by exact Nat.le_of_ble_eq_true rfl))) | ((fail_if_success (fail_if_success (with_reducible show @LT.lt Nat _ _ _))); first | (with_reducible assumption) | ((fail_if_success (fail_if_success (with_reducible show @OfNat.ofNat Nat _ _ < OfNat.ofNat _))); exact Nat.le_of_ble_eq_true rfl) | (exact om_meas (by with_reducible assumption)) | (exact om_lt2 (by with_reducible assumption) (by with_reducible assumption)) | (exact (by with_reducible assumption : (_ < _) ∧ _).1) | (exact (by with_reducible assumption : _ ∧ (_ < _) ∧ _).2.1) | (exact (by with_reducible assumption : _ ∧ _ ∧ (_ < _) ∧ _).2.2.1) | (exact (by with_reducible assumption : _ ∧ _ ∧ _ ∧ (_ < _) ∧ _).2.2.2.1) | (exact (by with_reducible assumption : _ ∧ _ ∧ _ ∧ _ ∧ (_ < _) ∧ _).2.2.2.2.1) | (exact (by with_reducible assumption : _ ∧ _ ∧ _ ∧ _ ∧ _ ∧ (_ < _) ∧ _).2.2.2.2.2.1) | (exact (by with_reducible assumption : _ ∧ _ ∧ _ ∧ _ ∧ _ ∧ _ ∧ (_ < _) ∧ _).2.2.2.2.2.2.1) | (exact (by with_reducible assumption : _ ∧ _ ∧ _ ∧ _ ∧ _ ∧ _ ∧ _ ∧ (_ < _) ∧ _).2.2.2.2.2.2.2.1) | (exact (by with_reducible assumption : _ ∧ _ ∧ _ ∧ _ ∧ _ ∧ _ ∧ _ ∧ _ ∧ (_ < _) ∧ _).2.2.2.2.2.2.2.2.1) | (exact (by with_reducible assumption : _ ∧ _ ∧ _ ∧ _ ∧ _ ∧ _ ∧ _ ∧ _ ∧ _ ∧ (_ < _) ∧ _).2.2.2.2.2.2.2.2.2.1) | (exact (by with_reducible assumption : _ ∧ _ ∧ _ ∧ _ ∧ _ ∧ _ ∧ _ ∧ _ ∧ _ ∧ _ ∧ (_ < _) ∧ _).2.2.2.2.2.2.2.2.2.2.1) | (exact (by with_reducible assumption : _ ∧ _ ∧ _ ∧ _ ∧ _ ∧ _ ∧ _ ∧ _ ∧ _ ∧ _ ∧ _ ∧ (_ < _) ∧ _).2.2.2.2.2.2.2.2.2.2.2.1) | (exact (by with_reducible assumption : _ ∧ _ ∧ _ ∧ _ ∧ _ ∧ _ ∧ _ ∧ _ ∧ _ ∧ _ ∧ _ ∧ _ ∧ (_ < _) ∧ _).2.2.2.2.2.2.2.2.2.2.2.2.1)) | ((fail_if_success (fail_if_success (with_reducible show @LE.le Int _ _ _))); first | (with_reducible assumption) | (with_reducible exact Int.natCast_nonneg _) | (with_reducible exact om_sbi (by with_reducible assumption))) | ((fail_if_success (fail_if_success (with_reducible show @LT.lt Int _ _ _))); first | (with_reducible assumption)) | ((fail_if_success (fail_if_success (with_reducible show @Eq Nat _ _))); first | (with_reducible assumption) | (with_reducible exact om_sub (by with_reducible assumption)) | (with_reducible exact om_eq (by with_reducible assumption) (by with_reducible assumption)) | (with_reducible exact Eq.symm (by with_reducible assumption))) | ((fail_if_success (fail_if_success (with_reducible show _ ∨ _))); first | (with_reducible exact om_d3 (Nat.mod_lt _ (by decide))) | (with_reducible exact om_d2 (by with_reducible assumption)) | (with_reducible exact om_d3 (by with_reducible assumption))) | (omega (config := {})))
  (k_with "mem" => first | (with_reducible exact mm0) | (with_reducible exact mm1) | (with_reducible exact mm2) | (with_reducible exact mm3) | (with_reducible exact mm4) | (with_reducible exact mm5) | (with_reducible exact mm6) | (with_reducible exact mm7) | (with_reducible exact mm8) | (with_reducible exact mm9) | (with_reducible exact mm10) | (with_reducible exact mm11) | (with_reducible exact mm12) | (with_reducible assumption) | ((with_reducible refine List.mem_append_left _ ?_); k_extra "mem") | ((with_reducible refine List.mem_append_right _ ?_); k_extra "mem") | ((with_reducible refine List.Mem.tail _ ?_); k_extra "mem") | k_mem)
  (k_with "subv" => first | (with_reducible exact sb_refl) | (with_reducible assumption) | ((with_reducible refine sb_t4 ?_); k_extra "subv") | ((with_reducible refine sb_tail ?_); k_extra "subv") | ((with_reducible refine sb_right ?_); k_extra "subv") | ((with_reducible refine sb_left ?_); k_extra "subv"))
  (k_with "sub" => first | (with_reducible exact sb_nil) | ((with_reducible refine sb_cons ?_ ?_); (· k_extra "mem"); k_extra "sub") | ((with_reducible refine sb_app ?_ ?_); (· k_extra "sub"); k_extra "sub") | k_extra "subv")
  (k_with "wf00ae" => (first | (rename Mem _ _ _ _ => D9; refine hQ _ _ _ ?_; exact Eq.mp (by kernel_rfl) D9) | fail "no"))
  (k_with "w91bed" => (first | (rename Mem _ _ _ _ => D9; refine hQ _ _ _ _ _ D9 (List.Mem.head _)) | fail "no"))
  (k_with "w962e5" => (first | (rename Mem _ _ _ _ => D9; exact hQ _ _ _ _ _ D9) | fail "no"))
  (k_with "w90843" => (simp only [List.forall_mem_cons, List.cons_append, List.nil_append] at hT9; (repeat (replace hT9 := And.right hT9))))
  (k_with "w7203b" => first | exact List.forall_mem_nil _ | ((refine List.forall_mem_cons.mpr ⟨?_, ?_⟩); (· k_ne); (· k_all)) | assumption | exact tail_ne (by assumption) | exact tail_ne' (by assumption))
  (k_with "w368d6" => (k_here; refine method_type (by k_asm) (by k_asm) (by exact ty_tuple) (by decide +kernel) (by k_dflt k_is) (by k_handed) ?_))
  (k_with "w2c8c4" => exact hQ)
  (k_with "w84d1f" => (repeat' (first
  | ((with_reducible show wpAny _ _ (ite ((!(List.contains _ _)) = true) _ _) _ _ _); refine n_iteF (show (!(List.contains [Value.ref kc, .type "object"] (Value.ref kc))) = false from congrArg (fun b => !b) (mro_has kc)) ?_)
  | (with_reducible refine wpAny_bind ?_) | (with_reducible refine nd_bind ?_) | (with_reducible refine wpAny_holding ?_) | (with_reducible refine wpAny_onRaise ?_) | (with_reducible refine wpAny_standAt ?_)
  | ((with_reducible show wpAny _ _ (Sem.load _ _ _) _ _ _); first | refine n_load N hd ?_ | refine n_load N hk ?_ | refine n_load N hq ?_)
  | (with_reducible refine nd_pure ?_) | (with_reducible refine wpAny_pure ?_)
  | k_node)))
  (k_with "wb1623" => (refine' code_def ?_ ?_ ?_ ?_ ?_ ?_ ?_ ?_ ?_ ?_ ?_ ?_ ?_ ?_ ?_ ?_ ?_ ?_; (case refine'_36 => exact rfl); (case refine'_37 => exact rfl); (case refine'_38 => first | exact rfl | assumption); (case refine'_31 => k_asm); (case refine'_32 => k_asm); (case refine'_33 => k_asm); (case refine'_34 => k_asm); (case refine'_35 => k_asm); (case refine'_39 => k_is); (case refine'_40 => k_is); (case refine'_41 => first | k_room | ktr_room); (case refine'_42 => first | exact BindsTo.of_eq rfl | exact binds_K (by k_in) rfl (by k_is) rfl rfl rfl | fail "k_enter: no rule for these arguments"); (case refine'_48 => decide); (case refine'_43 => exact locs rfl); (case refine'_45 => exact rfl); (case refine'_46 => exact rfl); (case refine'_47 => exact rfl); k_whole))
  (k_with "web0b8" => (k_here; (with_reducible show wpAny _ _ (call (Value.builtin _) [Value.ref _, _]) _ _ _); k_dflt (refine append_K (by k_asm) (by k_asm) (by k_upd) ?_ (by (simp only [Array.size_push, List.size_toArray, sizeLine_eq]; omega)); k_whole)))
  (k_with "w00d46" => (k_here; (with_reducible show wpAny _ _ (call (Value.builtin _) [Value.ref _, _]) _ _ _); k_dflt (refine append_K (by k_asm) (by k_asm) (by k_upd) ?_ (by (simp only [Array.size_push, List.size_toArray, List.length_append, List.length_cons, List.length_nil, sizeLine_eq]; omega)); k_whole)))
  (k_with "wde850" => ((repeat (with_unfolding_all ((refine' fa_cons ?_ ?_); (· exact @Eq.refl _ (some _))))); exact fa_nil))
  (k_with "wc12c1" => (with_reducible refine gen_tk1 ?_; intro tk))
  (k_with "w04242" => first | k_extra "same" | (intro z h1 h2 h3; (repeat (first | exact rfl | refine if_no (by first | exact h1 | exact ne_ps h2 (by exact rfl) | exact st_ne h3 (by exact rfl)) ?_ | refine if_st (sub_st h3 (by exact rfl)) ?_))))
  (k_with "g0" => (fail_if_success (with_reducible show wpAny _ _ (exec (Stmt.For _ _ _ _ _) _) _ _ _)))
  (k_with "g1" => (fail_if_success (with_reducible show wpAny _ _ (exec (Stmt.While _ _ _ _) _) _ _ _)))
  (k_with "g2" => (fail_if_success (with_reducible show ∀ p ∈ _ :: _, _)))
  (k_with "g3" => (fail_if_success (with_reducible show wpAny _ _ (pyIter _) _ _ _)))
  (k_with "g4" => (fail_if_success (with_reducible show wpAny _ _ (call (Value.ref _) _ _) _ _ _)))
  (k_with "g5" => (fail_if_success (with_reducible show wpAny _ _ (callWith _ (Value.ref _) _ _ _) _ _ _)))
  (k_with "g6" => (fail_if_success (with_reducible show WExit _ _ _ _ _ _ _ _ _)))
  (k_with "g7" => (fail_if_success (with_reducible show KswPost _ _ _ _ _ _ _ _ _ _ _ _ _ _)))
  (k_with "g8" => (fail_if_success (with_reducible show PTurnP _ _ _ _ _ _ _ _ _ _ _ _ _)))
  (k_with "g9" => (fail_if_success (with_reducible show LeaveK _ _ _ _ _ _ _)))
  (k_with "g10" => (fail_if_success (with_reducible show wpAny _ _ (unpackItems _ _ _) _ _ _)))
  (k_with "g11" => (fail_if_success (with_reducible show _ = _)))
  (k_with "g12" => (fail_if_success (with_reducible show TurnP _ _ _ _ _ _ _ _ _ _ _ _ _ _)))
  (k_with "g13" => (fail_if_success (with_reducible show wpAny _ _ (subscriptTail _ _ (Value.ref _) (Value.int _ _)) _ _ _)))
  (k_with "g14" => (fail_if_success (with_reducible show wpAny _ _ (call (Value.builtin "list.pop") _) _ _ _)))
  (k_with "g15" => (fail_if_success (with_reducible show wpAny _ _ (truthy _) _ _ _)))
  (k_with "g16" => (fail_if_success (with_reducible show wpAny _ _ (Sem.alloc _ _) _ _ _)))
  (k_with "t0" => first | (k_unfold; (try dsimp only)) | (k_end; wrow_close) | walk1 | (dsimp only; walk1) | (leave1; walk_say "STEP leave1"; try dsimp only) | fail "no step")
  (k_with "t1" => first | (k_unfold; (try dsimp only)) | walk1 | (dsimp only; walk1))
  (k_with "k0" => repeat' ((k_extra "g0"); (k_extra "g1"); (k_extra "g3"); k_extra "t0"))
  (k_with "k1" => repeat' ((k_extra "g0"); (k_extra "g1"); (k_extra "g3"); (k_extra "g5"); (k_extra "g13"); (k_extra "g6"); (k_extra "g7"); (k_extra "g4"); k_extra "t0"))
  (k_with "k2" => repeat' ((k_extra "g0"); (k_extra "g4"); k_extra "t0"))
  (k_with "k3" => repeat' ((k_extra "g9"); (k_extra "g4"); k_extra "t0"))
  (k_with "k4" => repeat' ((k_extra "g0"); (k_extra "g1"); (k_extra "g3"); (k_extra "g9"); k_extra "t0"))
  (k_with "k5" => repeat' ((k_extra "g0"); (k_extra "g1"); (k_extra "g3"); (k_extra "g8"); k_extra "t0"))
  (k_with "k6" => repeat' ((k_extra "g4"); (fail_if_success (with_reducible show wpAny _ _ (compareOp _ (Value.ref _) (Value.ref _)) _ _ _)); k_extra "t0"))
  (k_with "k7" => repeat' ((k_extra "g0"); (k_extra "g1"); (k_extra "g3"); (fail_if_success (with_reducible show wpAny _ _ (call (Value.type _) _) _ _ _)); k_extra "t0"))
  (k_with "k8" => repeat' ((k_extra "g0"); (k_extra "g1"); (k_extra "g3"); (k_extra "g4"); k_extra "t0"))
  (k_with "k9" => repeat' ((k_extra "g8"); k_extra "t0"))
  (k_with "k10" => repeat' ((k_extra "g4"); k_extra "t0"))
  (k_with "k11" => repeat' ((k_extra "g0"); (k_extra "g1"); (k_extra "g3"); (k_extra "g5"); (k_extra "g13"); (k_extra "g6"); (k_extra "g7"); k_extra "t0"))
  (k_with "k12" => repeat' ((k_extra "g0"); (k_extra "g1"); (k_extra "g3"); (k_extra "g13"); (k_extra "g8"); k_extra "t0"))
  (k_with "k13" => repeat' ((fail_if_success (with_reducible show wpAny _ _ (getAttr _ _ _) _ _ _)); (fail_if_success (with_reducible show FnAt _ _ ∧ _)); k_extra "t1"))
  (k_with "k14" => repeat' ((k_extra "g0"); (k_extra "g1"); (k_extra "g3"); (k_extra "g8"); (fail_if_success (with_reducible show wpAny _ _ (compareOp _ (Value.ref _) (Value.ref _)) _ _ _)); k_extra "t0"))
  (k_with "k15" => repeat' ((k_extra "g0"); (k_extra "g1"); (k_extra "g4"); (k_extra "g12"); k_extra "t0"))
  (k_with "k16" => repeat' ((k_extra "g0"); (k_extra "g1"); (k_extra "g3"); (k_extra "g6"); (k_extra "g7"); (k_extra "g4"); (k_extra "g10"); (k_extra "g15"); (k_extra "g14"); k_extra "t0"))
  (k_with "k17" => repeat' ((k_extra "g0"); (k_extra "g1"); (k_extra "g3"); (k_extra "g5"); (k_extra "g4"); (k_extra "g12"); k_extra "t0"))
  (k_with "k18" => repeat' ((fail_if_success (with_reducible show wpAny _ _ (call (Value.builtin _) _ _) _ _ _)); k_extra "t1"))
  (k_with "k19" => repeat' (first | exact hQ | (with_reducible refine wpAny_bind ?_) | (with_reducible refine nd_bind ?_) | (with_reducible refine nd_pure ?_) | (with_reducible refine wpAny_pure ?_) | k_node))
  (k_with "k20" => repeat' ((k_extra "g9"); k_extra "t1"))
  (k_with "k21" => repeat' ((k_extra "g0"); (k_extra "g1"); (k_extra "g3"); (fail_if_success (with_reducible show TTurnP _ _ _ _ _ _ _ _ _ _ _ _ _)); k_extra "t0"))
  (k_with "k22" => repeat' ((k_extra "g0"); (k_extra "g1"); (k_extra "g3"); (k_extra "g8"); (fail_if_success (with_reducible show wpAny _ _ (exec (Stmt.If _ _ _ _) _) _ _ _)); k_extra "t0"))
  (k_with "k23" => repeat' ((k_extra "g0"); (k_extra "g1"); (k_extra "g3"); (k_extra "g8"); (fail_if_success (with_reducible show JIf _ _ _ _ _ _ _ _ _ _ _ _ _)); k_extra "t0"))
  (k_with "k24" => repeat' ((k_extra "g0"); (k_extra "g1"); (k_extra "g3"); (k_extra "g4"); (k_extra "g10"); k_extra "t0"))
  (k_with "k25" => repeat' ((k_extra "g0"); (k_extra "g1"); (k_extra "g3"); (k_extra "g4"); (fail_if_success (with_reducible show TTurnP _ _ _ _ _ _ _ _ _ _ _ _ _)); k_extra "t0"))
  (k_with "k26" => repeat' ((k_extra "g0"); (k_extra "g1"); (k_extra "g4"); k_extra "t0"))
  (k_with "k27" => repeat' ((k_extra "g3"); k_extra "t0"))
  (k_with "k28" => repeat' ((k_extra "g0"); (k_extra "g1"); (k_extra "g9"); k_extra "t0"))
  (k_with "k29" => repeat' ((k_extra "g0"); (k_extra "g1"); (k_extra "g3"); (k_extra "g5"); (k_extra "g4"); k_extra "t0"))
  (k_with "SALL" => (first | (with_reducible refine WS.all9 ?_) | (with_reducible refine SmD.all9 ?_) | (with_reducible refine BS.all9 ?_) | (with_reducible refine FS.all9 ?_) | (with_reducible refine GS.all9 ?_) | (with_reducible refine OS.all9 ?_) | (with_reducible refine R3.all9 ?_) | (with_reducible refine CS.all9 ?_) | (with_reducible refine MS.all9 ?_) | (with_reducible refine RS.all9 ?_) | (with_reducible refine ShS.all9 ?_)))
  (k_with "NE" => (first | exact neWS | exact neSmD | exact neBS | exact neFS | exact neGS | exact neOS | exact neR3 | exact neCS | exact neMS | exact neRS | exact neShS | exact neOp))
  (k_with "NE0" => (((repeat (first | exact neAddr | exact neHeap | exact neNat | exact neInt | exact neObj | exact neValue | exact neTok | exact neL | exact neO | exact neShared | exact neAround | exact neWorld | with_reducible refine neP ?_ ?_ | with_reducible refine neF ?_ | infer_instance | k_extra "NE")); done)))
  (k_with "T9A" => (first | ((with_reducible refine (?_ : (_ : type_of% (tl9 hT9)) → _) (tl9 hT9)); clear hT9; intros hT9) | ((with_reducible refine (?_ : (_ : type_of% (tla9 hT9)) → _) (tla9 hT9)); clear hT9; intros hT9) | ((with_reducible refine (?_ : (_ : type_of% (tln9 hT9)) → _) (tln9 hT9)); clear hT9; intros hT9)))
  (k_with "fold" => ((with_reducible show wpAny _ _ _ _ _ _); (fail_if_success (with_reducible refine isQ (by with_reducible assumption) ?_)); (with_reducible refine foldQ1 ?_)))
  (k_with "unfold" => ((with_reducible refine Fd.use (by with_reducible assumption) ?_)))
  (k_with "all" => first | exact List.forall_mem_nil _ | ((refine List.forall_mem_cons.mpr ⟨?_, ?_⟩); (· k_ne); (· k_all)) | assumption | exact tail_ne (by assumption) | exact tail_ne' (by assumption))
  (k_with "s1" => (with_reducible show ∀ _ : (_ : Prop), _))
  (k_with "s2" => (with_reducible show ∀ _ : (_ : Prop), ∀ _ : (_ : Prop), _))
  (k_with "s3" => (with_reducible show ∀ _ : (_ : Prop), ∀ _ : (_ : Prop), ∀ _ : (_ : Prop), _))
  (k_with "s4" => (with_reducible show ∀ _ : (_ : Prop), ∀ _ : (_ : Prop), ∀ _ : (_ : Prop), ∀ _ : (_ : Prop), _))
  (k_with "s5" => (with_reducible show ∀ _ : (_ : Prop), ∀ _ : (_ : Prop), ∀ _ : (_ : Prop), ∀ _ : (_ : Prop), ∀ _ : (_ : Prop), _))
  (k_with "s6" => (with_reducible show ∀ _ : (_ : Prop), ∀ _ : (_ : Prop), ∀ _ : (_ : Prop), ∀ _ : (_ : Prop), ∀ _ : (_ : Prop), ∀ _ : (_ : Prop), _))
  (k_with "s7" => (with_reducible show ∀ _ : (_ : Prop), ∀ _ : (_ : Prop), ∀ _ : (_ : Prop), ∀ _ : (_ : Prop), ∀ _ : (_ : Prop), ∀ _ : (_ : Prop), ∀ _ : (_ : Prop), _))
  (k_with "s8" => (with_reducible show ∀ _ : (_ : Prop), ∀ _ : (_ : Prop), ∀ _ : (_ : Prop), ∀ _ : (_ : Prop), ∀ _ : (_ : Prop), ∀ _ : (_ : Prop), ∀ _ : (_ : Prop), ∀ _ : (_ : Prop), _))
  (k_with "d1" => ((with_reducible refine @wi1_ap _ ?_ _ ?_); (· k_extra "NE0"); refine (?_ : Al1 _) _))
  (k_with "a1" => (intros _; refine ap1 ?_))
  (k_with "d2" => ((with_reducible refine @wi2_ap _ _ ?_ _ ?_); (· k_extra "NE0"); refine (?_ : Al2 _) _ _))
  (k_with "a2" => (intros _ _; refine ap2 ?_))
  (k_with "d3" => ((with_reducible refine @wi3_ap _ _ _ ?_ _ ?_); (· k_extra "NE0"); refine (?_ : Al3 _) _ _ _))
  (k_with "a3" => (intros _ _ _; refine ap3 ?_))
  (k_with "d4" => ((with_reducible refine @wi4_ap _ _ _ _ ?_ _ ?_); (· k_extra "NE0"); refine (?_ : Al4 _) _ _ _ _))
  (k_with "a4" => (intros _ _ _ _; refine ap4 ?_))
  (k_with "d5" => ((with_reducible refine @wi5_ap _ _ _ _ _ ?_ _ ?_); (· k_extra "NE0"); refine (?_ : Al5 _) _ _ _ _ _))
  (k_with "a5" => (intros _ _ _ _ _; refine ap5 ?_))
  (k_with "d6" => ((with_reducible refine @wi6_ap _ _ _ _ _ _ ?_ _ ?_); (· k_extra "NE0"); refine (?_ : Al6 _) _ _ _ _ _ _))
  (k_with "a6" => (intros _ _ _ _ _ _; refine ap6 ?_))
  (k_with "d7" => ((with_reducible refine @wi7_ap _ _ _ _ _ _ _ ?_ _ ?_); (· k_extra "NE0"); refine (?_ : Al7 _) _ _ _ _ _ _ _))
  (k_with "a7" => (intros _ _ _ _ _ _ _; refine ap7 ?_))
  (k_with "d8" => ((with_reducible refine @wi8_ap _ _ _ _ _ _ _ _ ?_ _ ?_); (· k_extra "NE0"); refine (?_ : Al8 _) _ _ _ _ _ _ _ _))
  (k_with "a8" => (intros _ _ _ _ _ _ _ _; refine ap8 ?_))
  (k_with "i1" => first | (k_extra "d1"; k_extra "a1") | ((fail_if_success (fail_if_success (k_extra "s1"))); intros _) | (intros _))
  (k_with "i2" => first | (k_extra "d2"; k_extra "a2") | (k_extra "d1"; first | ((fail_if_success (fail_if_success (k_extra "a1"; k_extra "s1"))); intros _ _) | (k_extra "a1"; k_extra "i1")) | ((fail_if_success (fail_if_success (k_extra "s2"))); intros _ _) | ((fail_if_success (fail_if_success (k_extra "s1"))); intros _; k_extra "i1") | (intros _; k_extra "i1"))
  (k_with "i3" => first | (k_extra "d3"; k_extra "a3") | (k_extra "d2"; first | ((fail_if_success (fail_if_success (k_extra "a2"; k_extra "s1"))); intros _ _ _) | (k_extra "a2"; k_extra "i1")) | (k_extra "d1"; first | ((fail_if_success (fail_if_success (k_extra "a1"; k_extra "s2"))); intros _ _ _) | ((fail_if_success (fail_if_success (k_extra "a1"; k_extra "s1"))); intros _ _; k_extra "i1") | (k_extra "a1"; k_extra "i2")) | ((fail_if_success (fail_if_success (k_extra "s3"))); intros _ _ _) | ((fail_if_success (fail_if_success (k_extra "s2"))); intros _ _; k_extra "i1") | ((fail_if_success (fail_if_success (k_extra "s1"))); intros _; k_extra "i2") | (intros _; k_extra "i2"))
  (k_with "i4" => first | (k_extra "d4"; k_extra "a4") | (k_extra "d3"; first | ((fail_if_success (fail_if_success (k_extra "a3"; k_extra "s1"))); intros _ _ _ _) | (k_extra "a3"; k_extra "i1")) | (k_extra "d2"; first | ((fail_if_success (fail_if_success (k_extra "a2"; k_extra "s2"))); intros _ _ _ _) | ((fail_if_success (fail_if_success (k_extra "a2"; k_extra "s1"))); intros _ _ _; k_extra "i1") | (k_extra "a2"; k_extra "i2")) | (k_extra "d1"; first | ((fail_if_success (fail_if_success (k_extra "a1"; k_extra "s3"))); intros _ _ _ _) | ((fail_if_success (fail_if_success (k_extra "a1"; k_extra "s2"))); intros _ _ _; k_extra "i1") | ((fail_if_success (fail_if_success (k_extra "a1"; k_extra "s1"))); intros _ _; k_extra "i2") | (k_extra "a1"; k_extra "i3")) | ((fail_if_success (fail_if_success (k_extra "s4"))); intros _ _ _ _) | ((fail_if_success (fail_if_success (k_extra "s3"))); intros _ _ _; k_extra "i1") | ((fail_if_success (fail_if_success (k_extra "s2"))); intros _ _; k_extra "i2") | ((fail_if_success (fail_if_success (k_extra "s1"))); intros _; k_extra "i3") | (intros _; k_extra "i3"))
  (k_with "i5" => first | (k_extra "d5"; k_extra "a5") | (k_extra "d4"; first | ((fail_if_success (fail_if_success (k_extra "a4"; k_extra "s1"))); intros _ _ _ _ _) | (k_extra "a4"; k_extra "i1")) | (k_extra "d3"; first | ((fail_if_success (fail_if_success (k_extra "a3"; k_extra "s2"))); intros _ _ _ _ _) | ((fail_if_success (fail_if_success (k_extra "a3"; k_extra "s1"))); intros _ _ _ _; k_extra "i1") | (k_extra "a3"; k_extra "i2")) | (k_extra "d2"; first | ((fail_if_success (fail_if_success (k_extra "a2"; k_extra "s3"))); intros _ _ _ _ _) | ((fail_if_success (fail_if_success (k_extra "a2"; k_extra "s2"))); intros _ _ _ _; k_extra "i1") | ((fail_if_success (fail_if_success (k_extra "a2"; k_extra "s1"))); intros _ _ _; k_extra "i2") | (k_extra "a2"; k_extra "i3")) | (k_extra "d1"; first | ((fail_if_success (fail_if_success (k_extra "a1"; k_extra "s4"))); intros _ _ _ _ _) | ((fail_if_success (fail_if_success (k_extra "a1"; k_extra "s3"))); intros _ _ _ _; k_extra "i1") | ((fail_if_success (fail_if_success (k_extra "a1"; k_extra "s2"))); intros _ _ _; k_extra "i2") | ((fail_if_success (fail_if_success (k_extra "a1"; k_extra "s1"))); intros _ _; k_extra "i3") | (k_extra "a1"; k_extra "i4")) | ((fail_if_success (fail_if_success (k_extra "s5"))); intros _ _ _ _ _) | ((fail_if_success (fail_if_success (k_extra "s4"))); intros _ _ _ _; k_extra "i1") | ((fail_if_success (fail_if_success (k_extra "s3"))); intros _ _ _; k_extra "i2") | ((fail_if_success (fail_if_success (k_extra "s2"))); intros _ _; k_extra "i3") | ((fail_if_success (fail_if_success (k_extra "s1"))); intros _; k_extra "i4") | (intros _; k_extra "i4"))
  (k_with "i6" => first | (k_extra "d6"; k_extra "a6") | (k_extra "d5"; first | ((fail_if_success (fail_if_success (k_extra "a5"; k_extra "s1"))); intros _ _ _ _ _ _) | (k_extra "a5"; k_extra "i1")) | (k_extra "d4"; first | ((fail_if_success (fail_if_success (k_extra "a4"; k_extra "s2"))); intros _ _ _ _ _ _) | ((fail_if_success (fail_if_success (k_extra "a4"; k_extra "s1"))); intros _ _ _ _ _; k_extra "i1") | (k_extra "a4"; k_extra "i2")) | (k_extra "d3"; first | ((fail_if_success (fail_if_success (k_extra "a3"; k_extra "s3"))); intros _ _ _ _ _ _) | ((fail_if_success (fail_if_success (k_extra "a3"; k_extra "s2"))); intros _ _ _ _ _; k_extra "i1") | ((fail_if_success (fail_if_success (k_extra "a3"; k_extra "s1"))); intros _ _ _ _; k_extra "i2") | (k_extra "a3"; k_extra "i3")) | (k_extra "d2"; first | ((fail_if_success (fail_if_success (k_extra "a2"; k_extra "s4"))); intros _ _ _ _ _ _) | ((fail_if_success (fail_if_success (k_extra "a2"; k_extra "s3"))); intros _ _ _ _ _; k_extra "i1") | ((fail_if_success (fail_if_success (k_extra "a2"; k_extra "s2"))); intros _ _ _ _; k_extra "i2") | ((fail_if_success (fail_if_success (k_extra "a2"; k_extra "s1"))); intros _ _ _; k_extra "i3") | (k_extra "a2"; k_extra "i4")) | (k_extra "d1"; first | ((fail_if_success (fail_if_success (k_extra "a1"; k_extra "s5"))); intros _ _ _ _ _ _) | ((fail_if_success (fail_if_success (k_extra "a1"; k_extra "s4"))); intros _ _ _ _ _; k_extra "i1") | ((fail_if_success (fail_if_success (k_extra "a1"; k_extra "s3"))); intros _ _ _ _; k_extra "i2") | ((fail_if_success (fail_if_success (k_extra "a1"; k_extra "s2"))); intros _ _ _; k_extra "i3") | ((fail_if_success (fail_if_success (k_extra "a1"; k_extra "s1"))); intros _ _; k_extra "i4") | (k_extra "a1"; k_extra "i5")) | ((fail_if_success (fail_if_success (k_extra "s6"))); intros _ _ _ _ _ _) | ((fail_if_success (fail_if_success (k_extra "s5"))); intros _ _ _ _ _; k_extra "i1") | ((fail_if_success (fail_if_success (k_extra "s4"))); intros _ _ _ _; k_extra "i2") | ((fail_if_success (fail_if_success (k_extra "s3"))); intros _ _ _; k_extra "i3") | ((fail_if_success (fail_if_success (k_extra "s2"))); intros _ _; k_extra "i4") | ((fail_if_success (fail_if_success (k_extra "s1"))); intros _; k_extra "i5") | (intros _; k_extra "i5"))
  (k_with "i7" => first | (k_extra "d7"; k_extra "a7") | (k_extra "d6"; first | ((fail_if_success (fail_if_success (k_extra "a6"; k_extra "s1"))); intros _ _ _ _ _ _ _) | (k_extra "a6"; k_extra "i1")) | (k_extra "d5"; first | ((fail_if_success (fail_if_success (k_extra "a5"; k_extra "s2"))); intros _ _ _ _ _ _ _) | ((fail_if_success (fail_if_success (k_extra "a5"; k_extra "s1"))); intros _ _ _ _ _ _; k_extra "i1") | (k_extra "a5"; k_extra "i2")) | (k_extra "d4"; first | ((fail_if_success (fail_if_success (k_extra "a4"; k_extra "s3"))); intros _ _ _ _ _ _ _) | ((fail_if_success (fail_if_success (k_extra "a4"; k_extra "s2"))); intros _ _ _ _ _ _; k_extra "i1") | ((fail_if_success (fail_if_success (k_extra "a4"; k_extra "s1"))); intros _ _ _ _ _; k_extra "i2") | (k_extra "a4"; k_extra "i3")) | (k_extra "d3"; first | ((fail_if_success (fail_if_success (k_extra "a3"; k_extra "s4"))); intros _ _ _ _ _ _ _) | ((fail_if_success (fail_if_success (k_extra "a3"; k_extra "s3"))); intros _ _ _ _ _ _; k_extra "i1") | ((fail_if_success (fail_if_success (k_extra "a3"; k_extra "s2"))); intros _ _ _ _ _; k_extra "i2") | ((fail_if_success (fail_if_success (k_extra "a3"; k_extra "s1"))); intros _ _ _ _; k_extra "i3") | (k_extra "a3"; k_extra "i4")) | (k_extra "d2"; first | ((fail_if_success (fail_if_success (k_extra "a2"; k_extra "s5"))); intros _ _ _ _ _ _ _) | ((fail_if_success (fail_if_success (k_extra "a2"; k_extra "s4"))); intros _ _ _ _ _ _; k_extra "i1") | ((fail_if_success (fail_if_success (k_extra "a2"; k_extra "s3"))); intros _ _ _ _ _; k_extra "i2") | ((fail_if_success (fail_if_success (k_extra "a2"; k_extra "s2"))); intros _ _ _ _; k_extra "i3") | ((fail_if_success (fail_if_success (k_extra "a2"; k_extra "s1"))); intros _ _ _; k_extra "i4") | (k_extra "a2"; k_extra "i5")) | (k_extra "d1"; first | ((fail_if_success (fail_if_success (k_extra "a1"; k_extra "s6"))); intros _ _ _ _ _ _ _) | ((fail_if_success (fail_if_success (k_extra "a1"; k_extra "s5"))); intros _ _ _ _ _ _; k_extra "i1") | ((fail_if_success (fail_if_success (k_extra "a1"; k_extra "s4"))); intros _ _ _ _ _; k_extra "i2") | ((fail_if_success (fail_if_success (k_extra "a1"; k_extra "s3"))); intros _ _ _ _; k_extra "i3") | ((fail_if_success (fail_if_success (k_extra "a1"; k_extra "s2"))); intros _ _ _; k_extra "i4") | ((fail_if_success (fail_if_success (k_extra "a1"; k_extra "s1"))); intros _ _; k_extra "i5") | (k_extra "a1"; k_extra "i6")) | ((fail_if_success (fail_if_success (k_extra "s7"))); intros _ _ _ _ _ _ _) | ((fail_if_success (fail_if_success (k_extra "s6"))); intros _ _ _ _ _ _; k_extra "i1") | ((fail_if_success (fail_if_success (k_extra "s5"))); intros _ _ _ _ _; k_extra "i2") | ((fail_if_success (fail_if_success (k_extra "s4"))); intros _ _ _ _; k_extra "i3") | ((fail_if_success (fail_if_success (k_extra "s3"))); intros _ _ _; k_extra "i4") | ((fail_if_success (fail_if_success (k_extra "s2"))); intros _ _; k_extra "i5") | ((fail_if_success (fail_if_success (k_extra "s1"))); intros _; k_extra "i6") | (intros _; k_extra "i6"))
  (k_with "i8" => first | (k_extra "d8"; k_extra "a8") | (k_extra "d7"; first | ((fail_if_success (fail_if_success (k_extra "a7"; k_extra "s1"))); intros _ _ _ _ _ _ _ _) | (k_extra "a7"; k_extra "i1")) | (k_extra "d6"; first | ((fail_if_success (fail_if_success (k_extra "a6"; k_extra "s2"))); intros _ _ _ _ _ _ _ _) | ((fail_if_success (fail_if_success (k_extra "a6"; k_extra "s1"))); intros _ _ _ _ _ _ _; k_extra "i1") | (k_extra "a6"; k_extra "i2")) | (k_extra "d5"; first | ((fail_if_success (fail_if_success (k_extra "a5"; k_extra "s3"))); intros _ _ _ _ _ _ _ _) | ((fail_if_success (fail_if_success (k_extra "a5"; k_extra "s2"))); intros _ _ _ _ _ _ _; k_extra "i1") | ((fail_if_success (fail_if_success (k_extra "a5"; k_extra "s1"))); intros _ _ _ _ _ _; k_extra "i2") | (k_extra "a5"; k_extra "i3")) | (k_extra "d4"; first | ((fail_if_success (fail_if_success (k_extra "a4"; k_extra "s4"))); intros _ _ _ _ _ _ _ _) | ((fail_if_success (fail_if_success (k_extra "a4"; k_extra "s3"))); intros _ _ _ _ _ _ _; k_extra "i1") | ((fail_if_success (fail_if_success (k_extra "a4"; k_extra "s2"))); intros _ _ _ _ _ _; k_extra "i2") | ((fail_if_success (fail_if_success (k_extra "a4"; k_extra "s1"))); intros _ _ _ _ _; k_extra "i3") | (k_extra "a4"; k_extra "i4")) | (k_extra "d3"; first | ((fail_if_success (fail_if_success (k_extra "a3"; k_extra "s5"))); intros _ _ _ _ _ _ _ _) | ((fail_if_success (fail_if_success (k_extra "a3"; k_extra "s4"))); intros _ _ _ _ _ _ _; k_extra "i1") | ((fail_if_success (fail_if_success (k_extra "a3"; k_extra "s3"))); intros _ _ _ _ _ _; k_extra "i2") | ((fail_if_success (fail_if_success (k_extra "a3"; k_extra "s2"))); intros _ _ _ _ _; k_extra "i3") | ((fail_if_success (fail_if_success (k_extra "a3"; k_extra "s1"))); intros _ _ _ _; k_extra "i4") | (k_extra "a3"; k_extra "i5")) | (k_extra "d2"; first | ((fail_if_success (fail_if_success (k_extra "a2"; k_extra "s6"))); intros _ _ _ _ _ _ _ _) | ((fail_if_success (fail_if_success (k_extra "a2"; k_extra "s5"))); intros _ _ _ _ _ _ _; k_extra "i1") | ((fail_if_success (fail_if_success (k_extra "a2"; k_extra "s4"))); intros _ _ _ _ _ _; k_extra "i2") | ((fail_if_success (fail_if_success (k_extra "a2"; k_extra "s3"))); intros _ _ _ _ _; k_extra "i3") | ((fail_if_success (fail_if_success (k_extra "a2"; k_extra "s2"))); intros _ _ _ _; k_extra "i4") | ((fail_if_success (fail_if_success (k_extra "a2"; k_extra "s1"))); intros _ _ _; k_extra "i5") | (k_extra "a2"; k_extra "i6")) | (k_extra "d1"; first | ((fail_if_success (fail_if_success (k_extra "a1"; k_extra "s7"))); intros _ _ _ _ _ _ _ _) | ((fail_if_success (fail_if_success (k_extra "a1"; k_extra "s6"))); intros _ _ _ _ _ _ _; k_extra "i1") | ((fail_if_success (fail_if_success (k_extra "a1"; k_extra "s5"))); intros _ _ _ _ _ _; k_extra "i2") | ((fail_if_success (fail_if_success (k_extra "a1"; k_extra "s4"))); intros _ _ _ _ _; k_extra "i3") | ((fail_if_success (fail_if_success (k_extra "a1"; k_extra "s3"))); intros _ _ _ _; k_extra "i4") | ((fail_if_success (fail_if_success (k_extra "a1"; k_extra "s2"))); intros _ _ _; k_extra "i5") | ((fail_if_success (fail_if_success (k_extra "a1"; k_extra "s1"))); intros _ _; k_extra "i6") | (k_extra "a1"; k_extra "i7")) | ((fail_if_success (fail_if_success (k_extra "s8"))); intros _ _ _ _ _ _ _ _) | ((fail_if_success (fail_if_success (k_extra "s7"))); intros _ _ _ _ _ _ _; k_extra "i1") | ((fail_if_success (fail_if_success (k_extra "s6"))); intros _ _ _ _ _ _; k_extra "i2") | ((fail_if_success (fail_if_success (k_extra "s5"))); intros _ _ _ _ _; k_extra "i3") | ((fail_if_success (fail_if_success (k_extra "s4"))); intros _ _ _ _; k_extra "i4") | ((fail_if_success (fail_if_success (k_extra "s3"))); intros _ _ _; k_extra "i5") | ((fail_if_success (fail_if_success (k_extra "s2"))); intros _ _; k_extra "i6") | ((fail_if_success (fail_if_success (k_extra "s1"))); intros _; k_extra "i7") | (intros _; k_extra "i7"))
  (k_with "PT2" => (with_reducible refine pair_all9 ?_))
  (k_with "PT3" => (with_reducible refine triple_all9 ?_))
  trivial
section --Head
open PySem PySem.W PySem.Calls PyProof.Rows

noncomputable def anyL (a : Array Nat) (p : Nat → Bool) (i j : Nat) : Bool := if i = 0 ∧ j = a.size then a.toList.any p else Array.any a p i j
theorem anyL_eq : @Array.any Nat = anyL := by
  funext a p i j
  unfold anyL
  split
  · rename_i h
    obtain ⟨rfl, rfl⟩ := h
    rw [Array.any_toList]
  · rfl
noncomputable abbrev Look := (as : Array Nat) → (p : Nat → Bool) → (start : optParam Nat 0) → (stop : optParam Nat as.size) → Bool
structure W3 (b : Builtin) where
  g : Look → Builtin
noncomputable def pickG {f : Look} {G : Look → Builtin} : W3 (G @f) := ⟨G⟩
noncomputable def tnG : Look → Builtin := by
  have x : W3 Builtin.«type.__new__» := by
    delta Builtin.«type.__new__»
    generalize @Array.any Nat = f
    with_unfolding_all apply @pickG @f
  exact x.g
noncomputable def tnf : Builtin := tnG @anyL
theorem tnG_eq : Builtin.«type.__new__» = tnG (@Array.any Nat) := by kernel_rfl
theorem tnf_eq : Builtin.«type.__new__» = tnf := by
  rw [tnG_eq, anyL_eq]; rfl
noncomputable def tb2 (id : String) : Option Builtin := if id = "type.__new__" then some tnf else treeTable id
theorem at_new : treeTable "type.__new__" = some Builtin.«type.__new__» := by kernel_rfl
theorem tb2_eq : treeTable = tb2 := by
  funext id
  unfold tb2
  split
  · rename_i h; subst h; rw [at_new, tnf_eq]
  · rfl

noncomputable def topRunT (tb : String → Option Builtin) (p : Program) (w : World) (n₀ : Nat) (ann : Option Value) : Nat → SharedT → Thread → Option SharedT
  | 0, _, _ => none
  | n + 1, s, t => match through t with
    | true => some s
    | false => match stepOk n₀ ann t with
      | false => none
      | true => match stepT (denote tb) p w s t with
        | some (s', t') => topRunT tb p w n₀ ann n s' t'
        | none => none
theorem topRunT_spec {tb : String → Option Builtin} {p : Program} {w : World} {n₀ : Nat} {ann : Option Value} : ∀ (n : Nat) (s s' : SharedT) (t : Thread), topRunT tb p w n₀ ann n s t = some s' → topRun tb p w n₀ ann n s.abs t = some s'.abs
  | 0, _, _, _, h => by simp [topRunT] at h
  | n + 1, s, s', t, h => by
    unfold topRunT at h
    unfold topRun
    cases ht : through t with
    | true => rw [ht] at h; cases h; rfl
    | false =>
      rw [ht] at h
      cases hk : stepOk n₀ ann t with
      | false => rw [hk] at h; cases h
      | true =>
        rw [hk] at h
        cases hs : stepT (denote tb) p w s t with
        | none => rw [hs] at h; cases h
        | some st =>
          obtain ⟨s₂, t₂⟩ := st
          rw [hs] at h
          have e := stepT_spec hs
          simp only [e]
          exact topRunT_spec n s₂ s' t₂ h

noncomputable def T0 (P : Params) : BT := ((((((((((BT.nil.ins 0 (boot_o_0 P)).ins 1 (boot_o_1 P)).ins 2 (boot_o_2 P)).ins 3 (boot_o_3 P)).ins 4 (boot_o_4 P)).ins 5 (boot_o_5 P)).ins 6 (boot_o_6 P)).ins 7 (boot_o_7 P)).ins 8 (boot_o_8 P)).ins 9 (boot_o_9 P)).ins 10 (boot_o_10 P)
noncomputable def S0 (P : Params) (os : OsState) : SharedT := ⟨T0 P, 11, {}, Array.mk [], boot_drawn, boot_toks, os⟩
theorem S0_abs (P : Params) (os : OsState) : (S0 P os).abs = ⟨boot_heap P, Array.mk [], boot_drawn, boot_toks, os⟩ := by rfl
noncomputable def getF (T : BT) (n a : Nat) : Option Obj :=
  match Nat.blt a n with
  | true => match T.get a with
    | some o => match o with
      | ⟨c, d, dt, sl⟩ => match dt with
        | .freed => none
        | .func ⟨a1, a2, a3, a4, a5, a6, a7, a8, a9, a10, a11, a12, a13, a14, a15⟩ => some ⟨c, d, .func ⟨a1, a2, a3, a4, a5, a6, a7, a8, a9, a10, a11, a12, a13, a14, a15⟩, sl⟩
        | dt => some ⟨c, d, dt, sl⟩
    | none => none
  | false => none
theorem getF_some {T : BT} {n a : Nat} {life : Life} {o : Obj} (h : getF T n a = some o) : (absHeap T n life).get? a = some o := by
  unfold getF at h
  cases hb : Nat.blt a n with
  | false => rw [hb] at h; cases h
  | true =>
    rw [hb] at h
    have hlt : a < n := Nat.le_of_ble_eq_true hb
    cases hg : T.get a with
    | none => rw [hg] at h; cases h
    | some x =>
      rw [hg] at h
      rw [abs_get hlt hg]
      obtain ⟨c, d, dt, sl⟩ := x
      cases dt <;> first | (cases h; done) | (cases h; rfl)
noncomputable def collect (T : BT) (n : Nat) : List Addr → Option (List (Nat × Obj))
  | [] => some []
  | a :: r => match getF T n a with
    | some o => match collect T n r with
      | some l => some ((a, o) :: l)
      | none => none
    | none => none
theorem collect_map {T : BT} {n : Nat} {life : Life} : ∀ {as : List Addr} {l : List (Nat × Obj)}, collect T n as = some l → as.map (absHeap T n life).get? = l.map fun p => some p.2
  | [], l, h => by cases h; rfl
  | a :: as, l, h => by
    unfold collect at h
    cases hg : getF T n a with
    | none => rw [hg] at h; cases h
    | some o =>
      rw [hg] at h
      cases hc : collect T n as with
      | none => rw [hc] at h; cases h
      | some l' =>
        rw [hc] at h
        cases h
        simp only [List.map_cons, getF_some (life := life) hg, collect_map (life := life) hc]
noncomputable def bootIdx : List Addr := [0, 1, 4, 5, 6, 7, 8, 9, 10]
noncomputable def exB (P : Params) : List (Nat × Obj) := [(0, boot_o_0 P), (1, boot_o_1 P), (4, boot_o_4 P), (5, boot_o_5 P), (6, boot_o_6 P), (7, boot_o_7 P), (8, boot_o_8 P), (9, boot_o_9 P), (10, boot_o_10 P)]
noncomputable def both (H : Hook) : Hook where
  α := H.α × List (Option Obj)
  obs := fun s => (H.obs s, bootIdx.map s.heap.get?)
  val := fun w => (H.val w, (exB w.params).map fun p => some p.2)
  says := fun w h => H.says w h ∧ ∀ p ∈ exB w.params, h.get? p.1 = some p.2
  of := fun w s x => ⟨H.of w s (Prod.mk.inj x).1, by
    have e : bootIdx.map s.heap.get? = (exB w.params).map fun p => some p.2 := (Prod.mk.inj x).2
    have e' : (exB w.params).map (fun p => s.heap.get? p.1) = (exB w.params).map fun p => some p.2 := e
    exact List.map_inj_left.mp e'⟩
  keeps := fun w h h' x k => ⟨H.keeps w h h' x.1 k, fun p hp => k _ _ (x.2 p hp)⟩
noncomputable def lookT (P : Params) (p q : Program) (loose : List Str) (Xt : Shared → Bool) (as ts : List Addr) (S : SharedT) :=
  match S with
  | ⟨T, n, life, gens, drawn, toks, os⟩ => match collect T n as with
    | some l => match collect T n ts with
      | some l' => match collect T n bootIdx with
        | some l'' => some
          ((staticsOk (importedModules p.main.body) (boot_heap P) (absHeap T n life) && namesBound p (absHeap T n life) && gensDone ⟨absHeap T n life, gens, drawn, toks, os⟩ && laidKept (boot_heap P) (absHeap T n life)),
           openSeen q loose (importedModules p.main.body) Xt true ⟨absHeap T n life, gens, drawn, toks, os⟩, l, l', l'')
        | none => none
      | none => none
    | none => none
theorem left_ofT {p q : Program} {loose : List Str} {Xt : Shared → Bool} {N : Nat} {m₀ : Nat} {ann : Option Value} {tb : String → Option Builtin} {K : Params → Frag} {as : List Addr} {e : ∀ P, as = (K P).map (·.1)} {ts : List Addr} (htb : treeTable = tb)
    (open_ : ∀ w : World, (fencedOpening treeTable p w N).map (fun s => (s.heap, s.gens, s.drawn, s.toks)) = some (boot_heap w.params, Array.mk [], boot_drawn, boot_toks))
    (size : ∀ w : World, ((boot_heap w.params).isNs mainGlobals && (Array.mk [] : Array GenState).size == 0, (boot_heap w.params).objs.size, (boot_heap w.params).nsMap mainGlobals "__annotations__") = (true, m₀, ann))
    (run : ∀ (w : World) (os : OsState), (topRunT tb p w m₀ ann N (S0 w.params os) (topStub p)).bind (lookT w.params p q loose Xt as ts) = some (true, openGood q loose, K w.params, (ts.map fun a => (a, tabObj #[])), exB w.params)) :
    LeftO p q loose Xt (Hook.obs (both (kmHook K as e ts))) (Hook.val (both (kmHook K as e ts))) N true := fun w => by
  subst htb
  obtain ⟨⟨h, gs, d, k, os⟩, e, e'⟩ := Option.map_eq_some_iff.mp (open_ w)
  obtain ⟨rfl, rfl, rfl, rfl⟩ : h = boot_heap w.params ∧ gs = Array.mk [] ∧ d = boot_drawn ∧ k = boot_toks := by simpa using e'
  obtain ⟨z1, z2, z3⟩ : _ ∧ _ ∧ _ := by simpa only [Prod.mk.injEq] using size w
  obtain ⟨S₁, r, l⟩ := Option.bind_eq_some_iff.mp (run w os)
  obtain ⟨T, n, life, gens, drawn, toks, os'⟩ := S₁
  unfold lookT at l
  dsimp only at l
  cases hc : collect T n as with
  | none => rw [hc] at l; cases l
  | some l0 =>
    rw [hc] at l
    cases hc' : collect T n ts with
    | none => rw [hc'] at l; cases l
    | some l0' =>
      rw [hc'] at l
      cases hc'' : collect T n bootIdx with
      | none => rw [hc''] at l; cases l
      | some l0'' =>
      rw [hc''] at l
      obtain ⟨l1, l2, l3, l4, l5⟩ : _ ∧ _ ∧ _ ∧ _ ∧ _ := by simpa only [Option.some.injEq, Prod.mk.injEq] using l
      subst l3 l4 l5
      have r := topRunT_spec _ _ _ _ r
      rw [S0_abs] at r
      have t : topFrom treeTable p w N ⟨boot_heap w.params, Array.mk [], boot_drawn, boot_toks, os⟩ = some ⟨absHeap T n life, gens, drawn, toks, os'⟩ := by
        unfold topFrom
        dsimp only
        rw [z1, z2, z3, r]
        show (match staticsOk (importedModules p.main.body) (boot_heap w.params) (absHeap T n life) && namesBound p (absHeap T n life) && gensDone ⟨absHeap T n life, gens, drawn, toks, os'⟩ && laidKept (boot_heap w.params) (absHeap T n life) with | true => _ | false => _) = _
        rw [l1]
        rfl
      unfold openEnds
      rw [e]
      show (topFrom treeTable p w N _).map _ = _
      rw [t]
      refine congrArg some (Prod.ext l2 (Prod.ext (Prod.ext ?_ ?_) ?_))
      · show as.map (absHeap T n life).get? = (K w.params).map fun p => some p.2
        exact collect_map hc
      · show ts.map (absHeap T n life).get? = ts.map fun _ => some (tabObj #[])
        rw [collect_map hc', List.map_map]; rfl
      · show bootIdx.map (absHeap T n life).get? = (exB w.params).map fun p => some p.2
        exact collect_map hc''
theorem holds_open2 {r : OpenRow} {q : Program} {loose : List Str} {Xt : Shared → Bool} {XP : (Str → Option Value) → Heap → Prop} {α : Type} {Yf : Shared → α} {Ya : World → α} {YP : World → Heap → Prop} {d : DefRec} {kwd : List (Str × Expr)} {N : Nat}
    (hY : ∀ w s, Yf s = Ya w → YP w s.heap) (hYk : ∀ w h h', YP w h → (∀ b o, h.get? b = some o → h'.get? b = some o) → YP w h')
    (hX : ∀ s, Xt s = true → XP (s.heap.nsMap mainGlobals) s.heap) (hXk : ∀ mg h h', XP mg h → (∀ b o, h.get? b = some o → h'.get? b = some o) → XP mg h')
    (hdef : defOf q r.name = some (d, kwd)) (hp : r.prog.theDef r.name = some (d.params, d.body, d.scope)) (hk : kwWritten? d.params.kwonlyargs d.params.kw_defaults = some kwd) (hRf : ∀ s, Xt s = true → RecFacts r.records s.heap) (hwr : (!r.writes || r.records.isEmpty) = true)
    (k1 : r.wellSaid = true) (ok : (chainsOk q && opensWell r.prog && (frees r.toRowW && r.within.isEmpty)) = true) (hb : r.prog.bare) (hw : r.toRowW.promised)
    (both : LeftO r.prog q loose Xt Yf Ya N ∧ WalkO q loose XP YP r.toRowW d kwd fun f vs => PySem.call f vs) : r.Holds :=
  holds_open both.1 hY hYk hX hXk hdef hp hk hRf hwr k1 ok hb hw both.2
structure WSt (p : Program) where
  d : Stmt
  g : Stmt → Program
  e : p = g d
noncomputable def pickS {d : Stmt} {G : Stmt → Program} : WSt (G d) := ⟨d, G, rfl⟩
noncomputable def pwS : WSt PySem.Challenge.pw_mr0378_01 := by
  delta PySem.Challenge.pw_mr0378_01
  generalize h1 : Stmt.Expr (Expr.Constant (Const.str _) _ _) _ = d1
  generalize h2 : Stmt.Expr (Expr.Constant (Const.str _) _ _) _ = d2
  generalize h3 : Stmt.Expr (Expr.Constant (Const.str _) _ _) _ = d3
  generalize h4 : Stmt.Expr (Expr.Constant (Const.str _) _ _) _ = d4
  generalize h5 : Stmt.Expr (Expr.Constant (Const.str _) _ _) _ = d5
  generalize h6 : Stmt.Expr (Expr.Constant (Const.str _) _ _) _ = d6
  generalize Stmt.Expr (Expr.Constant (Const.str _) _ _) _ = dd
  subst h1
  subst h2
  subst h3
  subst h4
  subst h5
  subst h6
  apply @pickS dd
noncomputable abbrev HidS {α : Type} (_ : α) : Type := α
noncomputable def pickD {α : Type} {d : α} : HidS d := d
noncomputable def docSt : Stmt := @id Stmt (@pickD Stmt (Stmt.Expr (Expr.Constant (Const.str (Str.ofString _)) _ _) _) : HidS pwS.d)
theorem docSt_id : docSt = docSt := rfl
name_quick docStQ for Mine.docSt by Mine.docSt_id
theorem pw_q : PySem.Challenge.pw_mr0378_01 = pwS.g PySem.W.Fast.docStQ := by
  rw [← PySem.W.Fast.docStQ_eq]
  exact pwS.e
theorem said : PySem.Challenge.rw_mr0378_01.wellSaid = true := by
  show OpenLaw.wellSaid { PySem.Challenge.rw_mr0378_01 with prog := PySem.Challenge.pw_mr0378_01 } = true
  rw [pw_q]
  kernel_rfl
local macro_rules | `(tactic| o_law) => `(tactic| refine holds_law Mine.said fun said => ?_)
theorem size0 (w : World) : ((boot_heap w.params).isNs mainGlobals && (Array.mk [] : Array GenState).size == 0, (boot_heap w.params).objs.size, (boot_heap w.params).nsMap mainGlobals "__annotations__") = (true, 11, some (.ref 6)) := by
  kernel_rfl
noncomputable def vw : Program := PySem.W.view PySem.Challenge.pw_mr0378_01 [0, 2, 3, 4, 5, 7, 8, 11, 12, 13, 14]
noncomputable def lse : List Str := ["_tuplegetter", "Match", "SequenceMatcher", "_initial_missing", "reduce"]
noncomputable def xt (s : Shared) : Bool := xlAt vw [] s && recOk [] s
theorem open3 {r : OpenRow} {d : DefRec} {kwd : List (Str × Expr)} (H : Hook) (hdef : defOf vw r.name = some (d, kwd)) (hp : r.prog.theDef r.name = some (d.params, d.body, d.scope)) (hk : kwWritten? d.params.kwonlyargs d.params.kw_defaults = some kwd) (hRf : ∀ s, xt s = true → RecFacts r.records s.heap) (hwr : (!r.writes || r.records.isEmpty) = true)
    (k1 : r.wellSaid = true) (ok : (chainsOk vw && opensWell r.prog && (frees r.toRowW && r.within.isEmpty)) = true) (hb : r.prog.bare) (hw : r.toRowW.promised)
    (hc : LeftO r.prog vw lse xt (Hook.obs (both H)) (Hook.val (both H)) 2600 ∧ WalkO vw lse (XL vw []) (Hook.says (both H)) r.toRowW d kwd fun f vs => PySem.call f vs) : r.Holds :=
  holds_open2 (Hook.of (both H)) (Hook.keeps (both H)) (fun s e => xl_of s (Bool.and_eq_true_iff.mp e).1) XL.keeps hdef hp hk hRf hwr k1 ok hb hw hc
local macro_rules | `(tactic| o_head $H:term) => `(tactic| refine open3 $H (by rfl) (by rfl) (by rfl) (fun s e => recFacts_of (Bool.and_eq_true_iff.mp e).2) (by rfl) (by first | assumption | decide +kernel) (by decide +kernel) ⟨rfl, rfl, rfl, rfl, rfl, by decide +kernel⟩ ?hw ?hc)
open_top hd0 for PySem.Challenge.rw_mr0378_01
noncomputable def asL : List Addr := [2, 3, 15, 17, 18, 20, 21, 29, 31, 32, 34, 35, 36, 37, 39, 40, 42, 43, 44, 46, 47, 49, 50, 51, 53, 54, 56, 57, 58, 59, 60, 61, 62, 65, 68, 73, 74, 75, 76, 78, 79, 81, 82, 83, 85, 86, 88, 89, 90, 91, 92, 93, 94, 96, 97, 99, 100, 101, 103, 104, 106, 107, 108, 110, 111, 113, 114, 115, 117, 118, 120, 121, 122, 123, 124, 126, 127, 129, 130, 132, 134, 135, 136, 139, 141, 142, 144, 145, 153, 154, 156, 157, 159, 160, 161, 163, 164, 166, 167, 168, 170, 171, 173, 174, 175, 177, 178, 180, 181, 182, 184, 185, 187, 188, 189, 190, 192, 193, 195, 196, 197, 199, 200, 202, 203, 204, 206, 207, 209, 210, 211, 212, 214, 215, 217, 218, 219, 221, 222, 224, 225, 226, 228, 229, 231, 232, 233, 235, 236, 238, 239, 240, 241, 242, 243, 244, 247, 249, 250, 252, 253, 254, 255, 256, 258, 259, 261, 262, 263, 265, 266, 268, 269, 270, 272, 273, 275, 276, 277, 280, 281, 282, 285, 286]
structure WKt (l : List (Nat × Obj)) where
  d : DictEntry
  g : DictEntry → List (Nat × Obj)
  e : l = g d
noncomputable def pickK {d : DictEntry} {G : DictEntry → List (Nat × Obj)} : WKt (G d) := ⟨d, G, rfl⟩
noncomputable def KS (P : Params) : WKt (Mine.hd0.heap_1 P) := by
  delta Mine.hd0.heap_1
  generalize DictEntry.mk _ (Value.str (Str.ofString "__doc__") 402) (Value.str _ 401) = dd
  apply @pickK dd
noncomputable def entK (P : Params) : DictEntry := @id DictEntry (@pickD DictEntry (DictEntry.mk _ (Value.str (Str.ofString _) _) (Value.str (Str.ofString _) _)) : HidS (KS P).d)
theorem entK_id : entK = entK := rfl
name_quick entKQ for Mine.entK by Mine.entK_id
theorem K_q (P : Params) : Mine.hd0.heap_1 P = (KS P).g (PySem.W.Fast.entKQ P) := by
  rw [← PySem.W.Fast.entKQ_eq]
  exact (KS P).e
noncomputable def vwOf (p : Program) : Program := PySem.W.view p [0, 2, 3, 4, 5, 7, 8, 11, 12, 13, 14]
noncomputable def lhs (p : Program) (w : World) (os : OsState) := (topRunT tb2 p w 11 (some (.ref 6)) 2600 (S0 w.params os) (topStub p)).bind (lookT w.params p (vwOf p) lse (fun s => xlAt (vwOf p) [] s && recOk [] s) asL [248, 283])
noncomputable def rhs (p : Program) (K : Params → List (Nat × Obj)) (w : World) (_ : OsState) := some (true, openGood (vwOf p) lse, K w.params, (([248, 283] : List Addr).map fun a => (a, tabObj #[])), exB w.params)
theorem lhs_id : lhs = lhs := rfl
theorem rhs_id : rhs = rhs := rfl
name_quick mineLhs for Mine.lhs by Mine.lhs_id
name_quick mineRhs for Mine.rhs by Mine.rhs_id
theorem run_fast : PySem.W.Fast.mineLhs (pwS.g PySem.W.Fast.docStQ) = PySem.W.Fast.mineRhs (pwS.g PySem.W.Fast.docStQ) (fun P => (KS P).g (PySem.W.Fast.entKQ P)) := by kernel_rfl
theorem run_all (w : World) (os : OsState) : lhs PySem.Challenge.pw_mr0378_01 w os = rhs PySem.Challenge.pw_mr0378_01 Mine.hd0.heap_1 w os := by
  rw [PySem.W.Fast.mineLhs_eq, PySem.W.Fast.mineRhs_eq, show Mine.hd0.heap_1 = (fun P => (KS P).g (PySem.W.Fast.entKQ P)) from funext K_q, pw_q, run_fast]
theorem left_here : LeftO PySem.Challenge.pw_mr0378_01 vw lse xt (Hook.obs (both (kmHook Mine.hd0.heap_1 asL (fun _ => by kernel_rfl) [248, 283]))) (Hook.val (both (kmHook Mine.hd0.heap_1 asL (fun _ => by kernel_rfl) [248, 283]))) 2600 true :=
  left_ofT tb2_eq (boot_open (by kernel_rfl) (by decide) (fun s => by rfl)) size0 (fun w os => run_all w os)
theorem top {B : Prop} (h : LeftO PySem.Challenge.pw_mr0378_01 vw lse xt (Hook.obs (both (kmHook Mine.hd0.heap_1 asL (fun _ => by kernel_rfl) [248, 283]))) (Hook.val (both (kmHook Mine.hd0.heap_1 asL (fun _ => by kernel_rfl) [248, 283]))) 2600 true ∧ B → PySem.Challenge.rw_mr0378_01.Holds) (walk : B) : PySem.Challenge.rw_mr0378_01.Holds := h ⟨left_here, walk⟩
end
section --Om
theorem ne0 {a d : Nat} {r : Prop} (h : a < d ∧ r) : a ≠ d := Nat.ne_of_lt h.1
theorem en0 {a d : Nat} {r : Prop} (h : a < d ∧ r) : d ≠ a := Nat.ne_of_gt h.1
theorem ne1 {a d : Nat} {p0 r : Prop} (h : p0 ∧ a < d ∧ r) : a ≠ d := Nat.ne_of_lt h.2.1
theorem en1 {a d : Nat} {p0 r : Prop} (h : p0 ∧ a < d ∧ r) : d ≠ a := Nat.ne_of_gt h.2.1
theorem ne2 {a d : Nat} {p0 p1 r : Prop} (h : p0 ∧ p1 ∧ a < d ∧ r) : a ≠ d := Nat.ne_of_lt h.2.2.1
theorem en2 {a d : Nat} {p0 p1 r : Prop} (h : p0 ∧ p1 ∧ a < d ∧ r) : d ≠ a := Nat.ne_of_gt h.2.2.1
theorem ne3 {a d : Nat} {p0 p1 p2 r : Prop} (h : p0 ∧ p1 ∧ p2 ∧ a < d ∧ r) : a ≠ d := Nat.ne_of_lt h.2.2.2.1
theorem en3 {a d : Nat} {p0 p1 p2 r : Prop} (h : p0 ∧ p1 ∧ p2 ∧ a < d ∧ r) : d ≠ a := Nat.ne_of_gt h.2.2.2.1
theorem ne4 {a d : Nat} {p0 p1 p2 p3 r : Prop} (h : p0 ∧ p1 ∧ p2 ∧ p3 ∧ a < d ∧ r) : a ≠ d := Nat.ne_of_lt h.2.2.2.2.1
theorem en4 {a d : Nat} {p0 p1 p2 p3 r : Prop} (h : p0 ∧ p1 ∧ p2 ∧ p3 ∧ a < d ∧ r) : d ≠ a := Nat.ne_of_gt h.2.2.2.2.1
theorem ne5 {a d : Nat} {p0 p1 p2 p3 p4 r : Prop} (h : p0 ∧ p1 ∧ p2 ∧ p3 ∧ p4 ∧ a < d ∧ r) : a ≠ d := Nat.ne_of_lt h.2.2.2.2.2.1
theorem en5 {a d : Nat} {p0 p1 p2 p3 p4 r : Prop} (h : p0 ∧ p1 ∧ p2 ∧ p3 ∧ p4 ∧ a < d ∧ r) : d ≠ a := Nat.ne_of_gt h.2.2.2.2.2.1
theorem ne6 {a d : Nat} {p0 p1 p2 p3 p4 p5 r : Prop} (h : p0 ∧ p1 ∧ p2 ∧ p3 ∧ p4 ∧ p5 ∧ a < d ∧ r) : a ≠ d := Nat.ne_of_lt h.2.2.2.2.2.2.1
theorem en6 {a d : Nat} {p0 p1 p2 p3 p4 p5 r : Prop} (h : p0 ∧ p1 ∧ p2 ∧ p3 ∧ p4 ∧ p5 ∧ a < d ∧ r) : d ≠ a := Nat.ne_of_gt h.2.2.2.2.2.2.1
theorem ne7 {a d : Nat} {p0 p1 p2 p3 p4 p5 p6 r : Prop} (h : p0 ∧ p1 ∧ p2 ∧ p3 ∧ p4 ∧ p5 ∧ p6 ∧ a < d ∧ r) : a ≠ d := Nat.ne_of_lt h.2.2.2.2.2.2.2.1
theorem en7 {a d : Nat} {p0 p1 p2 p3 p4 p5 p6 r : Prop} (h : p0 ∧ p1 ∧ p2 ∧ p3 ∧ p4 ∧ p5 ∧ p6 ∧ a < d ∧ r) : d ≠ a := Nat.ne_of_gt h.2.2.2.2.2.2.2.1
theorem ne8 {a d : Nat} {p0 p1 p2 p3 p4 p5 p6 p7 r : Prop} (h : p0 ∧ p1 ∧ p2 ∧ p3 ∧ p4 ∧ p5 ∧ p6 ∧ p7 ∧ a < d ∧ r) : a ≠ d := Nat.ne_of_lt h.2.2.2.2.2.2.2.2.1
theorem en8 {a d : Nat} {p0 p1 p2 p3 p4 p5 p6 p7 r : Prop} (h : p0 ∧ p1 ∧ p2 ∧ p3 ∧ p4 ∧ p5 ∧ p6 ∧ p7 ∧ a < d ∧ r) : d ≠ a := Nat.ne_of_gt h.2.2.2.2.2.2.2.2.1
theorem ne9 {a d : Nat} {p0 p1 p2 p3 p4 p5 p6 p7 p8 r : Prop} (h : p0 ∧ p1 ∧ p2 ∧ p3 ∧ p4 ∧ p5 ∧ p6 ∧ p7 ∧ p8 ∧ a < d ∧ r) : a ≠ d := Nat.ne_of_lt h.2.2.2.2.2.2.2.2.2.1
theorem en9 {a d : Nat} {p0 p1 p2 p3 p4 p5 p6 p7 p8 r : Prop} (h : p0 ∧ p1 ∧ p2 ∧ p3 ∧ p4 ∧ p5 ∧ p6 ∧ p7 ∧ p8 ∧ a < d ∧ r) : d ≠ a := Nat.ne_of_gt h.2.2.2.2.2.2.2.2.2.1
theorem ne10 {a d : Nat} {p0 p1 p2 p3 p4 p5 p6 p7 p8 p9 r : Prop} (h : p0 ∧ p1 ∧ p2 ∧ p3 ∧ p4 ∧ p5 ∧ p6 ∧ p7 ∧ p8 ∧ p9 ∧ a < d ∧ r) : a ≠ d := Nat.ne_of_lt h.2.2.2.2.2.2.2.2.2.2.1
theorem en10 {a d : Nat} {p0 p1 p2 p3 p4 p5 p6 p7 p8 p9 r : Prop} (h : p0 ∧ p1 ∧ p2 ∧ p3 ∧ p4 ∧ p5 ∧ p6 ∧ p7 ∧ p8 ∧ p9 ∧ a < d ∧ r) : d ≠ a := Nat.ne_of_gt h.2.2.2.2.2.2.2.2.2.2.1
theorem ne11 {a d : Nat} {p0 p1 p2 p3 p4 p5 p6 p7 p8 p9 p10 r : Prop} (h : p0 ∧ p1 ∧ p2 ∧ p3 ∧ p4 ∧ p5 ∧ p6 ∧ p7 ∧ p8 ∧ p9 ∧ p10 ∧ a < d ∧ r) : a ≠ d := Nat.ne_of_lt h.2.2.2.2.2.2.2.2.2.2.2.1
theorem en11 {a d : Nat} {p0 p1 p2 p3 p4 p5 p6 p7 p8 p9 p10 r : Prop} (h : p0 ∧ p1 ∧ p2 ∧ p3 ∧ p4 ∧ p5 ∧ p6 ∧ p7 ∧ p8 ∧ p9 ∧ p10 ∧ a < d ∧ r) : d ≠ a := Nat.ne_of_gt h.2.2.2.2.2.2.2.2.2.2.2.1
theorem ne12 {a d : Nat} {p0 p1 p2 p3 p4 p5 p6 p7 p8 p9 p10 p11 r : Prop} (h : p0 ∧ p1 ∧ p2 ∧ p3 ∧ p4 ∧ p5 ∧ p6 ∧ p7 ∧ p8 ∧ p9 ∧ p10 ∧ p11 ∧ a < d ∧ r) : a ≠ d := Nat.ne_of_lt h.2.2.2.2.2.2.2.2.2.2.2.2.1
theorem en12 {a d : Nat} {p0 p1 p2 p3 p4 p5 p6 p7 p8 p9 p10 p11 r : Prop} (h : p0 ∧ p1 ∧ p2 ∧ p3 ∧ p4 ∧ p5 ∧ p6 ∧ p7 ∧ p8 ∧ p9 ∧ p10 ∧ p11 ∧ a < d ∧ r) : d ≠ a := Nat.ne_of_gt h.2.2.2.2.2.2.2.2.2.2.2.2.1
theorem ne13 {a d : Nat} {p0 p1 p2 p3 p4 p5 p6 p7 p8 p9 p10 p11 p12 r : Prop} (h : p0 ∧ p1 ∧ p2 ∧ p3 ∧ p4 ∧ p5 ∧ p6 ∧ p7 ∧ p8 ∧ p9 ∧ p10 ∧ p11 ∧ p12 ∧ a < d ∧ r) : a ≠ d := Nat.ne_of_lt h.2.2.2.2.2.2.2.2.2.2.2.2.2.1
theorem en13 {a d : Nat} {p0 p1 p2 p3 p4 p5 p6 p7 p8 p9 p10 p11 p12 r : Prop} (h : p0 ∧ p1 ∧ p2 ∧ p3 ∧ p4 ∧ p5 ∧ p6 ∧ p7 ∧ p8 ∧ p9 ∧ p10 ∧ p11 ∧ p12 ∧ a < d ∧ r) : d ≠ a := Nat.ne_of_gt h.2.2.2.2.2.2.2.2.2.2.2.2.2.1
theorem om_meas {a b : Nat} (h : b < a) : (a + 1) - (b + 1) < (a + 1) - b := by omega
theorem om_d2 {a : Nat} (h : a < 2) : a = 0 ∨ a = 1 := by omega
theorem om_d3 {a : Nat} (h : a < 3) : a = 0 ∨ a = 1 ∨ a = 2 := by omega
theorem om_i3 {i : Nat} (h : i < 3) : (0 : Int) + (i : Int) = 0 ∨ (0 : Int) + (i : Int) = 1 ∨ (0 : Int) + (i : Int) = 2 := by
  rcases om_d3 h with rfl | rfl | rfl
  · exact .inl rfl
  · exact .inr (.inl rfl)
  · exact .inr (.inr rfl)
theorem sh_min {a b : Int} {n : Nat} (h0 : 0 ≤ a) (h1 : a ≤ b) (h2 : b ≤ n) : min b.toNat n - a.toNat = (b - a).toNat := by
  obtain ⟨y, rfl⟩ := Int.eq_ofNat_of_zero_le (Int.le_trans h0 h1)
  obtain ⟨x, rfl⟩ := Int.eq_ofNat_of_zero_le h0
  rw [Int.toNat_natCast, Int.toNat_natCast, Nat.min_eq_left (Int.ofNat_le.mp h2)]
  exact (Int.toNat_sub y x).symm
theorem om_2k {a b c : Nat} (h : a ≤ c + 1) (h2 : c ≤ 2 * b) : a ≤ 2 * (b + 1) := by omega
theorem om_ss {a b : Nat} (h : a ≤ b) : a + (0 + 1) ≤ b + 1 := Nat.succ_le_succ h
theorem om_sub {a b : Nat} (h : a ≤ b) : a + (b - a) = b := by omega
theorem om_sbi {a b : Nat} (h : a ≤ b) : (a : Int) + ((b - a : Nat) : Int) ≤ (b : Int) := by omega
theorem om_eq {a b : Nat} (h : a ≤ b) (h2 : ¬ a < b) : a = b := by omega
theorem om_le {a b c : Nat} (h : a = b) (h2 : b ≤ c) : a ≤ c := h ▸ h2
theorem om_lt2 {a b c : Nat} (h : a < c) (h2 : c + 1 < b) : a < b := by omega
theorem mm0 {a : Addr × Obj} {l : List (Addr × Obj)} : a ∈ a :: l := .head _
theorem mm1 {x0 a : Addr × Obj} {l : List (Addr × Obj)} : a ∈ x0 :: a :: l := .tail _ (.head _)
theorem mm2 {x0 x1 a : Addr × Obj} {l : List (Addr × Obj)} : a ∈ x0 :: x1 :: a :: l := .tail _ (.tail _ (.head _))
theorem mm3 {x0 x1 x2 a : Addr × Obj} {l : List (Addr × Obj)} : a ∈ x0 :: x1 :: x2 :: a :: l := .tail _ (.tail _ (.tail _ (.head _)))
theorem mm4 {x0 x1 x2 x3 a : Addr × Obj} {l : List (Addr × Obj)} : a ∈ x0 :: x1 :: x2 :: x3 :: a :: l := .tail _ (.tail _ (.tail _ (.tail _ (.head _))))
theorem mm5 {x0 x1 x2 x3 x4 a : Addr × Obj} {l : List (Addr × Obj)} : a ∈ x0 :: x1 :: x2 :: x3 :: x4 :: a :: l := .tail _ (.tail _ (.tail _ (.tail _ (.tail _ (.head _)))))
theorem mm6 {x0 x1 x2 x3 x4 x5 a : Addr × Obj} {l : List (Addr × Obj)} : a ∈ x0 :: x1 :: x2 :: x3 :: x4 :: x5 :: a :: l := .tail _ (.tail _ (.tail _ (.tail _ (.tail _ (.tail _ (.head _))))))
theorem mm7 {x0 x1 x2 x3 x4 x5 x6 a : Addr × Obj} {l : List (Addr × Obj)} : a ∈ x0 :: x1 :: x2 :: x3 :: x4 :: x5 :: x6 :: a :: l := .tail _ (.tail _ (.tail _ (.tail _ (.tail _ (.tail _ (.tail _ (.head _)))))))
theorem mm8 {x0 x1 x2 x3 x4 x5 x6 x7 a : Addr × Obj} {l : List (Addr × Obj)} : a ∈ x0 :: x1 :: x2 :: x3 :: x4 :: x5 :: x6 :: x7 :: a :: l := .tail _ (.tail _ (.tail _ (.tail _ (.tail _ (.tail _ (.tail _ (.tail _ (.head _))))))))
theorem mm9 {x0 x1 x2 x3 x4 x5 x6 x7 x8 a : Addr × Obj} {l : List (Addr × Obj)} : a ∈ x0 :: x1 :: x2 :: x3 :: x4 :: x5 :: x6 :: x7 :: x8 :: a :: l := .tail _ (.tail _ (.tail _ (.tail _ (.tail _ (.tail _ (.tail _ (.tail _ (.tail _ (.head _)))))))))
theorem mm10 {x0 x1 x2 x3 x4 x5 x6 x7 x8 x9 a : Addr × Obj} {l : List (Addr × Obj)} : a ∈ x0 :: x1 :: x2 :: x3 :: x4 :: x5 :: x6 :: x7 :: x8 :: x9 :: a :: l := .tail _ (.tail _ (.tail _ (.tail _ (.tail _ (.tail _ (.tail _ (.tail _ (.tail _ (.tail _ (.head _))))))))))
theorem mm11 {x0 x1 x2 x3 x4 x5 x6 x7 x8 x9 x10 a : Addr × Obj} {l : List (Addr × Obj)} : a ∈ x0 :: x1 :: x2 :: x3 :: x4 :: x5 :: x6 :: x7 :: x8 :: x9 :: x10 :: a :: l := .tail _ (.tail _ (.tail _ (.tail _ (.tail _ (.tail _ (.tail _ (.tail _ (.tail _ (.tail _ (.tail _ (.head _)))))))))))
theorem mm12 {x0 x1 x2 x3 x4 x5 x6 x7 x8 x9 x10 x11 a : Addr × Obj} {l : List (Addr × Obj)} : a ∈ x0 :: x1 :: x2 :: x3 :: x4 :: x5 :: x6 :: x7 :: x8 :: x9 :: x10 :: x11 :: a :: l := .tail _ (.tail _ (.tail _ (.tail _ (.tail _ (.tail _ (.tail _ (.tail _ (.tail _ (.tail _ (.tail _ (.tail _ (.head _))))))))))))
theorem sb_nil {l : List (Addr × Obj)} : ∀ p ∈ ([] : List (Addr × Obj)), p ∈ l := fun _ h => nomatch h
theorem sb_cons {a : Addr × Obj} {l l' : List (Addr × Obj)} (h : a ∈ l') (hl : ∀ p ∈ l, p ∈ l') : ∀ p ∈ a :: l, p ∈ l' := List.forall_mem_cons.mpr ⟨h, hl⟩
theorem sb_app {l1 l2 l' : List (Addr × Obj)} (h1 : ∀ p ∈ l1, p ∈ l') (h2 : ∀ p ∈ l2, p ∈ l') : ∀ p ∈ l1 ++ l2, p ∈ l' := fun p hp => (List.mem_append.mp hp).elim (h1 p) (h2 p)
theorem sb_refl {l : List (Addr × Obj)} : ∀ p ∈ l, p ∈ l := fun _ h => h
theorem sb_tail {a : Addr × Obj} {l l' : List (Addr × Obj)} (h : ∀ p ∈ l, p ∈ l') : ∀ p ∈ l, p ∈ a :: l' := fun p hp => .tail _ (h p hp)
theorem sb_t4 {a b c d : Addr × Obj} {l l' : List (Addr × Obj)} (h : ∀ p ∈ l, p ∈ l') : ∀ p ∈ l, p ∈ a :: b :: c :: d :: l' := fun p hp => .tail _ (.tail _ (.tail _ (.tail _ (h p hp))))
theorem sb_left {l l1 l2 : List (Addr × Obj)} (h : ∀ p ∈ l, p ∈ l1) : ∀ p ∈ l, p ∈ l1 ++ l2 := fun p hp => List.mem_append_left _ (h p hp)
theorem sb_right {l l1 l2 : List (Addr × Obj)} (h : ∀ p ∈ l, p ∈ l2) : ∀ p ∈ l, p ∈ l1 ++ l2 := fun p hp => List.mem_append_right _ (h p hp)
end
local macro_rules | `(tactic| omega) => `(tactic| k_extra "om")
local macro_rules | `(tactic| kst_same) => `(tactic| k_extra "kss")
local macro_rules | `(tactic| ksw_same) => `(tactic| k_extra "ksw")
local macro_rules | `(tactic| k_mem) => `(tactic| k_extra "kmem")
local macro_rules | `(tactic| walk_at "eval Name") => `(tactic| k_extra "EN")
section --Wi
theorem drinkU {α : Type} (hα : Nonempty α) (P : α → Prop) : ∃ x, P x → ∀ y, P y :=
  Classical.byCases (p := ∀ y, P y) (fun h => hα.elim fun a => ⟨a, fun _ => h⟩) fun h => (Classical.not_forall.mp h).elim fun x hx => ⟨x, fun hp => absurd hp hx⟩
noncomputable def wi {α : Type} (hα : Nonempty α) (P : α → Prop) : α := Classical.choose (drinkU hα P)
noncomputable def Oc1 {α : Type} (x : α) (p : Prop) : Prop := p
theorem wi_all {α : Type} (hα : Nonempty α) {P : α → Prop} (h : Oc1 (wi hα P) (P (wi hα P))) (y : α) : P y := Classical.choose_spec (drinkU hα P) h y
theorem neP {α β : Type} (a : Nonempty α) (b : Nonempty β) : Nonempty (α × β) := a.elim fun x => b.elim fun y => ⟨(x, y)⟩
noncomputable def wi2 {α β : Type} (ne : Nonempty (α × β)) (P : α → β → Prop) : α × β := wi ne (fun p => P p.1 p.2)
noncomputable def Oc2 {α β : Type} (x0 : α) (x1 : β) (p : Prop) : Prop := p
theorem wi2_all {α β : Type} (ne : Nonempty (α × β)) {P : α → β → Prop} (h : Oc2 (wi2 ne P).1 (wi2 ne P).2 (P (wi2 ne P).1 (wi2 ne P).2)) : ∀ x0 x1, P x0 x1 := fun x0 x1 => wi_all ne (P := fun p => P p.1 p.2) h (x0, x1)
noncomputable def wi3 {α β γ : Type} (ne : Nonempty (α × β × γ)) (P : α → β → γ → Prop) : α × β × γ := wi ne (fun p => P p.1 p.2.1 p.2.2)
noncomputable def Oc3 {α β γ : Type} (x0 : α) (x1 : β) (x2 : γ) (p : Prop) : Prop := p
theorem wi3_all {α β γ : Type} (ne : Nonempty (α × β × γ)) {P : α → β → γ → Prop} (h : Oc3 (wi3 ne P).1 (wi3 ne P).2.1 (wi3 ne P).2.2 (P (wi3 ne P).1 (wi3 ne P).2.1 (wi3 ne P).2.2)) : ∀ x0 x1 x2, P x0 x1 x2 := fun x0 x1 x2 => wi_all ne (P := fun p => P p.1 p.2.1 p.2.2) h (x0, x1, x2)
noncomputable def wi4 {α β γ δ : Type} (ne : Nonempty (α × β × γ × δ)) (P : α → β → γ → δ → Prop) : α × β × γ × δ := wi ne (fun p => P p.1 p.2.1 p.2.2.1 p.2.2.2)
noncomputable def Oc4 {α β γ δ : Type} (x0 : α) (x1 : β) (x2 : γ) (x3 : δ) (p : Prop) : Prop := p
theorem wi4_all {α β γ δ : Type} (ne : Nonempty (α × β × γ × δ)) {P : α → β → γ → δ → Prop} (h : Oc4 (wi4 ne P).1 (wi4 ne P).2.1 (wi4 ne P).2.2.1 (wi4 ne P).2.2.2 (P (wi4 ne P).1 (wi4 ne P).2.1 (wi4 ne P).2.2.1 (wi4 ne P).2.2.2)) : ∀ x0 x1 x2 x3, P x0 x1 x2 x3 := fun x0 x1 x2 x3 => wi_all ne (P := fun p => P p.1 p.2.1 p.2.2.1 p.2.2.2) h (x0, x1, x2, x3)
noncomputable def wi5 {α β γ δ ε : Type} (ne : Nonempty (α × β × γ × δ × ε)) (P : α → β → γ → δ → ε → Prop) : α × β × γ × δ × ε := wi ne (fun p => P p.1 p.2.1 p.2.2.1 p.2.2.2.1 p.2.2.2.2)
noncomputable def Oc5 {α β γ δ ε : Type} (x0 : α) (x1 : β) (x2 : γ) (x3 : δ) (x4 : ε) (p : Prop) : Prop := p
theorem wi5_all {α β γ δ ε : Type} (ne : Nonempty (α × β × γ × δ × ε)) {P : α → β → γ → δ → ε → Prop} (h : Oc5 (wi5 ne P).1 (wi5 ne P).2.1 (wi5 ne P).2.2.1 (wi5 ne P).2.2.2.1 (wi5 ne P).2.2.2.2 (P (wi5 ne P).1 (wi5 ne P).2.1 (wi5 ne P).2.2.1 (wi5 ne P).2.2.2.1 (wi5 ne P).2.2.2.2)) : ∀ x0 x1 x2 x3 x4, P x0 x1 x2 x3 x4 := fun x0 x1 x2 x3 x4 => wi_all ne (P := fun p => P p.1 p.2.1 p.2.2.1 p.2.2.2.1 p.2.2.2.2) h (x0, x1, x2, x3, x4)
noncomputable def wi6 {α β γ δ ε ζ : Type} (ne : Nonempty (α × β × γ × δ × ε × ζ)) (P : α → β → γ → δ → ε → ζ → Prop) : α × β × γ × δ × ε × ζ := wi ne (fun p => P p.1 p.2.1 p.2.2.1 p.2.2.2.1 p.2.2.2.2.1 p.2.2.2.2.2)
noncomputable def Oc6 {α β γ δ ε ζ : Type} (x0 : α) (x1 : β) (x2 : γ) (x3 : δ) (x4 : ε) (x5 : ζ) (p : Prop) : Prop := p
theorem wi6_all {α β γ δ ε ζ : Type} (ne : Nonempty (α × β × γ × δ × ε × ζ)) {P : α → β → γ → δ → ε → ζ → Prop} (h : Oc6 (wi6 ne P).1 (wi6 ne P).2.1 (wi6 ne P).2.2.1 (wi6 ne P).2.2.2.1 (wi6 ne P).2.2.2.2.1 (wi6 ne P).2.2.2.2.2 (P (wi6 ne P).1 (wi6 ne P).2.1 (wi6 ne P).2.2.1 (wi6 ne P).2.2.2.1 (wi6 ne P).2.2.2.2.1 (wi6 ne P).2.2.2.2.2)) : ∀ x0 x1 x2 x3 x4 x5, P x0 x1 x2 x3 x4 x5 := fun x0 x1 x2 x3 x4 x5 => wi_all ne (P := fun p => P p.1 p.2.1 p.2.2.1 p.2.2.2.1 p.2.2.2.2.1 p.2.2.2.2.2) h (x0, x1, x2, x3, x4, x5)
noncomputable def wi7 {α β γ δ ε ζ η : Type} (ne : Nonempty (α × β × γ × δ × ε × ζ × η)) (P : α → β → γ → δ → ε → ζ → η → Prop) : α × β × γ × δ × ε × ζ × η := wi ne (fun p => P p.1 p.2.1 p.2.2.1 p.2.2.2.1 p.2.2.2.2.1 p.2.2.2.2.2.1 p.2.2.2.2.2.2)
noncomputable def Oc7 {α β γ δ ε ζ η : Type} (x0 : α) (x1 : β) (x2 : γ) (x3 : δ) (x4 : ε) (x5 : ζ) (x6 : η) (p : Prop) : Prop := p
theorem wi7_all {α β γ δ ε ζ η : Type} (ne : Nonempty (α × β × γ × δ × ε × ζ × η)) {P : α → β → γ → δ → ε → ζ → η → Prop} (h : Oc7 (wi7 ne P).1 (wi7 ne P).2.1 (wi7 ne P).2.2.1 (wi7 ne P).2.2.2.1 (wi7 ne P).2.2.2.2.1 (wi7 ne P).2.2.2.2.2.1 (wi7 ne P).2.2.2.2.2.2 (P (wi7 ne P).1 (wi7 ne P).2.1 (wi7 ne P).2.2.1 (wi7 ne P).2.2.2.1 (wi7 ne P).2.2.2.2.1 (wi7 ne P).2.2.2.2.2.1 (wi7 ne P).2.2.2.2.2.2)) : ∀ x0 x1 x2 x3 x4 x5 x6, P x0 x1 x2 x3 x4 x5 x6 := fun x0 x1 x2 x3 x4 x5 x6 => wi_all ne (P := fun p => P p.1 p.2.1 p.2.2.1 p.2.2.2.1 p.2.2.2.2.1 p.2.2.2.2.2.1 p.2.2.2.2.2.2) h (x0, x1, x2, x3, x4, x5, x6)
noncomputable def wi8 {α β γ δ ε ζ η θ : Type} (ne : Nonempty (α × β × γ × δ × ε × ζ × η × θ)) (P : α → β → γ → δ → ε → ζ → η → θ → Prop) : α × β × γ × δ × ε × ζ × η × θ := wi ne (fun p => P p.1 p.2.1 p.2.2.1 p.2.2.2.1 p.2.2.2.2.1 p.2.2.2.2.2.1 p.2.2.2.2.2.2.1 p.2.2.2.2.2.2.2)
noncomputable def Oc8 {α β γ δ ε ζ η θ : Type} (x0 : α) (x1 : β) (x2 : γ) (x3 : δ) (x4 : ε) (x5 : ζ) (x6 : η) (x7 : θ) (p : Prop) : Prop := p
theorem wi8_all {α β γ δ ε ζ η θ : Type} (ne : Nonempty (α × β × γ × δ × ε × ζ × η × θ)) {P : α → β → γ → δ → ε → ζ → η → θ → Prop} (h : Oc8 (wi8 ne P).1 (wi8 ne P).2.1 (wi8 ne P).2.2.1 (wi8 ne P).2.2.2.1 (wi8 ne P).2.2.2.2.1 (wi8 ne P).2.2.2.2.2.1 (wi8 ne P).2.2.2.2.2.2.1 (wi8 ne P).2.2.2.2.2.2.2 (P (wi8 ne P).1 (wi8 ne P).2.1 (wi8 ne P).2.2.1 (wi8 ne P).2.2.2.1 (wi8 ne P).2.2.2.2.1 (wi8 ne P).2.2.2.2.2.1 (wi8 ne P).2.2.2.2.2.2.1 (wi8 ne P).2.2.2.2.2.2.2)) : ∀ x0 x1 x2 x3 x4 x5 x6 x7, P x0 x1 x2 x3 x4 x5 x6 x7 := fun x0 x1 x2 x3 x4 x5 x6 x7 => wi_all ne (P := fun p => P p.1 p.2.1 p.2.2.1 p.2.2.2.1 p.2.2.2.2.1 p.2.2.2.2.2.1 p.2.2.2.2.2.2.1 p.2.2.2.2.2.2.2) h (x0, x1, x2, x3, x4, x5, x6, x7)
theorem wi1_al {α : Type} (hα : Nonempty α) {P : α → Prop} (h : P (wi hα P)) : ∀ y : α, P y := fun y => Classical.choose_spec (drinkU hα P) h y
theorem wi2_al {α β : Type} (ne : Nonempty (α × β)) {P : α → β → Prop} (h : P (wi2 ne P).1 (wi2 ne P).2) : ∀ x0 x1, P x0 x1 := wi2_all ne h
theorem wi3_al {α β γ : Type} (ne : Nonempty (α × β × γ)) {P : α → β → γ → Prop} (h : P (wi3 ne P).1 (wi3 ne P).2.1 (wi3 ne P).2.2) : ∀ x0 x1 x2, P x0 x1 x2 := wi3_all ne h
theorem wi4_al {α β γ δ : Type} (ne : Nonempty (α × β × γ × δ)) {P : α → β → γ → δ → Prop} (h : P (wi4 ne P).1 (wi4 ne P).2.1 (wi4 ne P).2.2.1 (wi4 ne P).2.2.2) : ∀ x0 x1 x2 x3, P x0 x1 x2 x3 := wi4_all ne h
theorem wi5_al {α β γ δ ε : Type} (ne : Nonempty (α × β × γ × δ × ε)) {P : α → β → γ → δ → ε → Prop} (h : P (wi5 ne P).1 (wi5 ne P).2.1 (wi5 ne P).2.2.1 (wi5 ne P).2.2.2.1 (wi5 ne P).2.2.2.2) : ∀ x0 x1 x2 x3 x4, P x0 x1 x2 x3 x4 := wi5_all ne h
theorem wi6_al {α β γ δ ε ζ : Type} (ne : Nonempty (α × β × γ × δ × ε × ζ)) {P : α → β → γ → δ → ε → ζ → Prop} (h : P (wi6 ne P).1 (wi6 ne P).2.1 (wi6 ne P).2.2.1 (wi6 ne P).2.2.2.1 (wi6 ne P).2.2.2.2.1 (wi6 ne P).2.2.2.2.2) : ∀ x0 x1 x2 x3 x4 x5, P x0 x1 x2 x3 x4 x5 := wi6_all ne h
theorem wi7_al {α β γ δ ε ζ η : Type} (ne : Nonempty (α × β × γ × δ × ε × ζ × η)) {P : α → β → γ → δ → ε → ζ → η → Prop} (h : P (wi7 ne P).1 (wi7 ne P).2.1 (wi7 ne P).2.2.1 (wi7 ne P).2.2.2.1 (wi7 ne P).2.2.2.2.1 (wi7 ne P).2.2.2.2.2.1 (wi7 ne P).2.2.2.2.2.2) : ∀ x0 x1 x2 x3 x4 x5 x6, P x0 x1 x2 x3 x4 x5 x6 := wi7_all ne h
theorem wi8_al {α β γ δ ε ζ η θ : Type} (ne : Nonempty (α × β × γ × δ × ε × ζ × η × θ)) {P : α → β → γ → δ → ε → ζ → η → θ → Prop} (h : P (wi8 ne P).1 (wi8 ne P).2.1 (wi8 ne P).2.2.1 (wi8 ne P).2.2.2.1 (wi8 ne P).2.2.2.2.1 (wi8 ne P).2.2.2.2.2.1 (wi8 ne P).2.2.2.2.2.2.1 (wi8 ne P).2.2.2.2.2.2.2) : ∀ x0 x1 x2 x3 x4 x5 x6 x7, P x0 x1 x2 x3 x4 x5 x6 x7 := wi8_all ne h
noncomputable def Ap1 {α : Type} (P : α → Prop) (x0 : α) : Prop := P x0
@[reducible] def Al1 {α : Type} (P : α → Prop) : Prop := ∀ x0, Ap1 P x0
theorem ap1 {α : Type} {P : α → Prop} {x0 : α} (h : P x0) : Ap1 P x0 := h
theorem wi1_ap {α : Type} (ne : Nonempty (α)) {P : α → Prop} (h : Ap1 P (wi ne P)) : ∀ x0, P x0 := wi1_al ne h
noncomputable def Ap2 {α β : Type} (P : α → β → Prop) (x0 : α) (x1 : β) : Prop := P x0 x1
@[reducible] def Al2 {α β : Type} (P : α → β → Prop) : Prop := ∀ x0 x1, Ap2 P x0 x1
theorem ap2 {α β : Type} {P : α → β → Prop} {x0 : α} {x1 : β} (h : P x0 x1) : Ap2 P x0 x1 := h
theorem wi2_ap {α β : Type} (ne : Nonempty (α × β)) {P : α → β → Prop} (h : Ap2 P (wi2 ne P).1 (wi2 ne P).2) : ∀ x0 x1, P x0 x1 := wi2_al ne h
noncomputable def Ap3 {α β γ : Type} (P : α → β → γ → Prop) (x0 : α) (x1 : β) (x2 : γ) : Prop := P x0 x1 x2
@[reducible] def Al3 {α β γ : Type} (P : α → β → γ → Prop) : Prop := ∀ x0 x1 x2, Ap3 P x0 x1 x2
theorem ap3 {α β γ : Type} {P : α → β → γ → Prop} {x0 : α} {x1 : β} {x2 : γ} (h : P x0 x1 x2) : Ap3 P x0 x1 x2 := h
theorem wi3_ap {α β γ : Type} (ne : Nonempty (α × β × γ)) {P : α → β → γ → Prop} (h : Ap3 P (wi3 ne P).1 (wi3 ne P).2.1 (wi3 ne P).2.2) : ∀ x0 x1 x2, P x0 x1 x2 := wi3_al ne h
noncomputable def Ap4 {α β γ δ : Type} (P : α → β → γ → δ → Prop) (x0 : α) (x1 : β) (x2 : γ) (x3 : δ) : Prop := P x0 x1 x2 x3
@[reducible] def Al4 {α β γ δ : Type} (P : α → β → γ → δ → Prop) : Prop := ∀ x0 x1 x2 x3, Ap4 P x0 x1 x2 x3
theorem ap4 {α β γ δ : Type} {P : α → β → γ → δ → Prop} {x0 : α} {x1 : β} {x2 : γ} {x3 : δ} (h : P x0 x1 x2 x3) : Ap4 P x0 x1 x2 x3 := h
theorem wi4_ap {α β γ δ : Type} (ne : Nonempty (α × β × γ × δ)) {P : α → β → γ → δ → Prop} (h : Ap4 P (wi4 ne P).1 (wi4 ne P).2.1 (wi4 ne P).2.2.1 (wi4 ne P).2.2.2) : ∀ x0 x1 x2 x3, P x0 x1 x2 x3 := wi4_al ne h
noncomputable def Ap5 {α β γ δ ε : Type} (P : α → β → γ → δ → ε → Prop) (x0 : α) (x1 : β) (x2 : γ) (x3 : δ) (x4 : ε) : Prop := P x0 x1 x2 x3 x4
@[reducible] def Al5 {α β γ δ ε : Type} (P : α → β → γ → δ → ε → Prop) : Prop := ∀ x0 x1 x2 x3 x4, Ap5 P x0 x1 x2 x3 x4
theorem ap5 {α β γ δ ε : Type} {P : α → β → γ → δ → ε → Prop} {x0 : α} {x1 : β} {x2 : γ} {x3 : δ} {x4 : ε} (h : P x0 x1 x2 x3 x4) : Ap5 P x0 x1 x2 x3 x4 := h
theorem wi5_ap {α β γ δ ε : Type} (ne : Nonempty (α × β × γ × δ × ε)) {P : α → β → γ → δ → ε → Prop} (h : Ap5 P (wi5 ne P).1 (wi5 ne P).2.1 (wi5 ne P).2.2.1 (wi5 ne P).2.2.2.1 (wi5 ne P).2.2.2.2) : ∀ x0 x1 x2 x3 x4, P x0 x1 x2 x3 x4 := wi5_al ne h
noncomputable def Ap6 {α β γ δ ε ζ : Type} (P : α → β → γ → δ → ε → ζ → Prop) (x0 : α) (x1 : β) (x2 : γ) (x3 : δ) (x4 : ε) (x5 : ζ) : Prop := P x0 x1 x2 x3 x4 x5
@[reducible] def Al6 {α β γ δ ε ζ : Type} (P : α → β → γ → δ → ε → ζ → Prop) : Prop := ∀ x0 x1 x2 x3 x4 x5, Ap6 P x0 x1 x2 x3 x4 x5
theorem ap6 {α β γ δ ε ζ : Type} {P : α → β → γ → δ → ε → ζ → Prop} {x0 : α} {x1 : β} {x2 : γ} {x3 : δ} {x4 : ε} {x5 : ζ} (h : P x0 x1 x2 x3 x4 x5) : Ap6 P x0 x1 x2 x3 x4 x5 := h
theorem wi6_ap {α β γ δ ε ζ : Type} (ne : Nonempty (α × β × γ × δ × ε × ζ)) {P : α → β → γ → δ → ε → ζ → Prop} (h : Ap6 P (wi6 ne P).1 (wi6 ne P).2.1 (wi6 ne P).2.2.1 (wi6 ne P).2.2.2.1 (wi6 ne P).2.2.2.2.1 (wi6 ne P).2.2.2.2.2) : ∀ x0 x1 x2 x3 x4 x5, P x0 x1 x2 x3 x4 x5 := wi6_al ne h
noncomputable def Ap7 {α β γ δ ε ζ η : Type} (P : α → β → γ → δ → ε → ζ → η → Prop) (x0 : α) (x1 : β) (x2 : γ) (x3 : δ) (x4 : ε) (x5 : ζ) (x6 : η) : Prop := P x0 x1 x2 x3 x4 x5 x6
@[reducible] def Al7 {α β γ δ ε ζ η : Type} (P : α → β → γ → δ → ε → ζ → η → Prop) : Prop := ∀ x0 x1 x2 x3 x4 x5 x6, Ap7 P x0 x1 x2 x3 x4 x5 x6
theorem ap7 {α β γ δ ε ζ η : Type} {P : α → β → γ → δ → ε → ζ → η → Prop} {x0 : α} {x1 : β} {x2 : γ} {x3 : δ} {x4 : ε} {x5 : ζ} {x6 : η} (h : P x0 x1 x2 x3 x4 x5 x6) : Ap7 P x0 x1 x2 x3 x4 x5 x6 := h
theorem wi7_ap {α β γ δ ε ζ η : Type} (ne : Nonempty (α × β × γ × δ × ε × ζ × η)) {P : α → β → γ → δ → ε → ζ → η → Prop} (h : Ap7 P (wi7 ne P).1 (wi7 ne P).2.1 (wi7 ne P).2.2.1 (wi7 ne P).2.2.2.1 (wi7 ne P).2.2.2.2.1 (wi7 ne P).2.2.2.2.2.1 (wi7 ne P).2.2.2.2.2.2) : ∀ x0 x1 x2 x3 x4 x5 x6, P x0 x1 x2 x3 x4 x5 x6 := wi7_al ne h
noncomputable def Ap8 {α β γ δ ε ζ η θ : Type} (P : α → β → γ → δ → ε → ζ → η → θ → Prop) (x0 : α) (x1 : β) (x2 : γ) (x3 : δ) (x4 : ε) (x5 : ζ) (x6 : η) (x7 : θ) : Prop := P x0 x1 x2 x3 x4 x5 x6 x7
@[reducible] def Al8 {α β γ δ ε ζ η θ : Type} (P : α → β → γ → δ → ε → ζ → η → θ → Prop) : Prop := ∀ x0 x1 x2 x3 x4 x5 x6 x7, Ap8 P x0 x1 x2 x3 x4 x5 x6 x7
theorem ap8 {α β γ δ ε ζ η θ : Type} {P : α → β → γ → δ → ε → ζ → η → θ → Prop} {x0 : α} {x1 : β} {x2 : γ} {x3 : δ} {x4 : ε} {x5 : ζ} {x6 : η} {x7 : θ} (h : P x0 x1 x2 x3 x4 x5 x6 x7) : Ap8 P x0 x1 x2 x3 x4 x5 x6 x7 := h
theorem wi8_ap {α β γ δ ε ζ η θ : Type} (ne : Nonempty (α × β × γ × δ × ε × ζ × η × θ)) {P : α → β → γ → δ → ε → ζ → η → θ → Prop} (h : Ap8 P (wi8 ne P).1 (wi8 ne P).2.1 (wi8 ne P).2.2.1 (wi8 ne P).2.2.2.1 (wi8 ne P).2.2.2.2.1 (wi8 ne P).2.2.2.2.2.1 (wi8 ne P).2.2.2.2.2.2.1 (wi8 ne P).2.2.2.2.2.2.2) : ∀ x0 x1 x2 x3 x4 x5 x6 x7, P x0 x1 x2 x3 x4 x5 x6 x7 := wi8_al ne h
theorem tl9 {α : Type} {P : α → Prop} {a : α} {l : List α} (h : ∀ q ∈ a :: l, P q) : ∀ q ∈ l, P q := fun q hq => h q (.tail _ hq)
theorem tla9 {α : Type} {P : α → Prop} {a : α} {l r : List α} (h : ∀ q ∈ (a :: l) ++ r, P q) : ∀ q ∈ l ++ r, P q := fun q hq => h q (.tail _ hq)
theorem tln9 {α : Type} {P : α → Prop} {r : List α} (h : ∀ q ∈ [] ++ r, P q) : ∀ q ∈ r, P q := h
noncomputable def wi48 {t0 t1 t2 t3 t4 t5 t6 t7 t8 t9 t10 t11 t12 t13 t14 t15 t16 t17 t18 t19 t20 t21 t22 t23 t24 t25 t26 t27 t28 t29 t30 t31 t32 t33 t34 t35 t36 t37 t38 t39 t40 t41 t42 t43 t44 t45 t46 t47 : Type} (ne : Nonempty (t0 × t1 × t2 × t3 × t4 × t5 × t6 × t7 × t8 × t9 × t10 × t11 × t12 × t13 × t14 × t15 × t16 × t17 × t18 × t19 × t20 × t21 × t22 × t23 × t24 × t25 × t26 × t27 × t28 × t29 × t30 × t31 × t32 × t33 × t34 × t35 × t36 × t37 × t38 × t39 × t40 × t41 × t42 × t43 × t44 × t45 × t46 × t47)) (P : t0 → t1 → t2 → t3 → t4 → t5 → t6 → t7 → t8 → t9 → t10 → t11 → t12 → t13 → t14 → t15 → t16 → t17 → t18 → t19 → t20 → t21 → t22 → t23 → t24 → t25 → t26 → t27 → t28 → t29 → t30 → t31 → t32 → t33 → t34 → t35 → t36 → t37 → t38 → t39 → t40 → t41 → t42 → t43 → t44 → t45 → t46 → t47 → Prop) : t0 × t1 × t2 × t3 × t4 × t5 × t6 × t7 × t8 × t9 × t10 × t11 × t12 × t13 × t14 × t15 × t16 × t17 × t18 × t19 × t20 × t21 × t22 × t23 × t24 × t25 × t26 × t27 × t28 × t29 × t30 × t31 × t32 × t33 × t34 × t35 × t36 × t37 × t38 × t39 × t40 × t41 × t42 × t43 × t44 × t45 × t46 × t47 := wi ne (fun p => P p.1 p.2.1 p.2.2.1 p.2.2.2.1 p.2.2.2.2.1 p.2.2.2.2.2.1 p.2.2.2.2.2.2.1 p.2.2.2.2.2.2.2.1 p.2.2.2.2.2.2.2.2.1 p.2.2.2.2.2.2.2.2.2.1 p.2.2.2.2.2.2.2.2.2.2.1 p.2.2.2.2.2.2.2.2.2.2.2.1 p.2.2.2.2.2.2.2.2.2.2.2.2.1 p.2.2.2.2.2.2.2.2.2.2.2.2.2.1 p.2.2.2.2.2.2.2.2.2.2.2.2.2.2.1 p.2.2.2.2.2.2.2.2.2.2.2.2.2.2.2.1 p.2.2.2.2.2.2.2.2.2.2.2.2.2.2.2.2.1 p.2.2.2.2.2.2.2.2.2.2.2.2.2.2.2.2.2.1 p.2.2.2.2.2.2.2.2.2.2.2.2.2.2.2.2.2.2.1 p.2.2.2.2.2.2.2.2.2.2.2.2.2.2.2.2.2.2.2.1 p.2.2.2.2.2.2.2.2.2.2.2.2.2.2.2.2.2.2.2.2.1 p.2.2.2.2.2.2.2.2.2.2.2.2.2.2.2.2.2.2.2.2.2.1 p.2.2.2.2.2.2.2.2.2.2.2.2.2.2.2.2.2.2.2.2.2.2.1 p.2.2.2.2.2.2.2.2.2.2.2.2.2.2.2.2.2.2.2.2.2.2.2.1 p.2.2.2.2.2.2.2.2.2.2.2.2.2.2.2.2.2.2.2.2.2.2.2.2.1 p.2.2.2.2.2.2.2.2.2.2.2.2.2.2.2.2.2.2.2.2.2.2.2.2.2.1 p.2.2.2.2.2.2.2.2.2.2.2.2.2.2.2.2.2.2.2.2.2.2.2.2.2.2.1 p.2.2.2.2.2.2.2.2.2.2.2.2.2.2.2.2.2.2.2.2.2.2.2.2.2.2.2.1 p.2.2.2.2.2.2.2.2.2.2.2.2.2.2.2.2.2.2.2.2.2.2.2.2.2.2.2.2.1 p.2.2.2.2.2.2.2.2.2.2.2.2.2.2.2.2.2.2.2.2.2.2.2.2.2.2.2.2.2.1 p.2.2.2.2.2.2.2.2.2.2.2.2.2.2.2.2.2.2.2.2.2.2.2.2.2.2.2.2.2.2.1 p.2.2.2.2.2.2.2.2.2.2.2.2.2.2.2.2.2.2.2.2.2.2.2.2.2.2.2.2.2.2.2.1 p.2.2.2.2.2.2.2.2.2.2.2.2.2.2.2.2.2.2.2.2.2.2.2.2.2.2.2.2.2.2.2.2.1 p.2.2.2.2.2.2.2.2.2.2.2.2.2.2.2.2.2.2.2.2.2.2.2.2.2.2.2.2.2.2.2.2.2.1 p.2.2.2.2.2.2.2.2.2.2.2.2.2.2.2.2.2.2.2.2.2.2.2.2.2.2.2.2.2.2.2.2.2.2.1 p.2.2.2.2.2.2.2.2.2.2.2.2.2.2.2.2.2.2.2.2.2.2.2.2.2.2.2.2.2.2.2.2.2.2.2.1 p.2.2.2.2.2.2.2.2.2.2.2.2.2.2.2.2.2.2.2.2.2.2.2.2.2.2.2.2.2.2.2.2.2.2.2.2.1 p.2.2.2.2.2.2.2.2.2.2.2.2.2.2.2.2.2.2.2.2.2.2.2.2.2.2.2.2.2.2.2.2.2.2.2.2.2.1 p.2.2.2.2.2.2.2.2.2.2.2.2.2.2.2.2.2.2.2.2.2.2.2.2.2.2.2.2.2.2.2.2.2.2.2.2.2.2.1 p.2.2.2.2.2.2.2.2.2.2.2.2.2.2.2.2.2.2.2.2.2.2.2.2.2.2.2.2.2.2.2.2.2.2.2.2.2.2.2.1 p.2.2.2.2.2.2.2.2.2.2.2.2.2.2.2.2.2.2.2.2.2.2.2.2.2.2.2.2.2.2.2.2.2.2.2.2.2.2.2.2.1 p.2.2.2.2.2.2.2.2.2.2.2.2.2.2.2.2.2.2.2.2.2.2.2.2.2.2.2.2.2.2.2.2.2.2.2.2.2.2.2.2.2.1 p.2.2.2.2.2.2.2.2.2.2.2.2.2.2.2.2.2.2.2.2.2.2.2.2.2.2.2.2.2.2.2.2.2.2.2.2.2.2.2.2.2.2.1 p.2.2.2.2.2.2.2.2.2.2.2.2.2.2.2.2.2.2.2.2.2.2.2.2.2.2.2.2.2.2.2.2.2.2.2.2.2.2.2.2.2.2.2.1 p.2.2.2.2.2.2.2.2.2.2.2.2.2.2.2.2.2.2.2.2.2.2.2.2.2.2.2.2.2.2.2.2.2.2.2.2.2.2.2.2.2.2.2.2.1 p.2.2.2.2.2.2.2.2.2.2.2.2.2.2.2.2.2.2.2.2.2.2.2.2.2.2.2.2.2.2.2.2.2.2.2.2.2.2.2.2.2.2.2.2.2.1 p.2.2.2.2.2.2.2.2.2.2.2.2.2.2.2.2.2.2.2.2.2.2.2.2.2.2.2.2.2.2.2.2.2.2.2.2.2.2.2.2.2.2.2.2.2.2.1 p.2.2.2.2.2.2.2.2.2.2.2.2.2.2.2.2.2.2.2.2.2.2.2.2.2.2.2.2.2.2.2.2.2.2.2.2.2.2.2.2.2.2.2.2.2.2.2)
noncomputable def Ap48 {t0 t1 t2 t3 t4 t5 t6 t7 t8 t9 t10 t11 t12 t13 t14 t15 t16 t17 t18 t19 t20 t21 t22 t23 t24 t25 t26 t27 t28 t29 t30 t31 t32 t33 t34 t35 t36 t37 t38 t39 t40 t41 t42 t43 t44 t45 t46 t47 : Type} (P : t0 → t1 → t2 → t3 → t4 → t5 → t6 → t7 → t8 → t9 → t10 → t11 → t12 → t13 → t14 → t15 → t16 → t17 → t18 → t19 → t20 → t21 → t22 → t23 → t24 → t25 → t26 → t27 → t28 → t29 → t30 → t31 → t32 → t33 → t34 → t35 → t36 → t37 → t38 → t39 → t40 → t41 → t42 → t43 → t44 → t45 → t46 → t47 → Prop) (x0 : t0) (x1 : t1) (x2 : t2) (x3 : t3) (x4 : t4) (x5 : t5) (x6 : t6) (x7 : t7) (x8 : t8) (x9 : t9) (x10 : t10) (x11 : t11) (x12 : t12) (x13 : t13) (x14 : t14) (x15 : t15) (x16 : t16) (x17 : t17) (x18 : t18) (x19 : t19) (x20 : t20) (x21 : t21) (x22 : t22) (x23 : t23) (x24 : t24) (x25 : t25) (x26 : t26) (x27 : t27) (x28 : t28) (x29 : t29) (x30 : t30) (x31 : t31) (x32 : t32) (x33 : t33) (x34 : t34) (x35 : t35) (x36 : t36) (x37 : t37) (x38 : t38) (x39 : t39) (x40 : t40) (x41 : t41) (x42 : t42) (x43 : t43) (x44 : t44) (x45 : t45) (x46 : t46) (x47 : t47) : Prop := P x0 x1 x2 x3 x4 x5 x6 x7 x8 x9 x10 x11 x12 x13 x14 x15 x16 x17 x18 x19 x20 x21 x22 x23 x24 x25 x26 x27 x28 x29 x30 x31 x32 x33 x34 x35 x36 x37 x38 x39 x40 x41 x42 x43 x44 x45 x46 x47
@[reducible] def Al48 {t0 t1 t2 t3 t4 t5 t6 t7 t8 t9 t10 t11 t12 t13 t14 t15 t16 t17 t18 t19 t20 t21 t22 t23 t24 t25 t26 t27 t28 t29 t30 t31 t32 t33 t34 t35 t36 t37 t38 t39 t40 t41 t42 t43 t44 t45 t46 t47 : Type} (P : t0 → t1 → t2 → t3 → t4 → t5 → t6 → t7 → t8 → t9 → t10 → t11 → t12 → t13 → t14 → t15 → t16 → t17 → t18 → t19 → t20 → t21 → t22 → t23 → t24 → t25 → t26 → t27 → t28 → t29 → t30 → t31 → t32 → t33 → t34 → t35 → t36 → t37 → t38 → t39 → t40 → t41 → t42 → t43 → t44 → t45 → t46 → t47 → Prop) : Prop := ∀ x0 x1 x2 x3 x4 x5 x6 x7 x8 x9 x10 x11 x12 x13 x14 x15 x16 x17 x18 x19 x20 x21 x22 x23 x24 x25 x26 x27 x28 x29 x30 x31 x32 x33 x34 x35 x36 x37 x38 x39 x40 x41 x42 x43 x44 x45 x46 x47, Ap48 P x0 x1 x2 x3 x4 x5 x6 x7 x8 x9 x10 x11 x12 x13 x14 x15 x16 x17 x18 x19 x20 x21 x22 x23 x24 x25 x26 x27 x28 x29 x30 x31 x32 x33 x34 x35 x36 x37 x38 x39 x40 x41 x42 x43 x44 x45 x46 x47
theorem ap48 {t0 t1 t2 t3 t4 t5 t6 t7 t8 t9 t10 t11 t12 t13 t14 t15 t16 t17 t18 t19 t20 t21 t22 t23 t24 t25 t26 t27 t28 t29 t30 t31 t32 t33 t34 t35 t36 t37 t38 t39 t40 t41 t42 t43 t44 t45 t46 t47 : Type} {P : t0 → t1 → t2 → t3 → t4 → t5 → t6 → t7 → t8 → t9 → t10 → t11 → t12 → t13 → t14 → t15 → t16 → t17 → t18 → t19 → t20 → t21 → t22 → t23 → t24 → t25 → t26 → t27 → t28 → t29 → t30 → t31 → t32 → t33 → t34 → t35 → t36 → t37 → t38 → t39 → t40 → t41 → t42 → t43 → t44 → t45 → t46 → t47 → Prop} {x0 : t0} {x1 : t1} {x2 : t2} {x3 : t3} {x4 : t4} {x5 : t5} {x6 : t6} {x7 : t7} {x8 : t8} {x9 : t9} {x10 : t10} {x11 : t11} {x12 : t12} {x13 : t13} {x14 : t14} {x15 : t15} {x16 : t16} {x17 : t17} {x18 : t18} {x19 : t19} {x20 : t20} {x21 : t21} {x22 : t22} {x23 : t23} {x24 : t24} {x25 : t25} {x26 : t26} {x27 : t27} {x28 : t28} {x29 : t29} {x30 : t30} {x31 : t31} {x32 : t32} {x33 : t33} {x34 : t34} {x35 : t35} {x36 : t36} {x37 : t37} {x38 : t38} {x39 : t39} {x40 : t40} {x41 : t41} {x42 : t42} {x43 : t43} {x44 : t44} {x45 : t45} {x46 : t46} {x47 : t47} (h : P x0 x1 x2 x3 x4 x5 x6 x7 x8 x9 x10 x11 x12 x13 x14 x15 x16 x17 x18 x19 x20 x21 x22 x23 x24 x25 x26 x27 x28 x29 x30 x31 x32 x33 x34 x35 x36 x37 x38 x39 x40 x41 x42 x43 x44 x45 x46 x47) : Ap48 P x0 x1 x2 x3 x4 x5 x6 x7 x8 x9 x10 x11 x12 x13 x14 x15 x16 x17 x18 x19 x20 x21 x22 x23 x24 x25 x26 x27 x28 x29 x30 x31 x32 x33 x34 x35 x36 x37 x38 x39 x40 x41 x42 x43 x44 x45 x46 x47 := h
theorem wi48_ap {t0 t1 t2 t3 t4 t5 t6 t7 t8 t9 t10 t11 t12 t13 t14 t15 t16 t17 t18 t19 t20 t21 t22 t23 t24 t25 t26 t27 t28 t29 t30 t31 t32 t33 t34 t35 t36 t37 t38 t39 t40 t41 t42 t43 t44 t45 t46 t47 : Type} (ne : Nonempty (t0 × t1 × t2 × t3 × t4 × t5 × t6 × t7 × t8 × t9 × t10 × t11 × t12 × t13 × t14 × t15 × t16 × t17 × t18 × t19 × t20 × t21 × t22 × t23 × t24 × t25 × t26 × t27 × t28 × t29 × t30 × t31 × t32 × t33 × t34 × t35 × t36 × t37 × t38 × t39 × t40 × t41 × t42 × t43 × t44 × t45 × t46 × t47)) {P : t0 → t1 → t2 → t3 → t4 → t5 → t6 → t7 → t8 → t9 → t10 → t11 → t12 → t13 → t14 → t15 → t16 → t17 → t18 → t19 → t20 → t21 → t22 → t23 → t24 → t25 → t26 → t27 → t28 → t29 → t30 → t31 → t32 → t33 → t34 → t35 → t36 → t37 → t38 → t39 → t40 → t41 → t42 → t43 → t44 → t45 → t46 → t47 → Prop} (h : Ap48 P (wi48 ne P).1 (wi48 ne P).2.1 (wi48 ne P).2.2.1 (wi48 ne P).2.2.2.1 (wi48 ne P).2.2.2.2.1 (wi48 ne P).2.2.2.2.2.1 (wi48 ne P).2.2.2.2.2.2.1 (wi48 ne P).2.2.2.2.2.2.2.1 (wi48 ne P).2.2.2.2.2.2.2.2.1 (wi48 ne P).2.2.2.2.2.2.2.2.2.1 (wi48 ne P).2.2.2.2.2.2.2.2.2.2.1 (wi48 ne P).2.2.2.2.2.2.2.2.2.2.2.1 (wi48 ne P).2.2.2.2.2.2.2.2.2.2.2.2.1 (wi48 ne P).2.2.2.2.2.2.2.2.2.2.2.2.2.1 (wi48 ne P).2.2.2.2.2.2.2.2.2.2.2.2.2.2.1 (wi48 ne P).2.2.2.2.2.2.2.2.2.2.2.2.2.2.2.1 (wi48 ne P).2.2.2.2.2.2.2.2.2.2.2.2.2.2.2.2.1 (wi48 ne P).2.2.2.2.2.2.2.2.2.2.2.2.2.2.2.2.2.1 (wi48 ne P).2.2.2.2.2.2.2.2.2.2.2.2.2.2.2.2.2.2.1 (wi48 ne P).2.2.2.2.2.2.2.2.2.2.2.2.2.2.2.2.2.2.2.1 (wi48 ne P).2.2.2.2.2.2.2.2.2.2.2.2.2.2.2.2.2.2.2.2.1 (wi48 ne P).2.2.2.2.2.2.2.2.2.2.2.2.2.2.2.2.2.2.2.2.2.1 (wi48 ne P).2.2.2.2.2.2.2.2.2.2.2.2.2.2.2.2.2.2.2.2.2.2.1 (wi48 ne P).2.2.2.2.2.2.2.2.2.2.2.2.2.2.2.2.2.2.2.2.2.2.2.1 (wi48 ne P).2.2.2.2.2.2.2.2.2.2.2.2.2.2.2.2.2.2.2.2.2.2.2.2.1 (wi48 ne P).2.2.2.2.2.2.2.2.2.2.2.2.2.2.2.2.2.2.2.2.2.2.2.2.2.1 (wi48 ne P).2.2.2.2.2.2.2.2.2.2.2.2.2.2.2.2.2.2.2.2.2.2.2.2.2.2.1 (wi48 ne P).2.2.2.2.2.2.2.2.2.2.2.2.2.2.2.2.2.2.2.2.2.2.2.2.2.2.2.1 (wi48 ne P).2.2.2.2.2.2.2.2.2.2.2.2.2.2.2.2.2.2.2.2.2.2.2.2.2.2.2.2.1 (wi48 ne P).2.2.2.2.2.2.2.2.2.2.2.2.2.2.2.2.2.2.2.2.2.2.2.2.2.2.2.2.2.1 (wi48 ne P).2.2.2.2.2.2.2.2.2.2.2.2.2.2.2.2.2.2.2.2.2.2.2.2.2.2.2.2.2.2.1 (wi48 ne P).2.2.2.2.2.2.2.2.2.2.2.2.2.2.2.2.2.2.2.2.2.2.2.2.2.2.2.2.2.2.2.1 (wi48 ne P).2.2.2.2.2.2.2.2.2.2.2.2.2.2.2.2.2.2.2.2.2.2.2.2.2.2.2.2.2.2.2.2.1 (wi48 ne P).2.2.2.2.2.2.2.2.2.2.2.2.2.2.2.2.2.2.2.2.2.2.2.2.2.2.2.2.2.2.2.2.2.1 (wi48 ne P).2.2.2.2.2.2.2.2.2.2.2.2.2.2.2.2.2.2.2.2.2.2.2.2.2.2.2.2.2.2.2.2.2.2.1 (wi48 ne P).2.2.2.2.2.2.2.2.2.2.2.2.2.2.2.2.2.2.2.2.2.2.2.2.2.2.2.2.2.2.2.2.2.2.2.1 (wi48 ne P).2.2.2.2.2.2.2.2.2.2.2.2.2.2.2.2.2.2.2.2.2.2.2.2.2.2.2.2.2.2.2.2.2.2.2.2.1 (wi48 ne P).2.2.2.2.2.2.2.2.2.2.2.2.2.2.2.2.2.2.2.2.2.2.2.2.2.2.2.2.2.2.2.2.2.2.2.2.2.1 (wi48 ne P).2.2.2.2.2.2.2.2.2.2.2.2.2.2.2.2.2.2.2.2.2.2.2.2.2.2.2.2.2.2.2.2.2.2.2.2.2.2.1 (wi48 ne P).2.2.2.2.2.2.2.2.2.2.2.2.2.2.2.2.2.2.2.2.2.2.2.2.2.2.2.2.2.2.2.2.2.2.2.2.2.2.2.1 (wi48 ne P).2.2.2.2.2.2.2.2.2.2.2.2.2.2.2.2.2.2.2.2.2.2.2.2.2.2.2.2.2.2.2.2.2.2.2.2.2.2.2.2.1 (wi48 ne P).2.2.2.2.2.2.2.2.2.2.2.2.2.2.2.2.2.2.2.2.2.2.2.2.2.2.2.2.2.2.2.2.2.2.2.2.2.2.2.2.2.1 (wi48 ne P).2.2.2.2.2.2.2.2.2.2.2.2.2.2.2.2.2.2.2.2.2.2.2.2.2.2.2.2.2.2.2.2.2.2.2.2.2.2.2.2.2.2.1 (wi48 ne P).2.2.2.2.2.2.2.2.2.2.2.2.2.2.2.2.2.2.2.2.2.2.2.2.2.2.2.2.2.2.2.2.2.2.2.2.2.2.2.2.2.2.2.1 (wi48 ne P).2.2.2.2.2.2.2.2.2.2.2.2.2.2.2.2.2.2.2.2.2.2.2.2.2.2.2.2.2.2.2.2.2.2.2.2.2.2.2.2.2.2.2.2.1 (wi48 ne P).2.2.2.2.2.2.2.2.2.2.2.2.2.2.2.2.2.2.2.2.2.2.2.2.2.2.2.2.2.2.2.2.2.2.2.2.2.2.2.2.2.2.2.2.2.1 (wi48 ne P).2.2.2.2.2.2.2.2.2.2.2.2.2.2.2.2.2.2.2.2.2.2.2.2.2.2.2.2.2.2.2.2.2.2.2.2.2.2.2.2.2.2.2.2.2.2.1 (wi48 ne P).2.2.2.2.2.2.2.2.2.2.2.2.2.2.2.2.2.2.2.2.2.2.2.2.2.2.2.2.2.2.2.2.2.2.2.2.2.2.2.2.2.2.2.2.2.2.2) : ∀ x0 x1 x2 x3 x4 x5 x6 x7 x8 x9 x10 x11 x12 x13 x14 x15 x16 x17 x18 x19 x20 x21 x22 x23 x24 x25 x26 x27 x28 x29 x30 x31 x32 x33 x34 x35 x36 x37 x38 x39 x40 x41 x42 x43 x44 x45 x46 x47, P x0 x1 x2 x3 x4 x5 x6 x7 x8 x9 x10 x11 x12 x13 x14 x15 x16 x17 x18 x19 x20 x21 x22 x23 x24 x25 x26 x27 x28 x29 x30 x31 x32 x33 x34 x35 x36 x37 x38 x39 x40 x41 x42 x43 x44 x45 x46 x47 := fun x0 x1 x2 x3 x4 x5 x6 x7 x8 x9 x10 x11 x12 x13 x14 x15 x16 x17 x18 x19 x20 x21 x22 x23 x24 x25 x26 x27 x28 x29 x30 x31 x32 x33 x34 x35 x36 x37 x38 x39 x40 x41 x42 x43 x44 x45 x46 x47 => wi1_al ne (P := fun p => P p.1 p.2.1 p.2.2.1 p.2.2.2.1 p.2.2.2.2.1 p.2.2.2.2.2.1 p.2.2.2.2.2.2.1 p.2.2.2.2.2.2.2.1 p.2.2.2.2.2.2.2.2.1 p.2.2.2.2.2.2.2.2.2.1 p.2.2.2.2.2.2.2.2.2.2.1 p.2.2.2.2.2.2.2.2.2.2.2.1 p.2.2.2.2.2.2.2.2.2.2.2.2.1 p.2.2.2.2.2.2.2.2.2.2.2.2.2.1 p.2.2.2.2.2.2.2.2.2.2.2.2.2.2.1 p.2.2.2.2.2.2.2.2.2.2.2.2.2.2.2.1 p.2.2.2.2.2.2.2.2.2.2.2.2.2.2.2.2.1 p.2.2.2.2.2.2.2.2.2.2.2.2.2.2.2.2.2.1 p.2.2.2.2.2.2.2.2.2.2.2.2.2.2.2.2.2.2.1 p.2.2.2.2.2.2.2.2.2.2.2.2.2.2.2.2.2.2.2.1 p.2.2.2.2.2.2.2.2.2.2.2.2.2.2.2.2.2.2.2.2.1 p.2.2.2.2.2.2.2.2.2.2.2.2.2.2.2.2.2.2.2.2.2.1 p.2.2.2.2.2.2.2.2.2.2.2.2.2.2.2.2.2.2.2.2.2.2.1 p.2.2.2.2.2.2.2.2.2.2.2.2.2.2.2.2.2.2.2.2.2.2.2.1 p.2.2.2.2.2.2.2.2.2.2.2.2.2.2.2.2.2.2.2.2.2.2.2.2.1 p.2.2.2.2.2.2.2.2.2.2.2.2.2.2.2.2.2.2.2.2.2.2.2.2.2.1 p.2.2.2.2.2.2.2.2.2.2.2.2.2.2.2.2.2.2.2.2.2.2.2.2.2.2.1 p.2.2.2.2.2.2.2.2.2.2.2.2.2.2.2.2.2.2.2.2.2.2.2.2.2.2.2.1 p.2.2.2.2.2.2.2.2.2.2.2.2.2.2.2.2.2.2.2.2.2.2.2.2.2.2.2.2.1 p.2.2.2.2.2.2.2.2.2.2.2.2.2.2.2.2.2.2.2.2.2.2.2.2.2.2.2.2.2.1 p.2.2.2.2.2.2.2.2.2.2.2.2.2.2.2.2.2.2.2.2.2.2.2.2.2.2.2.2.2.2.1 p.2.2.2.2.2.2.2.2.2.2.2.2.2.2.2.2.2.2.2.2.2.2.2.2.2.2.2.2.2.2.2.1 p.2.2.2.2.2.2.2.2.2.2.2.2.2.2.2.2.2.2.2.2.2.2.2.2.2.2.2.2.2.2.2.2.1 p.2.2.2.2.2.2.2.2.2.2.2.2.2.2.2.2.2.2.2.2.2.2.2.2.2.2.2.2.2.2.2.2.2.1 p.2.2.2.2.2.2.2.2.2.2.2.2.2.2.2.2.2.2.2.2.2.2.2.2.2.2.2.2.2.2.2.2.2.2.1 p.2.2.2.2.2.2.2.2.2.2.2.2.2.2.2.2.2.2.2.2.2.2.2.2.2.2.2.2.2.2.2.2.2.2.2.1 p.2.2.2.2.2.2.2.2.2.2.2.2.2.2.2.2.2.2.2.2.2.2.2.2.2.2.2.2.2.2.2.2.2.2.2.2.1 p.2.2.2.2.2.2.2.2.2.2.2.2.2.2.2.2.2.2.2.2.2.2.2.2.2.2.2.2.2.2.2.2.2.2.2.2.2.1 p.2.2.2.2.2.2.2.2.2.2.2.2.2.2.2.2.2.2.2.2.2.2.2.2.2.2.2.2.2.2.2.2.2.2.2.2.2.2.1 p.2.2.2.2.2.2.2.2.2.2.2.2.2.2.2.2.2.2.2.2.2.2.2.2.2.2.2.2.2.2.2.2.2.2.2.2.2.2.2.1 p.2.2.2.2.2.2.2.2.2.2.2.2.2.2.2.2.2.2.2.2.2.2.2.2.2.2.2.2.2.2.2.2.2.2.2.2.2.2.2.2.1 p.2.2.2.2.2.2.2.2.2.2.2.2.2.2.2.2.2.2.2.2.2.2.2.2.2.2.2.2.2.2.2.2.2.2.2.2.2.2.2.2.2.1 p.2.2.2.2.2.2.2.2.2.2.2.2.2.2.2.2.2.2.2.2.2.2.2.2.2.2.2.2.2.2.2.2.2.2.2.2.2.2.2.2.2.2.1 p.2.2.2.2.2.2.2.2.2.2.2.2.2.2.2.2.2.2.2.2.2.2.2.2.2.2.2.2.2.2.2.2.2.2.2.2.2.2.2.2.2.2.2.1 p.2.2.2.2.2.2.2.2.2.2.2.2.2.2.2.2.2.2.2.2.2.2.2.2.2.2.2.2.2.2.2.2.2.2.2.2.2.2.2.2.2.2.2.2.1 p.2.2.2.2.2.2.2.2.2.2.2.2.2.2.2.2.2.2.2.2.2.2.2.2.2.2.2.2.2.2.2.2.2.2.2.2.2.2.2.2.2.2.2.2.2.1 p.2.2.2.2.2.2.2.2.2.2.2.2.2.2.2.2.2.2.2.2.2.2.2.2.2.2.2.2.2.2.2.2.2.2.2.2.2.2.2.2.2.2.2.2.2.2.1 p.2.2.2.2.2.2.2.2.2.2.2.2.2.2.2.2.2.2.2.2.2.2.2.2.2.2.2.2.2.2.2.2.2.2.2.2.2.2.2.2.2.2.2.2.2.2.2) h (x0, x1, x2, x3, x4, x5, x6, x7, x8, x9, x10, x11, x12, x13, x14, x15, x16, x17, x18, x19, x20, x21, x22, x23, x24, x25, x26, x27, x28, x29, x30, x31, x32, x33, x34, x35, x36, x37, x38, x39, x40, x41, x42, x43, x44, x45, x46, x47)
theorem neWorld : Nonempty World := ⟨⟨fun _ _ => 0, { strHash := fun _ => 0, shareClass := fun _ => 0, mergeTok := id, idOf := fun _ => 0, idOfShared := fun _ _ => 0, followText := fun _ => false, idOfImm := fun _ => 0 }⟩⟩
theorem neAround : Nonempty Around := ⟨callerA⟩
theorem neShared : Nonempty Shared := ⟨{}⟩
theorem neHeap : Nonempty Heap := inferInstance
theorem neAddr : Nonempty Addr := inferInstance
theorem neNat : Nonempty Nat := inferInstance
theorem neInt : Nonempty Int := inferInstance
theorem neObj : Nonempty Obj := inferInstance
theorem neValue : Nonempty Value := inferInstance
theorem neTok : Nonempty Tok := inferInstance
theorem neL {α : Type} : Nonempty (List α) := ⟨[]⟩
theorem neO {α : Type} : Nonempty (Option α) := ⟨none⟩
theorem neF {α β : Type} (h : Nonempty β) : Nonempty (α → β) := h.elim fun b => ⟨fun _ => b⟩
theorem pair_all9 {α β : Type} {P : α × β → Prop} (h : ∀ a b, P (a, b)) : ∀ p, P p := fun p => h p.1 p.2
theorem triple_all9 {α β γ : Type} {P : α × β × γ → Prop} (h : ∀ a b c, P (a, b, c)) : ∀ p, P p := fun p => h p.1 p.2.1 p.2.2
theorem opt_cases9 {α : Type} (o : Option α) {G : Prop} (h0 : o = none → G) (h1 : ∀ a, o = some a → G) : G := match o, h0, h1 with
  | none, h0, _ => h0 rfl
  | some a, _, h1 => h1 a rfl
theorem list_cases9 {α : Type} (o : List α) {G : Prop} (h0 : o = [] → G) (h1 : ∀ a l, o = a :: l → G) : G := match o, h0, h1 with
  | [], h0, _ => h0 rfl
  | a :: l, _, h1 => h1 a l rfl
noncomputable def Fd {α : Type} (Q q : α → Shared → Prop) : Prop := ∀ v s, Q v s → q v s
theorem Fd.use {α : Type} {Q q : α → Shared → Prop} (F : Fd Q q) {v : α} {s : Shared} (h : Q v s) : q v s := F v s h
theorem foldQ {α : Type} {M : Model} {A : Around} {T : Sem α} {Q : α → Shared → Prop} {E : Value → Shared → Prop} {s : Shared} (H : ∀ qk ek, Fd Q qk → Fd E ek → wpAny M A T qk ek s) : wpAny M A T Q E s := H Q E (fun _ _ h => h) (fun _ _ h => h)
theorem foldQ1 {α : Type} {M : Model} {A : Around} {T : Sem α} {Q : α → Shared → Prop} {E : Value → Shared → Prop} {s : Shared} (H : ∀ qk, Fd Q qk → wpAny M A T qk E s) : wpAny M A T Q E s := H Q (fun _ _ h => h)
theorem isQ {α : Type} {M : Model} {A : Around} {T : Sem α} {Q q : α → Shared → Prop} {E : Value → Shared → Prop} {s : Shared} (_h : Fd Q q) (H : wpAny M A T q E s) : wpAny M A T q E s := H
end
section --Kn
noncomputable def Boot (w : World) (h : Heap) : Prop := ∀ p ∈ exB w.params, h.get? p.1 = some p.2
section
variable {α : Type} {M : Model} {A : Around} {Q : α → Shared → Prop} {E : Value → Shared → Prop} {s : Shared} {h₀ : Heap} {L : Addr} {m : Str → Option Value} {news news' : List (Addr × Obj)}
theorem n_load {a : Addr} {p : Option Value} {k : Obj → Sem α} {o : Obj} (N : News h₀ L s.heap news) (hm : (a, o) ∈ news) (h : wpAny M A (k o) Q E s) : wpAny M A (.load a p k) Q E s := nd_load (N.get hm) h
theorem n_loadK {K : Frag} {a : Addr} {p : Option Value} {k : Obj → Sem α} {o : Obj} (F : Fr h₀ L s.heap m) (X : K.In h₀) (hm : K.lookup a = some o) (h : wpAny M A (k o) Q E s) : wpAny M A (.load a p k) Q E s := nd_load (F.keep _ _ (X _ _ hm)) h
theorem n_loadB {w : World} {a : Addr} {p : Option Value} {k : Obj → Sem α} {o : Obj} (F : Fr h₀ L s.heap m) (X : Boot w h₀) (hm : (a, o) ∈ exB w.params) (h : wpAny M A (k o) Q E s) : wpAny M A (.load a p k) Q E s := nd_load (F.keep _ _ (X _ hm)) h
theorem n_alloc {o : Obj} {k : Addr → Sem α} (F : Fr h₀ L s.heap m) (N : News h₀ L s.heap news) (hf : o.isFreed = false)
    (h : ∀ a h', Fr h₀ L h' m → News h₀ L h' ((a, o) :: news) → (∀ p ∈ news, p.1 < a) → wpAny M A (k a) Q E { s with heap := h' }) : wpAny M A (.alloc o k) Q E s :=
  nd_alloc (h _ _ (F.push o) (N.push F o hf) fun p hp => Heap.lt_size (N.get hp))
theorem news_upd {h h' : Heap} {d : Addr} {o o' : Obj} (F : Fr h₀ L h m) (N : News h₀ L h news) (U : Upd d o o' news news') (hs : Heap.SameBut d h h') (ho' : h'.get? d = some o') : Fr h₀ L h' m ∧ News h₀ L h' news' := by
  obtain ⟨pre, post, rfl, rfl, h1, h2⟩ := U.split
  have hd := N (d, o) (List.mem_append_right _ (.head _))
  refine ⟨⟨F.ns.sameBut hs (Ne.symm hd.2.1), fun b ob e => (hs.2 b (fun q => ?_)).trans (F.keep b ob e), F.above⟩, ?_⟩
  · rw [q, hd.2.2] at e; cases e
  · intro p hp
    rcases List.mem_append.mp hp with hp | hp
    · exact ⟨(hs.2 _ (h1 p hp)).trans (N p (List.mem_append_left _ hp)).1, (N p (List.mem_append_left _ hp)).2⟩
    · rcases List.mem_cons.mp hp with rfl | hp
      · exact ⟨ho', hd.2⟩
      · exact ⟨(hs.2 _ (h2 p hp)).trans (N p (List.mem_append_right _ (.tail _ hp))).1, (N p (List.mem_append_right _ (.tail _ hp))).2⟩
theorem n_update {d : Addr} {p : Option Value} {f : Obj → Obj} {k : Unit → Sem α} {o o' : Obj} (F : Fr h₀ L s.heap m) (N : News h₀ L s.heap news) (U : Upd d o o' news news') (e : f o = o') (hf : o'.isFreed = false)
    (h : ∀ h', Fr h₀ L h' m → News h₀ L h' news' → wpAny M A (k ()) Q E { s with heap := h' }) : wpAny M A (.update d p f k) Q E s := by
  obtain ⟨pre, post, e1, _, _, _⟩ := U.split
  have ho : s.heap.get? d = some o := N.get (by rw [e1]; exact List.mem_append_right _ (.head _))
  obtain ⟨F', N'⟩ := news_upd F N U (Heap.SameBut.update ..) (by rw [Heap.get?_update_self f ho (by rw [e]; exact hf), e])
  exact wpAny_bind (m := updatePart d p f) (f := k) (wpAny_updatePart ho (h _ F' N'))
theorem n_nsB {p : Program} {loose : List Str} {mean : ExcName → Option Value} {mg mb : Str → Option Value} {x : Str} {v : Value} {Q : Option Value → Shared → Prop} (F : Fr h₀ L s.heap m) (T : Top p loose mean mg mb h₀) (hv : bootBuiltins x = some v) (hn : x ≠ "__name__") (h : Q (some v) s) :
    wpAny M A (nsGet builtinsNs x) Q E s := wpAny_nsGet (T.b.keeps F.keep) (by rw [T.builtins x hn, hv]; exact h)
end
theorem codeAny_up {M : Model} {A : Around} {c : Code} {R : Result → Shared → Prop} {s : Shared} {d u : Nat} (h : codeAny M { A with depth := d, units := u } c R s) (hd : A.depth ≤ d) (hu : A.units ≤ u) : codeAny M A c R s :=
  fun Γ p hc hΓ => h Γ p hc ⟨hΓ.1, Nat.le_trans hΓ.2.1 hd, hΓ.2.2.1, hΓ.2.2.2.1, Nat.le_trans hΓ.2.2.2.2 hu⟩
theorem gen_tk1 {α : Type} {M : Model} {A : Around} {T : Sem α} {Q : α → Shared → Prop} {E : Value → Shared → Prop} {h : Heap} {g : Array GenState} {d : Drawn} {os : OsState} {t : Nat} (H : ∀ tk, wpAny M A T Q E ⟨h, g, d, tk, os⟩) : wpAny M A T Q E ⟨h, g, d, t + 1, os⟩ := H _
theorem letFr {h₀ : Heap} {L : Addr} {h : Heap} {m : Str → Option Value} {G : Prop} (F : Fr h₀ L h m) (H : let m' := m; Fr h₀ L h m' → G) : G := H F
theorem st_ne {l : List Str} {z n : Str} (h : l.contains z = false) (hn : l.contains n = true) : z ≠ n := fun e => by subst e; rw [h] at hn; cases hn
theorem ne_ps {ps : List (Str × Value)} {z n : Str} (h : ∀ p ∈ ps, z ≠ p.1) (hn : (ps.map Prod.fst).contains n = true) : z ≠ n := fun e => by
  obtain ⟨p, hp, e2⟩ := List.mem_map.mp (List.contains_iff_mem.mp hn)
  exact h p hp (e.trans e2.symm)
theorem if_no {z n : Str} {v : Option Value} {r b : Option Value} (h : z ≠ n) (H : r = b) : (if z = n then v else r) = b := (if_neg h).trans H
theorem if_st {l : List Str} {z : Str} {v r b : Option Value} (h : l.contains z = false) (H : r = b) : (if l.contains z = true then v else r) = b := by rw [h]; exact H
theorem sub_st {l k : List Str} {z : Str} (h : l.contains z = false) (hk : k.all (fun n => l.contains n) = true) : k.contains z = false := by
  cases e : k.contains z with
  | false => rfl
  | true => rw [List.all_eq_true.mp hk z (List.contains_iff_mem.mp e)] at h; cases h
noncomputable def SameOff (S : List Str) (f g : Str → Option Value) : Prop := ∀ z, S.contains z = false → f z = g z
theorem so_refl {S : List Str} {g : Str → Option Value} : SameOff S g g := fun _ _ => rfl
theorem so_if {S : List Str} {n : Str} {v : Option Value} {r g : Str → Option Value} (hn : S.contains n = true) (h : SameOff S r g) : SameOff S (fun y => if y = n then v else r y) g := fun z hz => (if_neg (st_ne hz hn)).trans (h z hz)
theorem so_st {S k : List Str} {u r g : Str → Option Value} (hk : k.all (fun n => S.contains n) = true) (h : SameOff S r g) : SameOff S (fun y => if k.contains y = true then u y else r y) g := fun z hz => if_st (sub_st hz hk) (h z hz)
theorem so_not {ps : List (Str × Value)} {st : List Str} {z : Str} (h1 : ∀ p ∈ ps, z ≠ p.1) (h2 : st.contains z = false) : (ps.map Prod.fst ++ st).contains z = false := by
  cases e : (ps.map Prod.fst ++ st).contains z with
  | false => rfl
  | true =>
    rcases List.mem_append.mp (List.contains_iff_mem.mp e) with h | h
    · obtain ⟨p, hp, e⟩ := List.mem_map.mp h; exact absurd e.symm (h1 p hp)
    · rw [List.contains_iff_mem.mpr h] at h2; cases h2
theorem so_go {ps : List (Str × Value)} {st : List Str} {f g : Str → Option Value} (h : SameOff (ps.map Prod.fst ++ st) f g) : ∀ z, (∀ p ∈ ps, z ≠ p.1) → st.contains z = false → f z = g z := fun z h1 h2 => h z (so_not h1 h2)
theorem so_go1 {x : Str} {ps : List (Str × Value)} {st : List Str} {f g : Str → Option Value} (h : SameOff (x :: (ps.map Prod.fst ++ st)) f g) : ∀ z, z ≠ x → (∀ p ∈ ps, z ≠ p.1) → st.contains z = false → f z = g z := fun z h0 h1 h2 => h z (by
  rw [List.contains_cons, so_not h1 h2, Bool.or_false]
  exact beq_eq_false_iff_ne.mpr h0)
theorem fa_cons {P : Str × Value → Prop} {a : Str × Value} {ps : List (Str × Value)} (h : P a) (H : ∀ p ∈ ps, P p) : ∀ p ∈ a :: ps, P p := List.forall_mem_cons.mpr ⟨h, H⟩
theorem nm_L {M : Model} {A : Around} {E : Value → Shared → Prop} {h₀ : Heap} {L a : Addr} {cn : Str} {cs : Scope} {ccd : Value} {cl : List (Str × Addr)} (hk : cs.kind = .function) {x : Str} (hx : (envX cn cs L a ccd cl).kindOf x = some .local) (hd : (x == ("__debug__" : Str)) = false) {pos : Pos} {m : Str → Option Value} {s : Shared} {v : Value} {Q : Value → Shared → Prop} (F : Fr h₀ L s.heap m) (hv : m x = some v) (h : Q v s) :
    wpAny M A (eval (.Name x pos) (envX cn cs L a ccd cl)) Q E s := nameX_L F hv h hk hx hd
theorem fa_nil {P : Str × Value → Prop} : ∀ p ∈ ([] : List (Str × Value)), P p := List.forall_mem_nil P
end
section --Kx
open PySem PySem.W PySem.Calls PyProof.Rows PySem.W.X PySem.W.XRun
noncomputable def ob (P : Params) (a : Addr) : Obj := ((Mine.hd0.heap_1 P).lookup a).getD default
noncomputable def KX2 (P : Params) : Frag := (nat_lit 0, boot_o_0 P) :: (nat_lit 1, boot_o_1 P) :: (nat_lit 4, boot_o_4 P) :: (nat_lit 5, boot_o_5 P) :: (nat_lit 6, boot_o_6 P) :: (nat_lit 7, boot_o_7 P) :: (nat_lit 8, boot_o_8 P) :: (nat_lit 9, boot_o_9 P) :: (nat_lit 10, boot_o_10 P) :: (nat_lit 2, ob P (nat_lit 2)) :: (nat_lit 3, ob P (nat_lit 3)) :: (nat_lit 15, ob P (nat_lit 15)) :: (nat_lit 17, ob P (nat_lit 17)) :: (nat_lit 18, ob P (nat_lit 18)) :: (nat_lit 20, ob P (nat_lit 20)) :: (nat_lit 21, ob P (nat_lit 21)) :: (nat_lit 29, ob P (nat_lit 29)) :: (nat_lit 31, ob P (nat_lit 31)) :: (nat_lit 32, ob P (nat_lit 32)) :: (nat_lit 34, ob P (nat_lit 34)) :: (nat_lit 35, ob P (nat_lit 35)) :: (nat_lit 36, ob P (nat_lit 36)) :: (nat_lit 37, ob P (nat_lit 37)) :: (nat_lit 39, ob P (nat_lit 39)) :: (nat_lit 40, ob P (nat_lit 40)) :: (nat_lit 42, ob P (nat_lit 42)) :: (nat_lit 43, ob P (nat_lit 43)) :: (nat_lit 44, ob P (nat_lit 44)) :: (nat_lit 46, ob P (nat_lit 46)) :: (nat_lit 47, ob P (nat_lit 47)) :: (nat_lit 49, ob P (nat_lit 49)) :: (nat_lit 50, ob P (nat_lit 50)) :: (nat_lit 51, ob P (nat_lit 51)) :: (nat_lit 53, ob P (nat_lit 53)) :: (nat_lit 54, ob P (nat_lit 54)) :: (nat_lit 56, ob P (nat_lit 56)) :: (nat_lit 57, ob P (nat_lit 57)) :: (nat_lit 58, ob P (nat_lit 58)) :: (nat_lit 59, ob P (nat_lit 59)) :: (nat_lit 60, ob P (nat_lit 60)) :: (nat_lit 61, ob P (nat_lit 61)) :: (nat_lit 62, ob P (nat_lit 62)) :: (nat_lit 65, ob P (nat_lit 65)) :: (nat_lit 68, ob P (nat_lit 68)) :: (nat_lit 73, ob P (nat_lit 73)) :: (nat_lit 74, ob P (nat_lit 74)) :: (nat_lit 75, ob P (nat_lit 75)) :: (nat_lit 76, ob P (nat_lit 76)) :: (nat_lit 78, ob P (nat_lit 78)) :: (nat_lit 79, ob P (nat_lit 79)) :: (nat_lit 81, ob P (nat_lit 81)) :: (nat_lit 82, ob P (nat_lit 82)) :: (nat_lit 83, ob P (nat_lit 83)) :: (nat_lit 85, ob P (nat_lit 85)) :: (nat_lit 86, ob P (nat_lit 86)) :: (nat_lit 88, ob P (nat_lit 88)) :: (nat_lit 89, ob P (nat_lit 89)) :: (nat_lit 90, ob P (nat_lit 90)) :: (nat_lit 91, ob P (nat_lit 91)) :: (nat_lit 92, ob P (nat_lit 92)) :: (nat_lit 93, ob P (nat_lit 93)) :: (nat_lit 94, ob P (nat_lit 94)) :: (nat_lit 96, ob P (nat_lit 96)) :: (nat_lit 97, ob P (nat_lit 97)) :: (nat_lit 99, ob P (nat_lit 99)) :: (nat_lit 100, ob P (nat_lit 100)) :: (nat_lit 101, ob P (nat_lit 101)) :: (nat_lit 103, ob P (nat_lit 103)) :: (nat_lit 104, ob P (nat_lit 104)) :: (nat_lit 106, ob P (nat_lit 106)) :: (nat_lit 107, ob P (nat_lit 107)) :: (nat_lit 108, ob P (nat_lit 108)) :: (nat_lit 110, ob P (nat_lit 110)) :: (nat_lit 111, ob P (nat_lit 111)) :: (nat_lit 113, ob P (nat_lit 113)) :: (nat_lit 114, ob P (nat_lit 114)) :: (nat_lit 115, ob P (nat_lit 115)) :: (nat_lit 117, ob P (nat_lit 117)) :: (nat_lit 118, ob P (nat_lit 118)) :: (nat_lit 120, ob P (nat_lit 120)) :: (nat_lit 121, ob P (nat_lit 121)) :: (nat_lit 122, ob P (nat_lit 122)) :: (nat_lit 123, ob P (nat_lit 123)) :: (nat_lit 124, ob P (nat_lit 124)) :: (nat_lit 126, ob P (nat_lit 126)) :: (nat_lit 127, ob P (nat_lit 127)) :: (nat_lit 129, ob P (nat_lit 129)) :: (nat_lit 130, ob P (nat_lit 130)) :: (nat_lit 132, ob P (nat_lit 132)) :: (nat_lit 134, ob P (nat_lit 134)) :: (nat_lit 135, ob P (nat_lit 135)) :: (nat_lit 136, ob P (nat_lit 136)) :: (nat_lit 139, ob P (nat_lit 139)) :: (nat_lit 141, ob P (nat_lit 141)) :: (nat_lit 142, ob P (nat_lit 142)) :: (nat_lit 144, ob P (nat_lit 144)) :: (nat_lit 145, ob P (nat_lit 145)) :: (nat_lit 153, ob P (nat_lit 153)) :: (nat_lit 154, ob P (nat_lit 154)) :: (nat_lit 156, ob P (nat_lit 156)) :: (nat_lit 157, ob P (nat_lit 157)) :: (nat_lit 159, ob P (nat_lit 159)) :: (nat_lit 160, ob P (nat_lit 160)) :: (nat_lit 161, ob P (nat_lit 161)) :: (nat_lit 163, ob P (nat_lit 163)) :: (nat_lit 164, ob P (nat_lit 164)) :: (nat_lit 166, ob P (nat_lit 166)) :: (nat_lit 167, ob P (nat_lit 167)) :: (nat_lit 168, ob P (nat_lit 168)) :: (nat_lit 170, ob P (nat_lit 170)) :: (nat_lit 171, ob P (nat_lit 171)) :: (nat_lit 173, ob P (nat_lit 173)) :: (nat_lit 174, ob P (nat_lit 174)) :: (nat_lit 175, ob P (nat_lit 175)) :: (nat_lit 177, ob P (nat_lit 177)) :: (nat_lit 178, ob P (nat_lit 178)) :: (nat_lit 180, ob P (nat_lit 180)) :: (nat_lit 181, ob P (nat_lit 181)) :: (nat_lit 182, ob P (nat_lit 182)) :: (nat_lit 184, ob P (nat_lit 184)) :: (nat_lit 185, ob P (nat_lit 185)) :: (nat_lit 187, ob P (nat_lit 187)) :: (nat_lit 188, ob P (nat_lit 188)) :: (nat_lit 189, ob P (nat_lit 189)) :: (nat_lit 190, ob P (nat_lit 190)) :: (nat_lit 192, ob P (nat_lit 192)) :: (nat_lit 193, ob P (nat_lit 193)) :: (nat_lit 195, ob P (nat_lit 195)) :: (nat_lit 196, ob P (nat_lit 196)) :: (nat_lit 197, ob P (nat_lit 197)) :: (nat_lit 199, ob P (nat_lit 199)) :: (nat_lit 200, ob P (nat_lit 200)) :: (nat_lit 202, ob P (nat_lit 202)) :: (nat_lit 203, ob P (nat_lit 203)) :: (nat_lit 204, ob P (nat_lit 204)) :: (nat_lit 206, ob P (nat_lit 206)) :: (nat_lit 207, ob P (nat_lit 207)) :: (nat_lit 209, ob P (nat_lit 209)) :: (nat_lit 210, ob P (nat_lit 210)) :: (nat_lit 211, ob P (nat_lit 211)) :: (nat_lit 212, ob P (nat_lit 212)) :: (nat_lit 214, ob P (nat_lit 214)) :: (nat_lit 215, ob P (nat_lit 215)) :: (nat_lit 217, ob P (nat_lit 217)) :: (nat_lit 218, ob P (nat_lit 218)) :: (nat_lit 219, ob P (nat_lit 219)) :: (nat_lit 221, ob P (nat_lit 221)) :: (nat_lit 222, ob P (nat_lit 222)) :: (nat_lit 224, ob P (nat_lit 224)) :: (nat_lit 225, ob P (nat_lit 225)) :: (nat_lit 226, ob P (nat_lit 226)) :: (nat_lit 228, ob P (nat_lit 228)) :: (nat_lit 229, ob P (nat_lit 229)) :: (nat_lit 231, ob P (nat_lit 231)) :: (nat_lit 232, ob P (nat_lit 232)) :: (nat_lit 233, ob P (nat_lit 233)) :: (nat_lit 235, ob P (nat_lit 235)) :: (nat_lit 236, ob P (nat_lit 236)) :: (nat_lit 238, ob P (nat_lit 238)) :: (nat_lit 239, ob P (nat_lit 239)) :: (nat_lit 240, ob P (nat_lit 240)) :: (nat_lit 241, ob P (nat_lit 241)) :: (nat_lit 242, ob P (nat_lit 242)) :: (nat_lit 243, ob P (nat_lit 243)) :: (nat_lit 244, ob P (nat_lit 244)) :: (nat_lit 247, ob P (nat_lit 247)) :: (nat_lit 249, ob P (nat_lit 249)) :: (nat_lit 250, ob P (nat_lit 250)) :: (nat_lit 252, ob P (nat_lit 252)) :: (nat_lit 253, ob P (nat_lit 253)) :: (nat_lit 254, ob P (nat_lit 254)) :: (nat_lit 255, ob P (nat_lit 255)) :: (nat_lit 256, ob P (nat_lit 256)) :: (nat_lit 258, ob P (nat_lit 258)) :: (nat_lit 259, ob P (nat_lit 259)) :: (nat_lit 261, ob P (nat_lit 261)) :: (nat_lit 262, ob P (nat_lit 262)) :: (nat_lit 263, ob P (nat_lit 263)) :: (nat_lit 265, ob P (nat_lit 265)) :: (nat_lit 266, ob P (nat_lit 266)) :: (nat_lit 268, ob P (nat_lit 268)) :: (nat_lit 269, ob P (nat_lit 269)) :: (nat_lit 270, ob P (nat_lit 270)) :: (nat_lit 272, ob P (nat_lit 272)) :: (nat_lit 273, ob P (nat_lit 273)) :: (nat_lit 275, ob P (nat_lit 275)) :: (nat_lit 276, ob P (nat_lit 276)) :: (nat_lit 277, ob P (nat_lit 277)) :: (nat_lit 280, ob P (nat_lit 280)) :: (nat_lit 281, ob P (nat_lit 281)) :: (nat_lit 282, ob P (nat_lit 282)) :: (nat_lit 285, ob P (nat_lit 285)) :: (nat_lit 286, ob P (nat_lit 286)) :: []
theorem kx_is (P : Params) : KX2 P = exB P ++ asL.map fun a => (a, ob P a) := by kernel_rfl
theorem k_some (P : Params) : (asL.all fun a => ((Mine.hd0.heap_1 P).lookup a).isSome) = true := by kernel_rfl
theorem kx_in {w : World} {h : Heap} (X : (Mine.hd0.heap_1 w.params).In h) (B : Boot w h) : (KX2 w.params).In h := by
  rw [kx_is]
  intro a o e
  rw [List.lookup_append] at e
  have look : ∀ {l : List (Nat × Obj)} {a : Nat} {o : Obj}, l.lookup a = some o → (a, o) ∈ l := by
    intro l
    induction l with
    | nil => intro a o e; cases e
    | cons p l ih =>
      intro a o e
      obtain ⟨b, ob⟩ := p
      rw [List.lookup_cons] at e
      split at e
      · rename_i q
        cases e
        have q := eq_of_beq q
        subst q
        exact .head _
      · exact .tail _ (ih e)
  cases q : (exB w.params).lookup a with
  | some o' =>
    rw [q] at e
    cases e
    exact B _ (look q)
  | none =>
    rw [q] at e
    have e' := look e
    obtain ⟨b, hb, e2⟩ := List.mem_map.mp e'
    obtain ⟨rfl, rfl⟩ := Prod.mk.inj e2
    have k := List.all_eq_true.mp (k_some w.params) b hb
    obtain ⟨o', ho'⟩ := Option.isSome_iff_exists.mp k
    refine X _ _ ?_
    unfold ob
    rw [ho']; rfl
theorem mem_led {h₀ h h' : Heap} {L : Addr} {m : Str → Option Value} {new news : List (Addr × Obj)} (D : Mem h h' [] new) (F : Fr h₀ L h m) (N : News h₀ L h news) : Fr h₀ L h' m ∧ News h₀ L h' (new ++ news) := by
  have up : ∀ b o, h.get? b = some o → h'.get? b = some o := fun b o e => D.keep b o e (by simp [away])
  obtain ⟨oL, es, ep, hL, a1, a2, a3⟩ := F.ns
  refine ⟨⟨⟨oL, es, ep, up _ _ hL, a1, a2, a3⟩, fun b o e => up b o (F.keep b o e), F.above⟩, fun p hp => ?_⟩
  rcases List.mem_append.mp hp with hp | hp
  · have q := D.nw p hp
    refine ⟨q.1, fun z => ?_, ?_⟩
    · rw [z, hL] at q; exact nomatch q.2
    · cases e : h₀.get? p.1 with
      | none => rfl
      | some o => have := F.keep _ _ e; rw [q.2] at this; cases this
  · exact ⟨up _ _ (N p hp).1, (N p hp).2⟩
end
section --Px
open PySem PySem.W PySem.Calls PyProof.Rows PySem.W.X PySem.W.XRun
noncomputable abbrev Amx (l : List Env) (gd : Option (List Code)) : Around := { handled := none, depth := 600, frames := some l, guards := gd, units := 2000 }
theorem wpAny_up {α : Type} {M : Model} {A : Around} {t : Sem α} {Q : α → Shared → Prop} {E : Value → Shared → Prop} {s : Shared} {d u : Nat} (h : wpAny M { A with depth := d, units := u } t Q E s) (hd : A.depth ≤ d) (hu : A.units ≤ u) : wpAny M A t Q E s :=
  fun Γ p hΓ => h Γ p ⟨hΓ.1, Nat.le_trans hΓ.2.1 hd, hΓ.2.2.1, hΓ.2.2.2.1, Nat.le_trans hΓ.2.2.2.2 hu⟩
local macro_rules | `(tactic| x_close) => `(tactic| k_extra "wf00ae")
theorem x_prep : ∀ {w : World} {l : List Env} {gd : Option (List Code)} {s : Shared} {t : Tok} {Q : Except Value Value → Shared → Prop} {E : Value → Shared → Prop} (KX : (KX2 w.params).In s.heap)
    (hQ : ∀ q h tk, Mem s.heap h [] [(q, ⟨.type "builtin_function_or_method", none, .fields #[.builtin "type.__prepare__", .type "type"], #[]⟩)] → Q (.ok (.ref q)) ⟨h, s.gens, s.drawn, tk, s.os⟩),
    wpAny (model PySem.Challenge.rw_mr0378_01.row.prog w) (Amx l gd) (call (.builtin "type.__getattribute__") [.type "type", .str (Str.ofString "__prepare__") t]).attempt Q E s := by
  w_top off
  k_fill
  intro w l gd s t Q E KX hQ
  x_run
theorem x_prepd : ∀ {w : World} {l : List Env} {gd : Option (List Code)} {s : Shared} {t : Tok} {b q : Addr} {Q : Value → Shared → Prop} {E : Value → Shared → Prop} (KX : (KX2 w.params).In s.heap)
    (ho : s.heap.get? q = some ⟨.type "builtin_function_or_method", none, .fields #[.builtin "type.__prepare__", .type "type"], #[]⟩)
    (hQ : ∀ q h tk, Mem s.heap h [] [(q, dictOf [] 0)] → Q (.ref q) ⟨h, s.gens, s.drawn, tk, s.os⟩),
    wpAny (model PySem.Challenge.rw_mr0378_01.row.prog w) (Amx l gd) (call (.ref q) [.str (Str.ofString "K") t, .ref b]) Q E s := by
  k_fill
  intro w l gd s t b q Q E KX ho hQ
  x_run
end
section --Gb
open PySem PySem.W PySem.Calls PyProof.Rows PySem.W.X PySem.W.XRun
theorem n_getB {M : Model} {A : Around} {E : Value → Shared → Prop} {s : Shared} {T g : String} {nm : Str} {d : Addr} {o : Obj} {Q : Value → Shared → Prop} (ho : s.heap.get? d = some o) (hc : o.cls = .type T)
    (htl : typeLookup (.type T) "__getattribute__" = pure (some (.builtin g))) (hbs : bindSpecial (.builtin g) (.ref d) = pure (.builtin g, [.ref d]))
    (h : wpAny M A (call (.builtin g) [.ref d, .str nm s.toks]) (fun v s' => ∃ q, v = .ref q ∧ Q v s') (fun _ _ => False) { s with toks := s.toks + 1 }) : wpAny M A (getAttr (.ref d) nm true) Q E s := by
  unfold getAttr getAttrBy
  refine wpAny_bind (wpAny_mkText (wpAny_holding (wpAny_bind ?_)))
  show wpAny M A (load d >>= fun o => pure o.cls) _ _ _
  refine wpAny_bind (wpAny_load (by exact ho) (wpAny_pure ?_))
  rw [hc, htl]
  refine wpAny_bind (wpAny_pure ?_)
  dsimp only
  have e1 : (onTheHeap (.type T) && Value.builtin g == .builtin "object.__getattribute__") = false := rfl
  rw [e1]
  simp only [Bool.false_eq_true, if_false]
  unfold getAttrByItsOwn
  have e2 : hookBefore (.type T) = pure none := rfl
  rw [e2]
  refine wpAny_bind (wpAny_pure (wpAny_bind (wpAny_attempt ?_)))
  refine wpAny_holding ?_
  unfold callGetattribute
  have e3 : (true && onTheHeap (Value.builtin g)) = false := rfl
  rw [e3]
  simp only [Bool.false_eq_true, if_false]
  unfold boundAndCalled
  rw [hbs]
  refine wpAny_bind (wpAny_pure ?_)
  refine wpAny_mono h (fun v s' hv => ?_) fun _ _ x => x.elim
  obtain ⟨q, rfl, hq⟩ := hv
  exact wpAny_pure hq
end
section --Py
open PySem PySem.W PySem.Calls PyProof.Rows PySem.W.X PySem.W.XRun
local macro_rules | `(tactic| x_close) => `(tactic| k_extra "wf00ae")
theorem x_collect : ∀ {w : World} {l : List Env} {gd : Option (List Code)} {s : Shared} {t : Tok} {lS : Addr} {Q : Flow → Shared → Prop} {E : Value → Shared → Prop} (KX : (KX2 w.params).In s.heap)
    (ho : s.heap.get? lS = some ⟨.type "list", none, .seq #[.str (Str.ofString "obj") t] 0, #[]⟩)
    (hQ : ∀ q h tk, Mem s.heap h [] [(q, ⟨.type "list", none, .seq #[.str (Str.ofString "obj") t] 1, #[]⟩)] → Q (.ret (.ref q)) ⟨h, s.gens, s.drawn, tk, s.os⟩),
    wpAny (model PySem.Challenge.rw_mr0378_01.row.prog w) (Amx l gd) (run (.builtin "proto.collect" ⟨[.ref lS], []⟩)) Q E s := by
  w_top off
  k_fill
  intro w l gd s t lS Q E KX ho hQ
  x_run
theorem x_super : ∀ {w : World} {l : List Env} {gd : Option (List Code)} {s : Shared} {c ns : Addr} {Q : Value → Shared → Prop} {E : Value → Shared → Prop} {sl : Array (Option Value)} (KX : (KX2 w.params).In s.heap)
    (ho : s.heap.get? c = some ⟨.type "type", none, .cls { name := Str.ofString "K", bases := [.type "object"], mro := [.ref c, .type "object"], ns := ns, qualname := Str.ofString "cmp_to_key.<locals>.K" }, sl⟩)
    (hQ : ∀ q h tk, Mem s.heap h [] [(q, ⟨.type "super", none, .fields #[.ref c, .ref c, .ref c], #[]⟩)] → Q (.ref q) ⟨h, s.gens, s.drawn, tk, s.os⟩),
    wpAny (model PySem.Challenge.rw_mr0378_01.row.prog w) (Amx l gd) (call (.type "super") [.ref c, .ref c]) Q E s := by
  k_fill
  intro w l gd s c ns Q E sl KX ho hQ
  x_run
theorem mem_ne {h₀ h h' : Heap} {L : Addr} {q : Addr} {o : Obj} {news : List (Addr × Obj)} (D : Mem h h' [] [(q, o)]) (N : News h₀ L h news) : ∀ p ∈ news, p.1 ≠ q := fun p hp e => by
  have a := (D.nw _ (.head _)).2
  have b := (N p hp).1
  rw [e, a] at b; cases b
section
variable {w : World} {E : Value → Shared → Prop} {s : Shared} {h₀ : Heap} {L : Addr} {m : Str → Option Value} {news : List (Addr × Obj)} {l : List Env} {gd : Option (List Code)}
theorem n_collect {t : Tok} {lS : Addr} {Q : Flow → Shared → Prop} (F : Fr h₀ L s.heap m) (N : News h₀ L s.heap news) (X : (Mine.hd0.heap_1 w.params).In h₀) (B : Boot w h₀)
    (ho : (lS, (⟨.type "list", none, .seq #[.str (Str.ofString "obj") t] 0, #[]⟩ : Obj)) ∈ news)
    (h : ∀ q h' tk, Fr h₀ L h' m → News h₀ L h' ((q, ⟨.type "list", none, .seq #[.str (Str.ofString "obj") t] 1, #[]⟩) :: news) → (∀ p ∈ news, p.1 ≠ q) → Q (.ret (.ref q)) { s with heap := h', toks := tk }) :
    wpAny (model PySem.Challenge.rw_mr0378_01.row.prog w) (Amx l gd) (run (.builtin "proto.collect" ⟨[.ref lS], []⟩)) Q E s :=
  x_collect (kx_in (X.keeps F.keep) fun p hp => F.keep _ _ (B p hp)) (N.get ho) fun q h' tk D => h q h' tk (mem_led D F N).1 (mem_led D F N).2 (mem_ne D N)
theorem n_super {c ns : Addr} {sl : Array (Option Value)} {Q : Value → Shared → Prop} (F : Fr h₀ L s.heap m) (N : News h₀ L s.heap news) (X : (Mine.hd0.heap_1 w.params).In h₀) (B : Boot w h₀)
    (ho : (c, (⟨.type "type", none, .cls { name := Str.ofString "K", bases := [.type "object"], mro := [.ref c, .type "object"], ns := ns, qualname := Str.ofString "cmp_to_key.<locals>.K" }, sl⟩ : Obj)) ∈ news)
    (h : ∀ q h' tk, Fr h₀ L h' m → News h₀ L h' ((q, ⟨.type "super", none, .fields #[.ref c, .ref c, .ref c], #[]⟩) :: news) → (∀ p ∈ news, p.1 ≠ q) → Q (.ref q) { s with heap := h', toks := tk }) :
    wpAny (model PySem.Challenge.rw_mr0378_01.row.prog w) (Amx l gd) (call (.type "super") [.ref c, .ref c]) Q E s :=
  x_super (kx_in (X.keeps F.keep) fun p hp => F.keep _ _ (B p hp)) (N.get ho) fun q h' tk D => h q h' tk (mem_led D F N).1 (mem_led D F N).2 (mem_ne D N)
end
end
section --Rw
open PySem PySem.W PySem.Calls PyProof.Rows PySem.W.X
noncomputable def ldA {α : Type} : Sem α → Option Addr
  | .load a _ _ => some a
  | _ => none
noncomputable def ldK {α : Type} (t : Sem α) (o : Obj) : Sem α := match t with | .load _ _ k => k o | _ => .unsupported ""
noncomputable def caC {α : Type} : Sem α → Option (Code × Option Value)
  | .call c hd _ _ _ => some (c, hd)
  | _ => none
noncomputable def caK {α : Type} (t : Sem α) (r : Result) : Sem α := match t with | .call _ _ _ _ k => k r | _ => .unsupported ""
theorem is_ld {α : Type} {t : Sem α} {a : Addr} (e : ldA t = some a) : ∃ d k, t = .load a d k := by
  cases t <;> first | exact absurd e.symm (Option.some_ne_none _) | (cases e; exact ⟨_, _, rfl⟩)
theorem is_ca {α : Type} {t : Sem α} {c : Code} {x : Option Value} (e : caC t = some (c, x)) : ∃ g l k, t = .call c x g l k := by
  cases t <;> first | exact absurd e.symm (Option.some_ne_none _) | (cases e; exact ⟨_, _, _, rfl⟩)
section
variable {α : Type} {prog : Program} {w : World} {A : Around} {E : Value → Shared → Prop} {s : Shared} {Q : α → Shared → Prop} {t : Sem α}
theorem r_pure {a : α} (e : pureOf (skim ⟨prog, w.params⟩ 400 t) = some a) (h : Q a s) : wpAny (model prog w) A t Q E s := by
  refine x_skim 400 ?_
  rw [of_pureOf e]; exact wpAny_pure h
theorem r_load {a : Addr} {o : Obj} (e : ldA (skim ⟨prog, w.params⟩ 400 t) = some a) (ho : s.heap.get? a = some o) (h : wpAny (model prog w) A (ldK (skim ⟨prog, w.params⟩ 400 t) o) Q E s) : wpAny (model prog w) A t Q E s := by
  refine x_skim 400 ?_
  generalize skim ⟨prog, w.params⟩ 400 t = t' at e h
  obtain ⟨d, k, rfl⟩ := is_ld e
  exact x_load ho h
theorem r_call {c : Code} (e : caC (skim ⟨prog, w.params⟩ 400 t) = some (c, none)) (h : codeAny (model prog w) (A.mark none) c (fun r s' => wpAny (model prog w) A (caK (skim ⟨prog, w.params⟩ 400 t) r) Q E s') s) : wpAny (model prog w) A t Q E s := by
  refine x_skim 400 ?_
  generalize skim ⟨prog, w.params⟩ 400 t = t' at e h
  obtain ⟨g, l, k, rfl⟩ := is_ca e
  exact x_call h (by intro q; cases q)
theorem r_callW {c : Code} (e : caC (skim ⟨prog, w.params⟩ 400 t) = some (c, none)) (h : wpAny (model prog w) A (run c) (fun f s' => wpAny (model prog w) A (caK (skim ⟨prog, w.params⟩ 400 t) (.ok f)) Q E s') (fun x s' => wpAny (model prog w) A (caK (skim ⟨prog, w.params⟩ 400 t) (.error x)) Q E s') s) : wpAny (model prog w) A t Q E s := by
  refine x_skim 400 ?_
  generalize skim ⟨prog, w.params⟩ 400 t = t' at e h
  obtain ⟨g, l, k, rfl⟩ := is_ca e
  exact fun Γ p hΓ => wpCode_mono (fun r s' hr => by
    cases r with
    | ok f => exact hr Γ p hΓ
    | error x => exact hr Γ p hΓ) (h Γ p hΓ)
end
section
variable {α : Type} {M : Model} {A : Around} {E : Value → Shared → Prop} {s : Shared} {Q : α → Shared → Prop} {t e : Sem α} {b : Bool}
theorem n_iteF (hb : b = false) (h : wpAny M A e Q E s) : wpAny M A (if b = true then t else e) Q E s := by subst hb; exact h
theorem n_iteT (hb : b = true) (h : wpAny M A t Q E s) : wpAny M A (if b = true then t else e) Q E s := by subst hb; exact h
end
noncomputable def alO {α : Type} : Sem α → Option Obj
  | .alloc o _ => some o
  | _ => none
noncomputable def alK {α : Type} (t : Sem α) (a : Addr) : Sem α := match t with | .alloc _ k => k a | _ => .unsupported ""
noncomputable def upA {α : Type} : Sem α → Option Addr
  | .update a _ _ _ => some a
  | _ => none
noncomputable def upF {α : Type} (t : Sem α) : Obj → Obj := match t with | .update _ _ f _ => f | _ => id
noncomputable def upK {α : Type} (t : Sem α) : Sem α := match t with | .update _ _ _ k => k () | _ => .unsupported ""
noncomputable def frB {α : Type} : Sem α → Bool
  | .fresh _ => true
  | _ => false
noncomputable def frK {α : Type} (t : Sem α) (u : Tok) : Sem α := match t with | .fresh k => k u | _ => .unsupported ""
theorem is_al {α : Type} {t : Sem α} {o : Obj} (e : alO t = some o) : ∃ k, t = .alloc o k := by
  cases t <;> first | exact absurd e.symm (Option.some_ne_none _) | (cases e; exact ⟨_, rfl⟩)
theorem is_up {α : Type} {t : Sem α} {a : Addr} (e : upA t = some a) : ∃ d f k, t = .update a d f k := by
  cases t <;> first | exact absurd e.symm (Option.some_ne_none _) | (cases e; exact ⟨_, _, _, rfl⟩)
theorem is_fr {α : Type} {t : Sem α} (e : frB t = true) : ∃ k, t = .fresh k := by
  cases t <;> first | exact absurd e Bool.false_ne_true | exact ⟨_, rfl⟩
section
variable {α : Type} {prog : Program} {w : World} {A : Around} {E : Value → Shared → Prop} {s : Shared} {Q : α → Shared → Prop} {t : Sem α} {h₀ : Heap} {L : Addr} {m : Str → Option Value} {news news' : List (Addr × Obj)}
theorem r_alloc {o : Obj} (e : alO (skim ⟨prog, w.params⟩ 400 t) = some o) (F : Fr h₀ L s.heap m) (N : News h₀ L s.heap news) (hf : o.isFreed = false)
    (h : ∀ a h', Fr h₀ L h' m → News h₀ L h' ((a, o) :: news) → (∀ p ∈ news, p.1 < a) → wpAny (model prog w) A (alK (skim ⟨prog, w.params⟩ 400 t) a) Q E { s with heap := h' }) : wpAny (model prog w) A t Q E s := by
  refine x_skim 400 ?_
  generalize skim ⟨prog, w.params⟩ 400 t = t' at e h
  obtain ⟨k, rfl⟩ := is_al e
  exact n_alloc F N hf h
theorem r_update {d : Addr} {o o' : Obj} (e : upA (skim ⟨prog, w.params⟩ 400 t) = some d) (F : Fr h₀ L s.heap m) (N : News h₀ L s.heap news) (U : Upd d o o' news news') (eo : upF (skim ⟨prog, w.params⟩ 400 t) o = o') (hf : o'.isFreed = false)
    (h : ∀ h', Fr h₀ L h' m → News h₀ L h' news' → wpAny (model prog w) A (upK (skim ⟨prog, w.params⟩ 400 t)) Q E { s with heap := h' }) : wpAny (model prog w) A t Q E s := by
  refine x_skim 400 ?_
  generalize skim ⟨prog, w.params⟩ 400 t = t' at e eo h
  obtain ⟨d, f, k, rfl⟩ := is_up e
  exact n_update F N U eo hf h
theorem r_fresh (e : frB (skim ⟨prog, w.params⟩ 400 t) = true) (h : wpAny (model prog w) A (frK (skim ⟨prog, w.params⟩ 400 t) s.toks) Q E { s with toks := s.toks + 1 }) : wpAny (model prog w) A t Q E s := by
  refine x_skim 400 ?_
  generalize skim ⟨prog, w.params⟩ 400 t = t' at e h
  obtain ⟨k, rfl⟩ := is_fr e
  exact x_fresh h
end
end
section --Bc
open PySem PySem.W PySem.Calls PyProof.Rows PySem.W.X
noncomputable def ca1 (q : Addr) (v : Value) : Sem Fin := callAny (.ref q) ⟨[v], []⟩
noncomputable def ca2 (q : Addr) (v u : Value) : Sem Fin := callAny (.ref q) ⟨[v, u], []⟩
theorem ca1_id : ca1 = ca1 := rfl
theorem ca2_id : ca2 = ca2 := rfl
name_quick ca1Q for Mine.ca1 by Mine.ca1_id
name_quick ca2Q for Mine.ca2 by Mine.ca2_id
section
variable {prog : Program} {w : World} {A : Around} {s : Shared} {d q : Addr} {v u : Value} {R : Result → Shared → Prop}
theorem bc_set {es : Array (Int × Value)} {n : Nat} {tb : SetTable} (hq : s.heap.get? q = some ⟨.type "builtin_function_or_method", none, .fields #[.builtin "set.__contains__", .ref d], #[]⟩) (hd : s.heap.get? d = some ⟨.type "set", none, .set es n tb, #[]⟩)
    (h : codeAny (model prog w) A (.builtin "set.__contains__" ⟨[.ref d, v], []⟩) R s) : codeAny (model prog w) A (.call (.ref q) ⟨[v], []⟩) R s := by
  refine codeAny_of_tree ?_
  show wpAny _ _ (ca1 q v) _ _ _
  rw [PySem.W.Fast.ca1Q_eq]
  refine r_load (a := q) (by kernel_rfl) hq ?_
  refine r_load (a := d) (by kernel_rfl) hd ?_
  refine r_load (a := d) (by kernel_rfl) hd ?_
  refine r_load (a := d) (by kernel_rfl) hd ?_
  refine r_pure (a := .again (.builtin "set.__contains__" ⟨[.ref d, v], []⟩)) (by kernel_rfl) ⟨by kernel_rfl, h⟩
theorem bc_dget {es : Array DictEntry} {n : Nat} (hq : s.heap.get? q = some ⟨.type "builtin_function_or_method", none, .fields #[.builtin "dict.get", .ref d], #[]⟩) (hd : s.heap.get? d = some ⟨.type "dict", none, .dict es n, #[]⟩)
    (h : codeAny (model prog w) A (.builtin "dict.get" ⟨[.ref d, v, u], []⟩) R s) : codeAny (model prog w) A (.call (.ref q) ⟨[v, u], []⟩) R s := by
  refine codeAny_of_tree ?_
  show wpAny _ _ (ca2 q v u) _ _ _
  rw [PySem.W.Fast.ca2Q_eq]
  refine r_load (a := q) (by kernel_rfl) hq ?_
  refine r_load (a := d) (by kernel_rfl) hd ?_
  refine r_load (a := d) (by kernel_rfl) hd ?_
  refine r_load (a := d) (by kernel_rfl) hd ?_
  refine r_pure (a := .again (.builtin "dict.get" ⟨[.ref d, v, u], []⟩)) (by kernel_rfl) ⟨by kernel_rfl, h⟩
end
end
section --Cb
open PySem PySem.W PySem.Spec PySem.Calls PyProof.Rows PySem.W.X
section
variable {M : Model} {A : Around} {E : Value → Shared → Prop} {s : Shared} {h₀ : Heap} {L c P ns : Addr} {m mg mb : Str → Option Value} {rest : List (Addr × Obj)} {oc : Obj} {env : Env}
  {p : Program} {loose : List Str} {mean : ExcName → Option Value} {name qual : Str} {params : Arguments} {body : List Stmt} {scope : Scope} {ps : Array Value} {pos : Pos} {firstLine : Nat} {clos : List (Str × Addr)}
theorem news_sub {h₀ h : Heap} {L : Addr} {l l' : List (Addr × Obj)} (N : News h₀ L h l) (hs : ∀ q ∈ l', q ∈ l) : News h₀ L h l' := fun q hq => N q (hs q hq)
theorem cs_make {Q : Value → Shared → Prop} (F : Fr h₀ L s.heap m) (N : News h₀ L s.heap ((P, tabObj ps) :: rest)) (hP : ∀ q ∈ rest, q.1 ≠ P) (T : Top p loose mean mg mb h₀) (hc : (c, oc) ∈ rest)
    (C : ∀ h : Heap, h.get? c = some oc → CodeHd h c P) (hcd : env.code = .ref c) (hg : env.globals = mainGlobals) (ht : TriplesOk ps.toList) (hnf : codeAmong pos ps.toList = none) (hcl : closureFor scope env = pure clos)
    (h : ∀ f c' oc' vs t ctv doc h' tk, Fr h₀ L h' m →
      News h₀ L h' ((P, tabObj (ps ++ #[rawInt pos.line, rawInt pos.col, .ref c'])) :: (f, fnMade name qual params body scope clos doc ((mg "__name__").getD .none) c' ctv) :: (c', oc') :: rest) →
      oc'.data = .fields vs → vs[1]? = some (.str qual t) → (∀ q ∈ (P, tabObj ps) :: rest, q.1 < c') → c' < f → Q (.ref f) { s with heap := h', toks := tk }) :
    wpAny M A (makeFunction name qual params (.stmts body) scope env [] [] [] pos firstLine) Q E s := by
  have hm := N (P, tabObj ps) (.head _)
  have hgs := T.g.keeps F.keep
  obtain ⟨bm, ob, b1, b2, b3, b4, b5, b6⟩ := T.bmain
  have hgP : mainGlobals ≠ P := fun q => by
    obtain ⟨o, es, ep, e, hd, _⟩ := hgs
    rw [q, hm.1] at e; cases e; cases hd
  have hbP : bm ≠ P := fun q => by
    have e := F.keep _ _ b3
    rw [q, hm.1] at e; cases e; cases b4
  have hbG : bm ≠ mainGlobals := fun q => by
    obtain ⟨o, es, ep, e, hd, _⟩ := T.g
    rw [q, e] at b3; cases b3; rw [hd] at b6; cases b6
  refine makeFunction_K (mg := mg) hcl hg hgs hcd (C _ (N _ (.tail _ hc)).1) hm.1 ht hnf hgP ⟨bm, ob, b1, b2, hbG, hbP, F.keep _ _ b3, b4, b5, b6⟩ fun c' ctv doc h' tk hx hge hlt hrec htb => ?_
  obtain ⟨c₂, oc', vs, t, e2, hoc, hd, hv⟩ := hrec
  cases e2
  have hLs : L < s.heap.objs.size := F.ns.lt
  have hLc : L < c' := Nat.lt_of_lt_of_le hLs hge
  have old : ∀ b o, h₀.get? b = some o → h'.get? b = some o := fun b o e => hx b o (fun q => by rw [q, hm.2.2] at e; cases e) (F.keep b o e)
  have fresh : ∀ b, L < b → h₀.get? b = none := fun b hb => Heap.get?_none_of_le (Nat.le_trans F.above (Nat.le_of_lt hb))
  refine h h'.objs.size c' oc' vs t ctv doc _ tk ⟨(F.ns.extBut hx hm.2.1.symm).push _, fun b o e => Heap.get?_push_of_some _ (old b o e), F.above⟩ (fun q hq => ?_) hd hv
    (fun q hq => Nat.lt_of_lt_of_le (Heap.lt_size (N q hq).1) hge) hlt
  rcases List.mem_cons.mp hq with rfl | hq
  · exact ⟨Heap.get?_push_of_some _ htb, hm.2⟩
  · rcases List.mem_cons.mp hq with rfl | hq
    · exact ⟨Heap.get?_push_size _ rfl, Nat.ne_of_gt (Nat.lt_trans hLc hlt), fresh _ (Nat.lt_trans hLc hlt)⟩
    · rcases List.mem_cons.mp hq with rfl | hq
      · exact ⟨Heap.get?_push_of_some _ hoc, Nat.ne_of_gt hLc, fresh _ hLc⟩
      · have n := N q (.tail _ hq)
        exact ⟨Heap.get?_push_of_some _ (hx _ _ (hP q hq) n.1), n.2⟩
end
section
variable {w : World} {prog : Program} {A : Around} {E : Value → Shared → Prop} {s : Shared} {h₀ : Heap} {L c P ns : Addr} {m mg mb : Str → Option Value} {rest : List (Addr × Obj)} {oc : Obj} {env : Env} {es : List DictEntry} {n : Nat}
  {p : Program} {loose : List Str} {mean : ExcName → Option Value} {name : Str} {params : Arguments} {body : List Stmt} {scope : Scope} {ps : Array Value} {pos : Pos} {firstLine : Nat} {clos : List (Str × Addr)}
theorem n_nsSet {d : Addr} {k : Str} {v : Value} {Q : Unit → Shared → Prop} (F : Fr h₀ L s.heap m) (N : News h₀ L s.heap ((d, dictOf es n) :: rest)) (h2 : ∀ p ∈ rest, p.1 ≠ d) (hr : es.any (·.refKey) = false)
    (h : ∀ h', Fr h₀ L h' m → News h₀ L h' ((d, dictOf (putL k (PyData.keyHash w.params k) (.str k s.toks) v es) (putN k es n)) :: rest) → Q () { s with heap := h', toks := s.toks + 1 }) :
    wpAny (model prog w) A (nsSet d k v) Q E s := by
  have e : Obj.putName k (PyData.keyHash w.params k) (.str k s.toks) v (dictOf es n) = dictOf (putL k (PyData.keyHash w.params k) (.str k s.toks) v es) (putN k es n) := putName_dict ..
  have D := (N (d, dictOf es n) (.head _)).1
  have c : aRefKeyMayBeTheName k es.toArray = false := by
    rw [aRefKeyMayBeTheName_at, ← Array.any_toList, ← Array.any_toList]
    show (!es.any (·.key.isStr k) && es.any (·.refKey)) = false
    rw [hr, Bool.and_false]
  unfold nsSet
  refine wpAny_bind (wpAny_bind (wpAny_askSetting (wpAny_pure (wpAny_bind (wpAny_mkText (wpAny_bind (wpAny_loadPart D ?_)))))))
  dsimp only
  rw [c]
  have G : (s.heap.update d (Obj.putName k (PyData.keyHash w.params k) (.str k s.toks) v)).get? d = some (dictOf (putL k (PyData.keyHash w.params k) (.str k s.toks) v es) (putN k es n)) := by
    rw [Heap.get?_update_self _ D (by show (Obj.putName k (PyData.keyHash w.params k) (.str k s.toks) v (dictOf es n)).isFreed = false; rw [e]; rfl)]
    exact congrArg some e
  obtain ⟨F', N'⟩ := Mine.news_upd F N (Upd.head h2) (Heap.SameBut.update s.heap d (Obj.putName k (PyData.keyHash w.params k) (.str k s.toks) v)) G
  exact wpAny_updatePart D (h _ F' N')
theorem cs_store {Q : Unit → Shared → Prop} {v : Value} (F : Fr h₀ L s.heap m) (N : News h₀ L s.heap ((ns, dictOf es n) :: rest)) (hn : ∀ q ∈ rest, q.1 ≠ ns) (hl : env.locals = ns) (hst : storeName env name v = localSet env name v)
    (hr : es.any (·.refKey) = false)
    (h : ∀ h', Fr h₀ L h' m → News h₀ L h' ((ns, dictOf (putL name (PyData.keyHash w.params name) (.str name s.toks) v es) (putN name es n)) :: rest) → Q () { s with heap := h', toks := s.toks + 1 }) :
    wpAny (model prog w) A (storeName env name v) Q E s := by
  rw [hst]
  unfold localSet
  rw [hl]
  refine wpAny_bind (wpAny_load (N _ (.head _)).1 ?_)
  rw [if_pos (show ((ns, dictOf es n).snd.cls == Value.type "dict") = true from rfl)]
  exact n_nsSet F N hn hr h
theorem cs_def {Q : Flow → Shared → Prop} (F : Fr h₀ L s.heap m) (N : News h₀ L s.heap ((ns, dictOf es n) :: (P, tabObj ps) :: rest)) (hn : ∀ q ∈ (P, tabObj ps) :: rest, q.1 ≠ ns) (hP : ∀ q ∈ rest, q.1 ≠ P) (T : Top p loose mean mg mb h₀) (hc : (c, oc) ∈ rest)
    (C : ∀ h : Heap, h.get? c = some oc → CodeHd h c P) (hcd : env.code = .ref c) (hg : env.globals = mainGlobals) (ht : TriplesOk ps.toList) (hnf : codeAmong pos ps.toList = none) (hcl : closureFor scope env = pure clos)
    (hl : env.locals = ns) (hst : ∀ v, storeName env name v = localSet env name v) (hr : es.any (·.refKey) = false)
    (hd0 : params.defaults = []) (hk0 : params.kw_defaults = []) (ha : annTrees params none env = [])
    (h : ∀ f c' oc' vs t ctv doc h' tk tk', Fr h₀ L h' m →
      News h₀ L h' ((ns, dictOf (putL name (PyData.keyHash w.params name) (.str name tk') (.ref f) es) (putN name es n)) :: (P, tabObj (ps ++ #[rawInt pos.line, rawInt pos.col, .ref c'])) ::
        (f, fnMade name (qualnameIn env name name) params body scope clos doc ((mg "__name__").getD .none) c' ctv) :: (c', oc') :: rest) →
      oc'.data = .fields vs → vs[1]? = some (.str (qualnameIn env name name) t) → (∀ q ∈ (ns, dictOf es n) :: (P, tabObj ps) :: rest, q.1 < c') → c' < f → Q .next { s with heap := h', toks := tk }) :
    wpAny (model prog w) A (exec (.FunctionDef name params body [] none [] scope none name pos) env) Q E s := by
  refine nestDef_K hd0 hk0 ha ?_
  refine cs_make (rest := (ns, dictOf es n) :: rest) F (news_sub N fun q hq => ?_) (fun q hq => ?_) T (.tail _ hc) C hcd hg ht hnf hcl fun f c' oc' vs t ctv doc h' tk F' N' hd hv hlt hcf => ?_
  · rcases List.mem_cons.mp hq with rfl | hq
    · exact .tail _ (.head _)
    · rcases List.mem_cons.mp hq with rfl | hq
      · exact .head _
      · exact .tail _ (.tail _ hq)
  · rcases List.mem_cons.mp hq with rfl | hq
    · exact fun e => hn (P, tabObj ps) (.head _) e.symm
    · exact hP q hq
  have lts : ∀ q ∈ (ns, dictOf es n) :: (P, tabObj ps) :: rest, q.1 < c' := fun q hq => by
    rcases List.mem_cons.mp hq with rfl | hq
    · exact hlt _ (.tail _ (.head _))
    · rcases List.mem_cons.mp hq with rfl | hq
      · exact hlt (P, tabObj ps) (.head _)
      · exact hlt _ (.tail _ (.tail _ hq))
  have hnc : ns < c' := lts _ (.head _)
  refine cs_store (n := n) (rest := (P, tabObj (ps ++ #[rawInt pos.line, rawInt pos.col, .ref c'])) :: (f, fnMade name (qualnameIn env name name) params body scope clos doc ((mg "__name__").getD .none) c' ctv) :: (c', oc') :: rest) F' (news_sub N' fun q hq => ?_) (fun q hq => ?_) hl (hst _) hr fun h' F' N' => ?_
  · rcases List.mem_cons.mp hq with rfl | hq
    · exact .tail _ (.tail _ (.tail _ (.head _)))
    · rcases List.mem_cons.mp hq with rfl | hq
      · exact .head _
      · rcases List.mem_cons.mp hq with rfl | hq
        · exact .tail _ (.head _)
        · rcases List.mem_cons.mp hq with rfl | hq
          · exact .tail _ (.tail _ (.head _))
          · exact .tail _ (.tail _ (.tail _ (.tail _ hq)))
  · rcases List.mem_cons.mp hq with rfl | hq
    · exact hn (P, tabObj ps) (.head _)
    · rcases List.mem_cons.mp hq with rfl | hq
      · exact Nat.ne_of_gt (Nat.lt_trans hnc hcf)
      · rcases List.mem_cons.mp hq with rfl | hq
        · exact Nat.ne_of_gt hnc
        · exact hn q (.tail _ hq)
  exact h f c' oc' vs t ctv doc _ _ _ F' N' hd hv lts hcf
end
section
variable {M : Model} {A : Around} {E : Value → Shared → Prop} {s : Shared} {h₀ : Heap} {L c P : Addr} {m : Str → Option Value} {rest : List (Addr × Obj)} {env : Env}
  {name qual : Str} {scope : Scope} {ps : Array Value} {pos : Pos} {firstLine : Nat}
theorem cs_code {Q : Value → Shared → Prop} (F : Fr h₀ L s.heap m) (N : News h₀ L s.heap ((P, tabObj ps) :: rest)) (hP : ∀ q ∈ rest, q.1 ≠ P) (C : CodeHd h₀ c P) (hcd : env.code = .ref c) (ht : TriplesOk ps.toList) (hnf : codeAmong pos ps.toList = none)
    (h : ∀ c' P' oc' h' tk, Fr h₀ L h' m → News h₀ L h' ((P, tabObj (ps ++ #[rawInt pos.line, rawInt pos.col, .ref c'])) :: (P', tabObj #[]) :: (c', oc') :: rest) → (∀ h : Heap, h.get? c' = some oc' → CodeHd h c' P') →
      (∀ q ∈ (P, tabObj ps) :: rest, q.1 < c' ∧ q.1 < P') → c' ≠ P' → Q (.ref c') { s with heap := h', toks := tk }) :
    wpAny M A (classCode env pos firstLine name qual scope) Q E s := by
  have hm := N (P, tabObj ps) (.head _)
  have hop : s.heap.get? P = some (tabObj ps) := hm.1
  obtain ⟨o, vs, file, tf, flags, tg, inF, text, tt, ho, hcl, hd, h11', h11, h2, h7, h9, h10, hne⟩ := C.keeps F.keep
  unfold classCode codeAt
  rw [hcd, if_neg (show ¬ ((Value.ref c == Value.none) = true) from Bool.false_ne_true)]
  refine wpAny_bind (wpAny_fieldsOf ho hd ?_)
  rw [h11]
  refine wpAny_bind (wpAny_fieldsOf hop rfl ?_)
  rw [hnf, h2, h7, h9, h10]
  refine wpAny_bind (wpAny_newCodeX fun c' P' h' tk hk hc' hP' hcode' htab' hrec' => ?_)
  have hop' := hk _ _ hop
  refine wpAny_bind (wpAny_updateFieldsOfTheText hop' rfl ?_)
  have hnew : Obj.mapFields (fun vs => if (codeAmong pos vs.toList).isSome = true then vs else vs ++ #[rawInt pos.line, rawInt pos.col, .ref c']) (tabObj ps) = tabObj (ps ++ #[rawInt pos.line, rawInt pos.col, .ref c']) := by
    show tabObj (if (codeAmong pos ps.toList).isSome = true then ps else ps ++ #[rawInt pos.line, rawInt pos.col, .ref c']) = _
    rw [hnf]; rfl
  have hget := Heap.get?_update_self (h := h') (fun o => Obj.mapFields (fun vs => if (codeAmong pos vs.toList).isSome = true then vs else
    vs ++ #[rawInt pos.line, rawInt pos.col, .ref c']) o) hop' (by rw [hnew]; rfl)
  rw [hnew] at hget
  refine wpAny_bind (wpAny_fieldsOf hget rfl ?_)
  have hl : (ps ++ #[rawInt pos.line, rawInt pos.col, Value.ref c']).toList = ps.toList ++ [rawInt pos.line, rawInt pos.col, .ref c'] := by simp
  rw [hl, codeAmong_snoc _ ht hnf]
  have hPs : P < s.heap.objs.size := Heap.lt_size hop
  have hcP : c' ≠ P := Nat.ne_of_gt (Nat.lt_of_lt_of_le hPs hc')
  have hP'P : P' ≠ P := Nat.ne_of_gt (Nat.lt_of_lt_of_le hPs hP')
  have hLs : L < s.heap.objs.size := F.ns.lt
  have fresh : ∀ b, L < b → h₀.get? b = none := fun b hb => Heap.get?_none_of_le (Nat.le_trans F.above (Nat.le_of_lt hb))
  have sb : Heap.ExtBut P h' (h'.update P _) := (Heap.SameBut.update h' P fun o => Obj.mapFields (fun vs => if (codeAmong pos vs.toList).isSome = true then vs else vs ++ #[rawInt pos.line, rawInt pos.col, .ref c']) o).extBut
  have all : ∀ b o, b ≠ P → s.heap.get? b = some o → (h'.update P (fun o => Obj.mapFields (fun vs => if (codeAmong pos vs.toList).isSome = true then vs else vs ++ #[rawInt pos.line, rawInt pos.col, .ref c']) o)).get? b = some o := fun b o hb e => sb b o hb (hk b o e)
  have Hd := CodeHd.of hcode' htab'
  obtain ⟨oc', vs', f1, f2, f3, f4, f5, f6, f7, g0, g1, g2, g3⟩ := id Hd
  have hcc : c' ≠ P' := g3.2.2.2.2.2.2
  have htP : h'.get? P' = some (tabObj #[]) := htab'.2
  refine wpAny_pure (h c' P' oc' _ _ ⟨F.ns.at fun o e => all _ o (fun q => hm.2.1 q.symm) e, fun b o e => all b o (fun q => by rw [q, hm.2.2] at e; cases e) (F.keep b o e), F.above⟩ (fun q hq => ?_) (fun h e => ⟨oc', vs', f1, f2, f3, f4, f5, f6, f7, e, g1, g2, g3⟩) (fun q hq => ?_) hcc)
  · rcases List.mem_cons.mp hq with rfl | hq
    · exact ⟨hget, hm.2⟩
    · rcases List.mem_cons.mp hq with rfl | hq
      · exact ⟨sb _ _ hP'P htP, Nat.ne_of_gt (Nat.lt_of_lt_of_le hLs hP'), fresh _ (Nat.lt_of_lt_of_le hLs hP')⟩
      · rcases List.mem_cons.mp hq with rfl | hq
        · exact ⟨sb _ _ hcP g0, Nat.ne_of_gt (Nat.lt_of_lt_of_le hLs hc'), fresh _ (Nat.lt_of_lt_of_le hLs hc')⟩
        · have n := N q (.tail _ hq)
          exact ⟨all _ _ (hP q hq) n.1, n.2⟩
  · have lt := Heap.lt_size (N q hq).1
    exact ⟨Nat.lt_of_lt_of_le lt hc', Nat.lt_of_lt_of_le lt hP'⟩
end
structure CB (h₀ : Heap) (L : Addr) (m : Str → Option Value) (ns P c : Addr) (oc : Obj) (es : List DictEntry) (n : Nat) (ps : Array Value) (rest : List (Addr × Obj)) (h : Heap) : Prop where
  F : Fr h₀ L h m
  N : News h₀ L h ((ns, dictOf es n) :: (P, tabObj ps) :: rest)
  hn : ∀ q ∈ (P, tabObj ps) :: rest, q.1 ≠ ns
  hP : ∀ q ∈ rest, q.1 ≠ P
  hc : (c, oc) ∈ rest
  C : ∀ h : Heap, h.get? c = some oc → CodeHd h c P
section
variable {w : World} {prog : Program} {A : Around} {E : Value → Shared → Prop} {s : Shared} {h₀ : Heap} {L c P ns : Addr} {m mg mb : Str → Option Value} {rest : List (Addr × Obj)} {oc : Obj} {env : Env} {es : List DictEntry} {n : Nat}
  {p : Program} {loose : List Str} {mean : ExcName → Option Value} {name : Str} {params : Arguments} {body : List Stmt} {scope : Scope} {ps : Array Value} {pos : Pos} {firstLine : Nat} {clos : List (Str × Addr)}
theorem cb_store {Q : Unit → Shared → Prop} {v : Value} (B : CB h₀ L m ns P c oc es n ps rest s.heap) (hl : env.locals = ns) (hst : storeName env name v = localSet env name v)
    (hr : es.any (·.refKey) = false)
    (h : ∀ h', CB h₀ L m ns P c oc (putL name (PyData.keyHash w.params name) (.str name s.toks) v es) (putN name es n) ps rest h' → Q () { s with heap := h', toks := s.toks + 1 }) :
    wpAny (model prog w) A (storeName env name v) Q E s :=
  cs_store B.F B.N B.hn hl hst hr fun h' F' N' => h h' ⟨F', N', B.hn, B.hP, B.hc, B.C⟩
theorem cb_def {Q : Flow → Shared → Prop} (B : CB h₀ L m ns P c oc es n ps rest s.heap) (T : Top p loose mean mg mb h₀) (hcd : env.code = .ref c) (hg : env.globals = mainGlobals) (ht : TriplesOk ps.toList) (hnf : codeAmong pos ps.toList = none) (hcl : closureFor scope env = pure clos)
    (hl : env.locals = ns) (hst : ∀ v, storeName env name v = localSet env name v) (hr : es.any (·.refKey) = false)
    (hd0 : params.defaults = []) (hk0 : params.kw_defaults = []) (ha : annTrees params none env = [])
    (h : ∀ f c' oc' vs t ctv doc h' tk tk', CB h₀ L m ns P c oc (putL name (PyData.keyHash w.params name) (.str name tk') (.ref f) es) (putN name es n) (ps ++ #[rawInt pos.line, rawInt pos.col, .ref c'])
        ((f, fnMade name (qualnameIn env name name) params body scope clos doc ((mg "__name__").getD .none) c' ctv) :: (c', oc') :: rest) h' →
      oc'.data = .fields vs → vs[1]? = some (.str (qualnameIn env name name) t) → (∀ q ∈ (ns, dictOf es n) :: (P, tabObj ps) :: rest, q.1 < c') → c' < f → Q .next { s with heap := h', toks := tk }) :
    wpAny (model prog w) A (exec (.FunctionDef name params body [] none [] scope none name pos) env) Q E s :=
  cs_def B.F B.N B.hn B.hP T B.hc B.C hcd hg ht hnf hcl hl hst hr hd0 hk0 ha fun f c' oc' vs t ctv doc h' tk tk' F' N' hd hv lts hcf =>
    h f c' oc' vs t ctv doc h' tk tk' ⟨F', N', (fun q hq => by
      have hnc : ns < c' := lts _ (.head _)
      rcases List.mem_cons.mp hq with rfl | hq
      · exact B.hn (P, tabObj ps) (.head _)
      · rcases List.mem_cons.mp hq with rfl | hq
        · exact Nat.ne_of_gt (Nat.lt_trans hnc hcf)
        · rcases List.mem_cons.mp hq with rfl | hq
          · exact Nat.ne_of_gt hnc
          · exact B.hn q (.tail _ hq)), (fun q hq => by
      have hnc : P < c' := lts _ (.tail _ (.head _))
      rcases List.mem_cons.mp hq with rfl | hq
      · exact Nat.ne_of_gt (Nat.lt_trans hnc hcf)
      · rcases List.mem_cons.mp hq with rfl | hq
        · exact Nat.ne_of_gt hnc
        · exact B.hP q hq), .tail _ (.tail _ B.hc), B.C⟩ hd hv lts hcf
end
section
variable {M : Model} {A : Around} {E : Value → Shared → Prop} {s : Shared} {h₀ : Heap} {L c P : Addr} {m : Str → Option Value} {news rest : List (Addr × Obj)} {env : Env} {g : Obj → List (Addr × Obj)}
  {name qual : Str} {scope : Scope} {ps : Array Value} {pos : Pos} {firstLine : Nat}
theorem cs_codeU {Q : Value → Shared → Prop} (F : Fr h₀ L s.heap m) (N : News h₀ L s.heap news) (U : UpdF P (tabObj ps) news g) (C : CodeHd h₀ c P) (hcd : env.code = .ref c) (ht : TriplesOk ps.toList) (hnf : codeAmong pos ps.toList = none)
    (h : ∀ c' P' oc' h' tk, Fr h₀ L h' m → News h₀ L h' ((P', tabObj #[]) :: (c', oc') :: g (tabObj (ps ++ #[rawInt pos.line, rawInt pos.col, .ref c']))) → (∀ h : Heap, h.get? c' = some oc' → CodeHd h c' P') →
      (∀ o, ∀ q ∈ g o, q.1 < c') → (∀ o, ∀ q ∈ g o, q.1 < P') → c' ≠ P' → Q (.ref c') { s with heap := h', toks := tk }) :
    wpAny M A (classCode env pos firstLine name qual scope) Q E s := by
  obtain ⟨own, rest, rfl, hgr, h1, h2⟩ := U.split
  refine cs_code (rest := own ++ rest) F (news_sub N fun q hq => ?_) (fun q hq => (List.mem_append.mp hq).elim (h1 q) (h2 q)) C hcd ht hnf fun c' P' oc' h' tk F' N' hC lt hne => h c' P' oc' h' tk F' (news_sub N' fun q hq => ?_) hC (fun o q hq => ?_) (fun o q hq => ?_) hne
  · rcases List.mem_cons.mp hq with rfl | hq
    · exact List.mem_append_right _ (.head _)
    · exact (List.mem_append.mp hq).elim (List.mem_append_left _) fun k => List.mem_append_right _ (.tail _ k)
  · rcases List.mem_cons.mp hq with rfl | hq
    · exact .tail _ (.head _)
    · rcases List.mem_cons.mp hq with rfl | hq
      · exact .tail _ (.tail _ (.head _))
      · rw [hgr] at hq
        rcases List.mem_append.mp hq with k | k
        · exact .tail _ (.tail _ (.tail _ (List.mem_append_left _ k)))
        · rcases List.mem_cons.mp k with rfl | k
          · exact .head _
          · exact .tail _ (.tail _ (.tail _ (List.mem_append_right _ k)))
  all_goals
    have k : ∃ r ∈ (P, tabObj ps) :: (own ++ rest), r.1 = q.1 := by
      rw [hgr] at hq
      rcases List.mem_append.mp hq with k | k
      · exact ⟨q, .tail _ (List.mem_append_left _ k), rfl⟩
      · rcases List.mem_cons.mp k with rfl | k
        · exact ⟨_, .head _, rfl⟩
        · exact ⟨q, .tail _ (List.mem_append_right _ k), rfl⟩
    obtain ⟨r, k, e⟩ := k
    rw [← e]
  · exact (lt r k).1
  · exact (lt r k).2
theorem n_iteB {α : Type} {w : World} {q : Addr} {o : Obj} {Q : α → Shared → Prop} {t e : Sem α} (N : News h₀ L s.heap news) (hm : (q, o) ∈ news) (B : Boot w h₀) (h : wpAny M A e Q E s) : wpAny M A (if (q == sysModules) = true then t else e) Q E s := by
  rw [if_neg (fun z => ?_)]
  · exact h
  · have := eq_of_beq z
    subst this
    have k := (N _ hm).2.2
    have b : ∃ o, h₀.get? sysModules = some o := ⟨_, B (1, boot_o_1 w.params) (.tail _ (.head _))⟩
    obtain ⟨o, ho⟩ := b
    rw [ho] at k; cases k
theorem n_spDict {x : Str} {d : Addr} {es : List DictEntry} {n : Nat} {r : Option Value} {Q : Option Value → Shared → Prop} (N : News h₀ L s.heap news) (hm : (d, dictOf es n) ∈ news) (e : typeLookup (.type "dict") x = pure r) (h : Q r s) :
    wpAny M A (specialOf (.ref d) x) Q E s := by
  unfold specialOf
  refine wpAny_bind (wpAny_bind (m := load d) (wpAny_load (N.get hm) (wpAny_pure ?_)))
  show wpAny M A (typeLookup (.type "dict") x) Q E s
  rw [e]
  exact wpAny_pure h
end
section
variable {M : Model} {A : Around} {E : Value → Shared → Prop} {s : Shared} {h₀ : Heap} {L : Addr} {m mg mb : Str → Option Value} {news : List (Addr × Obj)} {p : Program} {loose : List Str} {mean : ExcName → Option Value}
theorem n_builtins {r : Addr} {Q : Addr → Shared → Prop} (F : Fr h₀ L s.heap m) (T : Top p loose mean mg mb h₀) (h : Q builtinsNs s) : wpAny M A (builtinsFor mainGlobals r) Q E s := by
  obtain ⟨bm, ob, b1, b2, b3, b4, b5, b6⟩ := T.bmain
  exact wpAny_builtinsFor (T.g.keeps F.keep) b1 b2 (F.keep _ _ b3) b4 b5 b6 h
theorem n_bodyFrame {code : Value} {l b : Addr} {Q : Addr → Shared → Prop} (F : Fr h₀ L s.heap m) (N : News h₀ L s.heap news) (T : Top p loose mean mg mb h₀)
    (h : ∀ a o h', Fr h₀ L h' m → News h₀ L h' ((a, o) :: news) → (∀ p ∈ news, p.1 < a) → Q a { s with heap := h' }) : wpAny M A (newBodyFrame code mainGlobals l b) Q E s := by
  unfold newBodyFrame
  exact wpAny_bind (wpAny_nsGet (T.g.keeps F.keep) (n_alloc (k := Sem.pure) F N rfl fun a h' F' N' lt => wpAny_pure (h a _ h' F' N' lt)))
theorem n_localNone {env : Env} {x : Str} {es : List DictEntry} {n : Nat} {Q : Option Value → Shared → Prop} (N : News h₀ L s.heap news) (hm : (env.locals, dictOf es n) ∈ news) (e : getL x es = some none) (h : Q none s) : wpAny M A (localGet env x) Q E s := by
  unfold localGet
  refine wpAny_bind (wpAny_load (N.get hm) ?_)
  rw [if_pos (show ((dictOf es n).cls == Value.type "dict") = true from rfl)]
  unfold nsGet
  refine wpAny_bind (wpAny_loadPart (N.get hm) ?_)
  rw [nsLook_of (show lookIn x (dictOf es n) = some none from e)]
  exact wpAny_pure h
theorem n_global {env : Env} {x : Str} {v : Value} {Q : Value → Shared → Prop} (F : Fr h₀ L s.heap m) (T : Top p loose mean mg mb h₀) (hg : env.globals = mainGlobals) (e : mg x = some v) (h : Q v s) : wpAny M A (loadGlobal env x) Q E s := by
  unfold loadGlobal
  rw [hg]
  refine wpAny_bind (wpAny_nsGet (T.g.keeps F.keep) ?_)
  rw [e]
  exact wpAny_pure h
end
theorem cb_start {h₀ h : Heap} {L ns P c a : Addr} {m : Str → Option Value} {oc o : Obj} {r : List (Addr × Obj)} (F : Fr h₀ L h m) (N : News h₀ L h ((a, o) :: (P, tabObj #[]) :: (c, oc) :: (ns, dictOf [] 0) :: r))
    (C : ∀ h : Heap, h.get? c = some oc → CodeHd h c P) (l1 : ∀ q ∈ (ns, dictOf [] 0) :: r, q.1 < c) (l2 : ∀ q ∈ (ns, dictOf [] 0) :: r, q.1 < P) (hcP : c ≠ P) (l3 : ∀ q ∈ (P, tabObj #[]) :: (c, oc) :: (ns, dictOf [] 0) :: r, q.1 < a) (hn : ∀ q ∈ r, q.1 ≠ ns) :
    CB h₀ L m ns P c oc [] 0 #[] ((a, o) :: (c, oc) :: r) h := by
  refine ⟨F, news_sub N fun q hq => ?_, fun q hq => ?_, fun q hq => ?_, .tail _ (.head _), C⟩
  · rcases List.mem_cons.mp hq with rfl | hq
    · exact .tail _ (.tail _ (.tail _ (.head _)))
    · rcases List.mem_cons.mp hq with rfl | hq
      · exact .tail _ (.head _)
      · rcases List.mem_cons.mp hq with rfl | hq
        · exact .head _
        · rcases List.mem_cons.mp hq with rfl | hq
          · exact .tail _ (.tail _ (.head _))
          · exact .tail _ (.tail _ (.tail _ (.tail _ hq)))
  · rcases List.mem_cons.mp hq with rfl | hq
    · exact Nat.ne_of_gt (l2 _ (.head _))
    · rcases List.mem_cons.mp hq with rfl | hq
      · exact Nat.ne_of_gt (l3 _ (.tail _ (.tail _ (.head _))))
      · rcases List.mem_cons.mp hq with rfl | hq
        · exact Nat.ne_of_gt (l1 _ (.head _))
        · exact hn q hq
  · rcases List.mem_cons.mp hq with rfl | hq
    · exact Nat.ne_of_gt (l3 _ (.head _))
    · rcases List.mem_cons.mp hq with rfl | hq
      · exact hcP
      · exact Nat.ne_of_lt (l2 _ (.tail _ hq))
noncomputable def AllNe (d : Nat) : List (Addr × Obj) → Prop
  | [] => True
  | p :: r => @Ne Nat p.1 d ∧ AllNe d r
theorem allNe_of {d : Addr} : ∀ {l : List (Addr × Obj)}, (∀ p ∈ l, p.1 ≠ d) → AllNe d l
  | [], _ => trivial
  | p :: _, h => ⟨h p (.head _), allNe_of fun q hq => h q (.tail _ hq)⟩
theorem ne_of_allNe {d : Addr} : ∀ {l : List (Addr × Obj)}, AllNe d l → ∀ p ∈ l, p.1 ≠ d
  | [], _, _, hp => nomatch hp
  | q :: l, h, p, hp => by
    rcases List.mem_cons.mp hp with e | hp
    · rw [e]; exact h.1
    · exact ne_of_allNe h.2 p hp
section
variable {M : Model} {A : Around} {E : Value → Shared → Prop} {s : Shared} {h₀ : Heap} {L c P ns : Addr} {m : Str → Option Value} {rest : List (Addr × Obj)} {oc : Obj} {es : List DictEntry} {n : Nat} {ps : Array Value}
theorem cb_push {h h' : Heap} {a : Addr} {o : Obj} (B : CB h₀ L m ns P c oc es n ps rest h) (F : Fr h₀ L h' m) (N : News h₀ L h' ((a, o) :: (ns, dictOf es n) :: (P, tabObj ps) :: rest)) (lt : ∀ q ∈ (ns, dictOf es n) :: (P, tabObj ps) :: rest, q.1 < a) :
    CB h₀ L m ns P c oc es n ps ((a, o) :: rest) h' := by
  refine ⟨F, news_sub N fun q hq => ?_, fun q hq => ?_, fun q hq => ?_, .tail _ B.hc, B.C⟩
  · rcases List.mem_cons.mp hq with rfl | hq
    · exact .tail _ (.head _)
    · rcases List.mem_cons.mp hq with rfl | hq
      · exact .tail _ (.tail _ (.head _))
      · rcases List.mem_cons.mp hq with rfl | hq
        · exact .head _
        · exact .tail _ (.tail _ (.tail _ hq))
  · rcases List.mem_cons.mp hq with rfl | hq
    · exact B.hn _ (.head _)
    · rcases List.mem_cons.mp hq with rfl | hq
      · exact Nat.ne_of_gt (lt _ (.head _))
      · exact B.hn _ (.tail _ hq)
  · rcases List.mem_cons.mp hq with rfl | hq
    · exact Nat.ne_of_gt (lt _ (.tail _ (.head _)))
    · exact B.hP _ hq
theorem cb_newList {vs : List Value} {Q : Value → Shared → Prop} (B : CB h₀ L m ns P c oc es n ps rest s.heap)
    (h : ∀ l h', CB h₀ L m ns P c oc es n ps ((l, { cls := .type "list", data := .seq vs.toArray }) :: rest) h' → (∀ q ∈ (ns, dictOf es n) :: (P, tabObj ps) :: rest, q.1 < l) → Q (.ref l) { s with heap := h' }) (hsz : vs.length ≤ sizeLine := by size_fits) :
    wpAny M A (newList vs) Q E s :=
  newList_N B.F B.N (fun h' F' N' => h _ h' (cb_push B F' N' fun q hq => Heap.lt_size (B.N q hq).1) fun q hq => Heap.lt_size (B.N q hq).1) hsz
theorem cb_newTuple {vs : List Value} {Q : Value → Shared → Prop} (B : CB h₀ L m ns P c oc es n ps rest s.heap)
    (h : ∀ l h', CB h₀ L m ns P c oc es n ps ((l, { cls := .type "tuple", data := .seq vs.toArray }) :: rest) h' → (∀ q ∈ (ns, dictOf es n) :: (P, tabObj ps) :: rest, q.1 < l) → Q (.ref l) { s with heap := h' }) (hsz : vs.length ≤ sizeLine := by size_fits) :
    wpAny M A (newTuple vs) Q E s :=
  newTuple_N B.F B.N (fun h' F' N' => h _ h' (cb_push B F' N' fun q hq => Heap.lt_size (B.N q hq).1) fun q hq => Heap.lt_size (B.N q hq).1) hsz
end
end
section --Xb
open PySem PySem.W PySem.Calls PyProof.Rows PySem.W.X PySem.W.XRun
noncomputable abbrev bmO (id : String) (d : Addr) : Obj := ⟨.type "builtin_function_or_method", none, .fields #[.builtin id, .ref d], #[]⟩
noncomputable abbrev setO (led : Bool) : Obj := ⟨.type "set", none, .set #[] 0 (.fresh 0 0 led), #[]⟩
theorem tl_dga : typeLookup (.type "dict") (Str.ofString "__getattribute__") = pure (some (.builtin "dict.__getattribute__")) := by kernel_rfl
theorem tl_sga : typeLookup (.type "set") (Str.ofString "__getattribute__") = pure (some (.builtin "set.__getattribute__")) := by kernel_rfl
theorem bs_dga (d : Addr) : bindSpecial (.builtin "dict.__getattribute__") (.ref d) = pure (.builtin "dict.__getattribute__", [.ref d]) := by kernel_rfl
theorem bs_sga (d : Addr) : bindSpecial (.builtin "set.__getattribute__") (.ref d) = pure (.builtin "set.__getattribute__", [.ref d]) := by kernel_rfl
theorem no_err {α : Type} {M : Model} {A : Around} {t : Sem α} {Q : α → Shared → Prop} {E : Value → Shared → Prop} {s : Shared} (h : wpAny M A t Q (fun _ _ => False) s) : wpAny M A t Q E s := wpAny_mono h (fun _ _ x => x) fun _ _ x => x.elim
section
local macro_rules | `(tactic| x_close) => `(tactic| k_extra "wf00ae")
theorem x_dget : ∀ {w : World} {l : List Env} {gd : Option (List Code)} {s : Shared} {t : Tok} {d : Addr} {es : Array DictEntry} {n : Nat} {Q : Value → Shared → Prop} {E : Value → Shared → Prop} (KX : (KX2 w.params).In s.heap)
    (ho : s.heap.get? d = some ⟨.type "dict", none, .dict es n, #[]⟩) (hQ : ∀ q h tk, Mem s.heap h [] [(q, bmO "dict.get" d)] → Q (.ref q) ⟨h, s.gens, s.drawn, tk, s.os⟩),
    wpAny (model PySem.Challenge.rw_mr0378_01.row.prog w) (Amx l gd) (call (.builtin "dict.__getattribute__") [.ref d, .str (Str.ofString "get") t]) Q E s := by
  w_top off
  k_fill
  intro w l gd s t d es n Q E KX ho hQ
  x_run
theorem x_scont : ∀ {w : World} {l : List Env} {gd : Option (List Code)} {s : Shared} {t : Tok} {d : Addr} {es : Array (Int × Value)} {n : Nat} {tb : SetTable} {Q : Value → Shared → Prop} {E : Value → Shared → Prop} (KX : (KX2 w.params).In s.heap)
    (ho : s.heap.get? d = some ⟨.type "set", none, .set es n tb, #[]⟩) (hQ : ∀ q h tk, Mem s.heap h [] [(q, bmO "set.__contains__" d)] → Q (.ref q) ⟨h, s.gens, s.drawn, tk, s.os⟩),
    wpAny (model PySem.Challenge.rw_mr0378_01.row.prog w) (Amx l gd) (call (.builtin "set.__getattribute__") [.ref d, .str (Str.ofString "__contains__") t]) Q E s := by
  k_fill
  intro w l gd s t d es n tb Q E KX ho hQ
  x_run
end
section
variable {w : World} {E : Value → Shared → Prop} {s : Shared} {h₀ : Heap} {L : Addr} {m : Str → Option Value} {news : List (Addr × Obj)} {l : List Env} {gd : Option (List Code)}
theorem n_dget {d : Addr} {o : Obj} {kvs : List (Int × Value)} {Q : Value → Shared → Prop} (F : Fr h₀ L s.heap m) (N : News h₀ L s.heap news) (X : (Mine.hd0.heap_1 w.params).In h₀) (B : Boot w h₀) (ho : (d, o) ∈ news) (hk : Obj.IsDictOf (intKind PySem.Challenge.rw_mr0378_01.row.prog w) o kvs)
    (h : ∀ q h' tk, Fr h₀ L h' m → News h₀ L h' ((q, bmO "dict.get" d) :: news) → (∀ p ∈ news, p.1 ≠ q) → Q (.ref q) { s with heap := h', toks := tk }) :
    wpAny (model PySem.Challenge.rw_mr0378_01.row.prog w) (Amx l gd) (getAttr (.ref d) (Str.ofString "get") true) Q E s := by
  obtain ⟨c, dd, dt, sl⟩ := o
  obtain ⟨es, ep, ⟨e1, e2, e3⟩, e4, _⟩ := hk
  dsimp only at e1 e2 e3 e4
  subst e1 e2 e3 e4
  exact n_getB (N.get ho) rfl tl_dga (bs_dga d) (x_dget (kx_in (X.keeps F.keep) fun p hp => F.keep _ _ (B p hp)) (N.get ho) fun q h' tk D => ⟨q, rfl, h q h' tk (mem_led D F N).1 (mem_led D F N).2 (mem_ne D N)⟩)
theorem n_scont {d : Addr} {led : Bool} {Q : Value → Shared → Prop} (F : Fr h₀ L s.heap m) (N : News h₀ L s.heap news) (X : (Mine.hd0.heap_1 w.params).In h₀) (B : Boot w h₀) (ho : (d, setO led) ∈ news)
    (h : ∀ q h' tk, Fr h₀ L h' m → News h₀ L h' ((q, bmO "set.__contains__" d) :: news) → (∀ p ∈ news, p.1 ≠ q) → Q (.ref q) { s with heap := h', toks := tk }) :
    wpAny (model PySem.Challenge.rw_mr0378_01.row.prog w) (Amx l gd) (getAttr (.ref d) (Str.ofString "__contains__") true) Q E s :=
  n_getB (N.get ho) rfl tl_sga (bs_sga d) (x_scont (kx_in (X.keeps F.keep) fun p hp => F.keep _ _ (B p hp)) (N.get ho) fun q h' tk D => ⟨q, rfl, h q h' tk (mem_led D F N).1 (mem_led D F N).2 (mem_ne D N)⟩)
end
section
variable {prog : Program} {w : World} {A : Around} {E : Value → Shared → Prop} {s : Shared} {h₀ : Heap} {L : Addr} {news : List (Addr × Obj)} {d q : Addr}
theorem n_scon {led : Bool} {v : Int} {t : Tok} {Q : Value → Shared → Prop} (N : News h₀ L s.heap news) (hq : (q, bmO "set.__contains__" d) ∈ news) (hd : (d, setO led) ∈ news) (h : Q (.bool false) { s with toks := s.toks + 1 }) :
    wpAny (model prog w) A (call (.ref q) [.int v t]) Q E s := by
  refine wpAny_call (bc_set (N.get hq) (N.get hd) (codeAny_builtin entry_set_contains ?_))
  have hS : s.heap.SetOf (intKind prog w) d (fun _ => false) 0 := (setObjOf_fresh led).setOf (N.get hd) (by decide)
  unfold Builtin.«frozenset.__contains__» Builtin.Frozenset.oneOther
  simp only [List.isEmpty_nil, bind_assoc]
  unfold Builtin.Frozenset.addrOf Builtin.Frozenset.withSetAsKey setContains
  refine wpAny_bind (wpAny_pure ?_)
  try dsimp only
  refine wpAny_bind (wpAny_pure ?_)
  try dsimp only
  refine wpAny_bind (wpAny_tryCatch ?_)
  refine wpAny_holding ?_
  refine wpAny_bind ((intKind prog w).pyHash (intKind_is _ _ _ _) ?_)
  refine wpAny_bind (wpAny_setFind_of (s := { s with toks := s.toks + 1 }) (intKind_is _ _ _ _) rfl hS fun r hr => ?_)
  refine wpAny_pure ?_
  show wpAny _ _ (ret (Value.bool r.isSome)) _ _ _
  rw [hr]
  exact wpAny_pure h
theorem n_dgetc {o : Obj} {kvs : List (Int × Value)} {k : Int} {t : Tok} {dflt v : Value} {Q : Value → Shared → Prop} (N : News h₀ L s.heap news) (hq : (q, bmO "dict.get" d) ∈ news) (hd : (d, o) ∈ news)
    (hk : Obj.IsDictOf (intKind prog w) o kvs) (lo : (d == sysModules) = false) (hv : (PySem.valueAt kvs k).getD dflt = v) (h : Q v { s with toks := s.toks + 1 }) :
    wpAny (model prog w) A (call (.ref q) [.int k t, dflt]) Q E s := by
  have hD := kda_dict N hd hk
  subst hv
  obtain ⟨c, dd, dt, sl⟩ := o
  obtain ⟨es, ep, ⟨e1, e2, e3⟩, e4, _⟩ := hk
  dsimp only at e1 e2 e3 e4
  subst e1 e2 e3 e4
  exact wpAny_call (bc_dget (N.get hq) (N.get hd) (codeAny_builtin PySem.F.entry_dict_get (by
    rw [Around.under_plainId (by decide +kernel)]
    exact meets_dict_get_default (knd := intKind prog w) (d := d) (intKind_is _ _ _ _) lo dflt A (wants Q E) s ⟨_, hD.mapOf, h⟩)))
end
end
section --Lp
noncomputable def Hm (ps : List (Str × Value)) (x : Str) (stored : List Str) (m₀ m : Str → Option Value) : Prop :=
  (∀ p ∈ ps, m p.1 = some p.2) ∧ (∀ z, z ≠ x → (∀ p ∈ ps, z ≠ p.1) → stored.contains z = false → m z = m₀ z)
noncomputable def TurnE {σ : Type} (h₀ : Heap) (L : Addr) (x : Str) (stored : List Str) (m₀ : Str → Option Value) (Led : σ → List (Addr × Obj)) (ps : σ → List (Str × Value)) (P : σ → Prop) (I : Addr) (oi : Obj) (s₁ s₂ : Shared) : Prop :=
  ∃ (c : σ) (h' : Heap) (tk : Nat) (m' : Str → Option Value), s₂ = { s₁ with heap := h', toks := tk } ∧ Fr h₀ L h' m' ∧ News h₀ L h' ((I, oi) :: Led c) ∧ (∀ p ∈ Led c, p.1 ≠ I) ∧ Hm (ps c) x stored m₀ m' ∧ P c
noncomputable def TurnP {σ : Type} (h₀ : Heap) (L : Addr) (x : Str) (stored : List Str) (m₀ : Str → Option Value) (Led : σ → List (Addr × Obj)) (ps : σ → List (Str × Value)) (P : σ → Prop) (I : Addr) (oi : Obj) (s₁ : Shared) (Q : Flow → Shared → Prop) (f : Flow) (s₂ : Shared) : Prop :=
  match f with
  | .ret v => Q (.ret v) s₂
  | .brk => Q .next s₂
  | _ => TurnE h₀ L x stored m₀ Led ps P I oi s₁ s₂
theorem Hm.fr {h₀ h : Heap} {L : Addr} {x : Str} {ps : List (Str × Value)} {stored : List Str} {m₀ m₁ : Str → Option Value} {v : Value} (H : Hm ps x stored m₀ m₁)
    (F : Fr h₀ L h (fun y => if y = x then some v else m₁ y)) : Fr h₀ L h (fun y => if y = x then some v else kstB (fun z => if stored.contains z then m₁ z else m₀ z) ps y) := kst_fr H.1 H.2 F
theorem Hm.out {h₀ h : Heap} {L : Addr} {x : Str} {ps : List (Str × Value)} {stored : List Str} {m₀ m₁ : Str → Option Value} (H : Hm ps x stored m₀ m₁)
    (F : Fr h₀ L h m₁) : Fr h₀ L h (fun y => if y = x then m₁ y else kstB (fun z => if stored.contains z then m₁ z else m₀ z) ps y) := kst_frOut H.1 H.2 F
section
variable {prog : Program} {w : World} {A : Around} {E : Value → Shared → Prop} {s : Shared} {env : Env} {h₀ : Heap} {x : Str} {body : List Stmt} {Q : Flow → Shared → Prop}
theorem range_loop {σ : Type} {r : Addr} {a₀ b₀ : Int} {t₀ u₀ v₀ : Tok} {n : Nat} {m₀ : Str → Option Value} (Led : σ → List (Addr × Obj)) (ps : σ → List (Str × Value)) (stored : List Str) (P : Nat → σ → Prop) (c₀ : σ)
    (hh : A.handled = none) (hr : IsRange s.heap r a₀ b₀ 1 t₀ u₀ v₀) (hsmall : Builtin.Range.small a₀ b₀ 1 = true) (hn : Builtin.Range.rangeSize a₀ b₀ 1 = (n : Int)) (F : Fr h₀ env.locals s.heap m₀) (N : News h₀ env.locals s.heap (Led c₀)) (hk : ∀ p ∈ ps c₀, m₀ p.1 = some p.2) (hp : P 0 c₀)
    (turn : ∀ (c : σ) (i : Nat) t (u : Str → Option Value) h tk I oi, i < n → P i c → (∀ p ∈ Led c, p.1 ≠ I) →
      Fr h₀ env.locals h (fun y => if y = x then some (.int (a₀ + (i : Int)) t) else kstB (fun z => if stored.contains z then u z else m₀ z) (ps c) y) → News h₀ env.locals h ((I, oi) :: Led c) →
      wpAny (model prog w) A (execs body env) (TurnP h₀ env.locals x stored m₀ Led ps (P (i + 1)) I oi { s with heap := h, toks := tk } Q) E { s with heap := h, toks := tk })
    (done : ∀ (c : σ) (u : Str → Option Value) h tk, P n c → Fr h₀ env.locals h (fun y => if y = x then u y else kstB (fun z => if stored.contains z then u z else m₀ z) (ps c) y) → News h₀ env.locals h (Led c) → Q .next { s with heap := h, toks := tk }) :
    wpAny (model prog w) A (pyIter (.ref r)) (fun it s₂ => LoopAtV prog w A h₀ env x body Q E it s₂) E s := by
  refine wpAny_pyIter_range hr hsmall ?_
  have W : Walks prog w A s.heap.objs.size [s.heap.objs.size] [s.heap.objs.size] n (fun i v => i < n ∧ ∃ t, v = .int (a₀ + i * 1) t)
      (fun i h => IsRangeIter h s.heap.objs.size (a₀ + (i : Nat) * 1) ((n : Int) - (i : Nat)) 1) := (Walks.range hh _ a₀ 1 n).bound
  let J : Nat → (Str → Option Value) → List (Addr × Obj) → Prop := fun i m nx => ∃ c : σ, nx = Led c ∧ Hm (ps c) x stored m₀ m ∧ P i c
  refine ⟨_, _, _, n, _, _, m₀, Led c₀, J, rfl, W, ?_, ?_, ?_, (by show IsRangeIter _ _ _ _ _; rw [hn]; simpa using Heap.get?_push_size _ rfl), F.push _, (fun p hp => ⟨Heap.get?_push_of_some _ (N p hp).1, (N p hp).2⟩), ⟨c₀, rfl, ⟨hk, fun _ _ _ _ => rfl⟩, hp⟩, ?_, ?_⟩
  · intro hm
    exact absurd F.ns.lt ((List.mem_singleton.mp hm) ▸ Nat.lt_irrefl _)
  · intro b hb
    rw [List.mem_singleton.mp hb]
    exact next_is_new F
  · intro p hp hI
    exact absurd (Heap.lt_size (N p hp).1) ((List.mem_singleton.mp hI) ▸ Nat.lt_irrefl _)
  · rintro i v m₁ nx s₁ own ⟨hh', tk', rfl⟩ hin ⟨_, t, rfl⟩ ⟨c, rfl, H, hp'⟩ hoff hown hget hall st F₁ N₁
    have e1 : a₀ + (i : Int) * 1 = a₀ + (i : Int) := by omega
    rw [e1] at F₁
    have hI : h₀.get? s.heap.objs.size = none := next_is_new F
    obtain ⟨oi, ho⟩ : ∃ oi, hh'.get? s.heap.objs.size = some oi := ⟨_, st⟩
    have hmem : (s.heap.objs.size, oi) ∈ own := hall _ (.head _) hI _ ho
    have hne : ∀ p ∈ Led c, p.1 ≠ s.heap.objs.size := fun p hp q => hoff p hp (by rw [q]; exact .head _)
    refine wpAny_mono (turn c i t m₁ hh' tk' s.heap.objs.size oi hin hp' hne (H.fr F₁) (fun p hp => ?_)) (fun f s₂ p => ?_) fun _ _ e => e
    · rcases List.mem_cons.mp hp with rfl | hp
      · exact N₁ _ (List.mem_append_left _ hmem)
      · exact N₁ _ (List.mem_append_right _ hp)
    have fin : TurnE h₀ env.locals x stored m₀ Led ps (P (i + 1)) s.heap.objs.size oi { s with heap := hh', toks := tk' } s₂ → LoopStepU h₀ env.locals [s.heap.objs.size] own (J (i + 1)) { s with heap := hh', toks := tk' } .next s₂ := by
      rintro ⟨c', h', tk, m', e, F', N', hne', H', hP'⟩
      refine ⟨rfl, h', tk, m', Led c', e, F', fun p hp => ?_, fun p hp hq => hne' p hp (List.mem_singleton.mp hq), c', rfl, H', hP'⟩
      rcases List.mem_append.mp hp with hp | hp
      · have q : p.1 = s.heap.objs.size := List.mem_singleton.mp (hown p hp)
        have g := hget p hp
        obtain ⟨pa, po⟩ := p
        dsimp only at q g
        subst q
        have z := ho.symm.trans g
        cases z
        exact N' _ (.head _)
      · exact N' _ (.tail _ hp)
    cases f with
    | ret v => exact .ret p
    | brk => exact .brk p
    | next => exact .next (fin p)
    | cont => exact .cont (fin p)
  · rintro h' tk m' news' F' N' _ ⟨c, rfl, H, hp'⟩
    exact done c m' h' tk hp' (H.out F') N'
theorem list_loop {σ : Type} {l : Addr} {items : Array Value} {nn : Nat} {m₀ : Str → Option Value} (Led : σ → List (Addr × Obj)) (ps : σ → List (Str × Value)) (stored : List Str) (P : Nat → σ → Prop) (c₀ : σ)
    (hh : A.handled = none) (hl : ∀ c : σ, (l, W.listOf items nn) ∈ Led c) (F : Fr h₀ env.locals s.heap m₀) (N : News h₀ env.locals s.heap (Led c₀)) (hk : ∀ p ∈ ps c₀, m₀ p.1 = some p.2) (hp : P 0 c₀)
    (turn : ∀ (c : σ) (i : Nat) v (u : Str → Option Value) h tk I oi, items[i]? = some v → P i c → (∀ p ∈ Led c, p.1 ≠ I) →
      Fr h₀ env.locals h (fun y => if y = x then some v else kstB (fun z => if stored.contains z then u z else m₀ z) (ps c) y) → News h₀ env.locals h ((I, oi) :: Led c) →
      wpAny (model prog w) A (execs body env) (TurnP h₀ env.locals x stored m₀ Led ps (P (i + 1)) I oi { s with heap := h, toks := tk } Q) E { s with heap := h, toks := tk })
    (done : ∀ (c : σ) (u : Str → Option Value) h tk, P items.size c → Fr h₀ env.locals h (fun y => if y = x then u y else kstB (fun z => if stored.contains z then u z else m₀ z) (ps c) y) → News h₀ env.locals h (Led c) → Q .next { s with heap := h, toks := tk }) :
    wpAny (model prog w) A (pyIter (.ref l)) (fun it s₂ => LoopAtV prog w A h₀ env x body Q E it s₂) E s := by
  have hls : s.heap.IsList l items := News.isList N (hl c₀)
  have hlt : l < s.heap.objs.size := Heap.lt_size (N _ (hl c₀)).1
  have hne : l ≠ s.heap.objs.size := Nat.ne_of_lt hlt
  refine wpAny_pyIter_list hls ?_
  have Wk := Walks.list (prog := prog) (w := w) hh s.heap.objs.size l hne items
  let J : Nat → (Str → Option Value) → List (Addr × Obj) → Prop := fun i m nx => ∃ c : σ, nx = Led c ∧ Hm (ps c) x stored m₀ m ∧ P i c
  refine ⟨_, _, _, items.size, _, _, m₀, Led c₀, J, rfl, Wk, ?_, ?_, ?_, ⟨⟨_, Heap.get?_push_size _ rfl, rfl, rfl⟩, hls.at fun o e => Heap.get?_push_of_some _ e⟩, F.push _, (fun p hp => ⟨Heap.get?_push_of_some _ (N p hp).1, (N p hp).2⟩), ⟨c₀, rfl, ⟨hk, fun _ _ _ _ => rfl⟩, hp⟩, ?_, ?_⟩
  · intro hm
    rcases List.mem_cons.mp hm with e | hm
    · exact absurd F.ns.lt (e ▸ Nat.lt_irrefl _)
    · exact (N _ (hl c₀)).2.1 (List.mem_singleton.mp hm).symm
  · intro b hb
    rw [List.mem_singleton.mp hb]
    exact next_is_new F
  · intro p hp hI
    exact absurd (Heap.lt_size (N p hp).1) ((List.mem_singleton.mp hI) ▸ Nat.lt_irrefl _)
  · rintro i v m₁ nx s₁ own ⟨hh', tk', rfl⟩ hin hP ⟨c, rfl, H, hp'⟩ hoff hown hget hall st F₁ N₁
    have hI : h₀.get? s.heap.objs.size = none := next_is_new F
    obtain ⟨oi, ho, _⟩ := id st.1
    have hmem : (s.heap.objs.size, oi) ∈ own := hall _ (.head _) hI _ ho
    have hne : ∀ p ∈ Led c, p.1 ≠ s.heap.objs.size := fun p hp q => hoff p hp (by rw [q]; exact .head _)
    refine wpAny_mono (turn c i v m₁ hh' tk' s.heap.objs.size oi hP hp' hne (H.fr F₁) (fun p hp => ?_)) (fun f s₂ p => ?_) fun _ _ e => e
    · rcases List.mem_cons.mp hp with rfl | hp
      · exact N₁ _ (List.mem_append_left _ hmem)
      · exact N₁ _ (List.mem_append_right _ hp)
    have hlg : hh'.get? l = some (PySem.W.listOf items nn) := (N₁ _ (List.mem_append_right _ (hl c))).1
    have fin : TurnE h₀ env.locals x stored m₀ Led ps (P (i + 1)) s.heap.objs.size oi { s with heap := hh', toks := tk' } s₂ → LoopStepU h₀ env.locals [s.heap.objs.size] own (J (i + 1)) { s with heap := hh', toks := tk' } .next s₂ := by
      rintro ⟨c', h', tk, m', e, F', N', hne', H', hP'⟩
      refine ⟨rfl, h', tk, m', Led c', e, F', fun p hp => ?_, fun p hp hq => hne' p hp (List.mem_singleton.mp hq), c', rfl, H', hP'⟩
      rcases List.mem_append.mp hp with hp | hp
      · have g := hget p hp
        have q := hown p hp
        obtain ⟨pa, po⟩ := p
        dsimp only at q g
        rcases List.mem_cons.mp q with q | q
        · subst q
          have z := ho.symm.trans g
          cases z
          exact N' _ (.head _)
        · have q := List.mem_singleton.mp q
          subst q
          have z := hlg.symm.trans g
          cases z
          exact N' _ (.tail _ (hl c'))
      · exact N' _ (.tail _ hp)
    cases f with
    | ret v => exact .ret p
    | brk => exact .brk p
    | next => exact .next (fin p)
    | cont => exact .cont (fin p)
  · rintro h' tk m' news' F' N' _ ⟨c, rfl, H, hp'⟩
    exact done c m' h' tk hp' (H.out F') N'
end
theorem turn_end {σ : Type} {h₀ : Heap} {L : Addr} {x : Str} {stored : List Str} {m₀ m' : Str → Option Value} {Led : σ → List (Addr × Obj)} {ps : σ → List (Str × Value)} {P : σ → Prop} {I : Addr} {oi : Obj} {s₁ : Shared} {h' : Heap} {tk : Nat} {news' : List (Addr × Obj)} (c : σ)
    (F : Fr h₀ L h' m') (N : News h₀ L h' news') (hs : ∀ p ∈ (I, oi) :: Led c, p ∈ news') (hne : ∀ p ∈ Led c, p.1 ≠ I) (hk : ∀ p ∈ ps c, m' p.1 = some p.2)
    (hr : ∀ z, z ≠ x → (∀ p ∈ ps c, z ≠ p.1) → stored.contains z = false → m' z = m₀ z) (hP : P c) : TurnE h₀ L x stored m₀ Led ps P I oi s₁ { s₁ with heap := h', toks := tk } :=
  ⟨c, h', tk, m', rfl, F, fun p hp => N p (hs p hp), hne, ⟨hk, hr⟩, hP⟩
theorem ne_cons {b I : Addr} {o : Obj} {l : List (Addr × Obj)} (h : b ≠ I) (hl : ∀ p ∈ l, p.1 ≠ I) : ∀ p ∈ (b, o) :: l, p.1 ≠ I := fun p hp => by
  rcases List.mem_cons.mp hp with rfl | hp
  · exact h
  · exact hl p hp
theorem ne_nil {I : Addr} : ∀ p ∈ ([] : List (Addr × Obj)), p.1 ≠ I := fun _ hp => nomatch hp
noncomputable def WExit {σ : Type} (h₀ : Heap) (L : Addr) (s : Shared) (Led : σ → List (Addr × Obj)) (ps : σ → List (Str × Value)) (stored : List Str) (m₀ : Str → Option Value) (R : σ → Prop) (s₂ : Shared) : Prop :=
  ∃ (c' : σ) (h' : Heap) (tk : Nat) (m' : Str → Option Value) (news' : List (Addr × Obj)), s₂ = { s with heap := h', toks := tk } ∧ Fr h₀ L h' m' ∧ News h₀ L h' news' ∧ (∀ p ∈ Led c', p ∈ news') ∧ (∀ p ∈ ps c', m' p.1 = some p.2) ∧ (∀ z, (∀ p ∈ ps c', z ≠ p.1) → stored.contains z = false → m' z = m₀ z) ∧ R c'
noncomputable def WPost {σ : Type} (h₀ : Heap) (L : Addr) (s : Shared) (Led : σ → List (Addr × Obj)) (ps : σ → List (Str × Value)) (stored : List Str) (m₀ : Str → Option Value) (R : σ → Prop) (Q : Flow → Shared → Prop) (f : Flow) (s₂ : Shared) : Prop :=
  match f with
  | .next => WExit h₀ L s Led ps stored m₀ R s₂
  | f => Q f s₂
theorem w_exit {σ : Type} {h₀ : Heap} {L : Addr} {s : Shared} {Led : σ → List (Addr × Obj)} {ps : σ → List (Str × Value)} {stored : List Str} {m₀ m' : Str → Option Value} {R : σ → Prop} {h' : Heap} {tk : Nat} {news' : List (Addr × Obj)} (c' : σ)
    (F : Fr h₀ L h' m') (N : News h₀ L h' news') (hn : ∀ p ∈ Led c', p ∈ news') (hk : ∀ p ∈ ps c', m' p.1 = some p.2) (hr : ∀ z, (∀ p ∈ ps c', z ≠ p.1) → stored.contains z = false → m' z = m₀ z) (hp : R c') :
    WExit h₀ L s Led ps stored m₀ R { s with heap := h', toks := tk } := ⟨c', h', tk, m', news', rfl, F, N, hn, hk, hr, hp⟩
theorem w_turn {σ : Type} {h₀ : Heap} {L : Addr} {s : Shared} {Led : σ → List (Addr × Obj)} {ps : σ → List (Str × Value)} {stored : List Str} {m₀ m' : Str → Option Value} {P : σ → Prop} {μ : σ → Nat} {c : σ} {Q : Flow → Shared → Prop} {h' : Heap} {tk : Nat} {news' : List (Addr × Obj)} (c' : σ)
    (F : Fr h₀ L h' m') (N : News h₀ L h' news') (hn : ∀ p ∈ Led c', p ∈ news') (hk : ∀ p ∈ ps c', m' p.1 = some p.2) (hr : ∀ z, (∀ p ∈ ps c', z ≠ p.1) → stored.contains z = false → m' z = m₀ z) (hp : P c') (hm : μ c' < μ c) :
    KswPost h₀ L s Led ps (fun _ => True) stored m₀ P μ Q c .next { s with heap := h', toks := tk } := ksw_end c' F N hn trivial hk hr hp hm
section
variable {prog : Program} {w : World} {A : Around} {E : Value → Shared → Prop} {Q : Flow → Shared → Prop} {s : Shared} {env : Env} {h₀ : Heap} {L : Addr}
theorem while_loop {σ : Type} {test : Expr} {body : List Stmt} {pos : Pos} {m₀ : Str → Option Value} (Led : σ → List (Addr × Obj)) (ps : σ → List (Str × Value)) (stored : List Str) (P : σ → Prop) (μ : σ → Nat) (R : σ → Prop) (c₀ : σ)
    (F : Fr h₀ L s.heap m₀) (N : News h₀ L s.heap (Led c₀)) (hk : ∀ p ∈ ps c₀, m₀ p.1 = some p.2) (hp : P c₀)
    (turn : ∀ (c : σ) (u : Str → Option Value) h tk, P c → Fr h₀ L h (kstB (fun z => if stored.contains z then u z else m₀ z) (ps c)) → News h₀ L h (Led c) →
      wpAny (model prog w) A (isTrue test env (eval test env)) (fun b s₂ =>
        if b = true then wpAny (model prog w) A (execs body env) (KswPost h₀ L s Led ps (fun _ => True) stored m₀ P μ (WPost h₀ L s Led ps stored m₀ R Q) c) E s₂ else WExit h₀ L s Led ps stored m₀ R s₂) E { s with heap := h, toks := tk })
    (done : ∀ (c : σ) (u : Str → Option Value) h tk, R c → Fr h₀ L h (kstB (fun z => if stored.contains z then u z else m₀ z) (ps c)) → News h₀ L h (Led c) → Q .next { s with heap := h, toks := tk })
    (hE : PassesOwn (model prog w) A env E := by passes_own) :
    wpAny (model prog w) A (exec (.While test body [] pos) env) Q E s := by
  refine wpAny_mono (ksw_while (Q := WPost h₀ L s Led ps stored m₀ R Q) Led ps (fun _ => True) stored P μ c₀ F N trivial hk hp (fun c u h tk _ hP F₁ N₁ => turn c u h tk hP F₁ N₁) hE) (fun f s₂ q => ?_) fun _ _ x => x
  cases f with
  | next =>
    obtain ⟨c', h', tk, m', news', rfl, F', N', hn, hk', hr', hR⟩ := q
    exact done c' m' h' tk hR (ksw_fr hk' hr' F') fun p hp => N' p (hn p hp)
  | ret v => exact q
  | brk => exact q
  | cont => exact q
end
end
section --Pu
noncomputable def prevK (pv : Option (Int × Int)) (v : Int) : Int := match pv with
  | none => 0
  | some (j', k') => if j' = v then k' else 0
noncomputable def fstep (ns : List Int) (blo bhi i ai : Int) : Int × Int × Int × Option (Int × Int) → Int × Int × Int × Option (Int × Int)
  | (bi, bj, bs, pv) =>
    match ns.idxOf? ai with
    | none => (bi, bj, bs, none)
    | some jn =>
      if (jn : Int) < blo then (bi, bj, bs, none)
      else if bhi ≤ (jn : Int) then (bi, bj, bs, none)
      else
        if bs < prevK pv ((jn : Int) - 1) + 1 then (i - (prevK pv ((jn : Int) - 1) + 1) + 1, (jn : Int) - (prevK pv ((jn : Int) - 1) + 1) + 1, prevK pv ((jn : Int) - 1) + 1, some ((jn : Int), prevK pv ((jn : Int) - 1) + 1)) else (bi, bj, bs, some ((jn : Int), prevK pv ((jn : Int) - 1) + 1))
noncomputable def ffold (ms ns : List Int) (alo blo bhi : Int) : Nat → Int × Int × Int × Option (Int × Int)
  | 0 => (alo, blo, 0, none)
  | n + 1 => fstep ns blo bhi (alo + n) (ms.getD (alo + n).toNat 0) (ffold ms ns alo blo bhi n)
noncomputable def backP (ms ns : List Int) (alo blo : Int) : Nat → Int × Int × Int → Int × Int × Int
  | 0, st => st
  | n + 1, (bi, bj, bs) => if alo < bi ∧ blo < bj ∧ ms.getD (bi - 1).toNat 0 = ns.getD (bj - 1).toNat 0 then backP ms ns alo blo n (bi - 1, bj - 1, bs + 1) else (bi, bj, bs)
noncomputable def fwdP (ms ns : List Int) (ahi bhi : Int) : Nat → Int × Int × Int → Int × Int × Int
  | 0, st => st
  | n + 1, (bi, bj, bs) => if bi + bs < ahi ∧ bj + bs < bhi ∧ ms.getD (bi + bs).toNat 0 = ns.getD (bj + bs).toNat 0 then fwdP ms ns ahi bhi n (bi, bj, bs + 1) else (bi, bj, bs)
noncomputable def flmP (ms ns : List Int) (alo ahi blo bhi : Nat) : Int × Int × Int :=
  match ffold ms ns alo blo bhi (ahi - alo) with
  | (bi, bj, bs, _) => fwdP ms ns ahi bhi ms.length (backP ms ns alo blo ms.length (bi, bj, bs))
theorem prevK_nonneg {pv : Option (Int × Int)} {v : Int} (h : ∀ j k, pv = some (j, k) → 1 ≤ k) : 0 ≤ prevK pv v := by
  unfold prevK
  cases pv with
  | none => exact Int.le_refl 0
  | some p =>
    obtain ⟨j, k⟩ := p
    dsimp only
    have := h j k rfl
    split <;> omega
noncomputable def FI (alo ahi blo bhi : Int) (n : Nat) (st : Int × Int × Int × Option (Int × Int)) : Prop :=
  (alo ≤ st.1 ∧ blo ≤ st.2.1 ∧ 0 ≤ st.2.2.1 ∧ st.1 + st.2.2.1 ≤ ahi ∧ st.2.1 + st.2.2.1 ≤ bhi) ∧ ∀ j k, st.2.2.2 = some (j, k) → 1 ≤ k ∧ blo ≤ j - k + 1 ∧ j < bhi ∧ k ≤ n
theorem prevK_bd {pv : Option (Int × Int)} {blo bhi : Int} {n : Nat} (h : ∀ j k, pv = some (j, k) → 1 ≤ k ∧ blo ≤ j - k + 1 ∧ j < bhi ∧ k ≤ n) {j : Int} (hj : blo ≤ j) : 0 ≤ prevK pv (j - 1) ∧ blo ≤ j - prevK pv (j - 1) ∧ prevK pv (j - 1) ≤ n := by
  have h0 : (0 : Int) ≤ 0 ∧ blo ≤ j - 0 ∧ (0 : Int) ≤ (n : Int) := ⟨Int.le_refl 0, (Int.sub_zero j).symm ▸ hj, Int.natCast_nonneg n⟩
  cases pv with
  | none => exact h0
  | some p =>
    unfold prevK
    dsimp only
    split
    · rename_i e
      have h1 := h _ _ rfl
      rw [e] at h1
      exact ⟨Int.le_trans (by decide) h1.1, by have := h1.2.1; omega, h1.2.2.2⟩
    · exact h0
theorem fst_num {alo ahi blo bhi K j : Int} {n : Nat} (hn : alo + (n + 1 : Nat) ≤ ahi) (h : 0 ≤ K ∧ blo ≤ j - K ∧ K ≤ n) (hj : j < bhi) :
    (alo ≤ alo + n - (K + 1) + 1 ∧ blo ≤ j - (K + 1) + 1 ∧ 0 ≤ K + 1 ∧ alo + n - (K + 1) + 1 + (K + 1) ≤ ahi ∧ j - (K + 1) + 1 + (K + 1) ≤ bhi) ∧ 1 ≤ K + 1 ∧ blo ≤ j - (K + 1) + 1 ∧ j < bhi ∧ K + 1 ≤ (n + 1 : Nat) := by
  have e : ∀ a b : Int, a - (b + 1) + 1 = a - b := fun a b => by omega
  obtain ⟨h1, h2, h3⟩ := h
  have e2 : blo ≤ j - (K + 1) + 1 := (e j K).symm ▸ h2
  refine ⟨⟨?_, e2, Int.le_add_one h1, ?_, ?_⟩, Int.add_le_add_right h1 1, e2, hj, Int.add_le_add_right h3 1⟩ <;> omega
theorem fstep_bd {ns : List Int} {alo ahi blo bhi ai : Int} {n : Nat} {st : Int × Int × Int × Option (Int × Int)} (hn : alo + (n + 1 : Nat) ≤ ahi) (h : FI alo ahi blo bhi n st) : FI alo ahi blo bhi (n + 1) (fstep ns blo bhi (alo + n) ai st) := by
  obtain ⟨bi, bj, bs, pv⟩ := st
  have h0 : FI alo ahi blo bhi (n + 1) (bi, bj, bs, none) := ⟨h.1, fun j k q => nomatch q⟩
  unfold fstep
  dsimp only
  split
  · exact h0
  · split
    · exact h0
    · split
      · exact h0
      · rename_i jn _ c1 c2
        have hx := fst_num hn (prevK_bd h.2 (Int.not_lt.mp c1)) (Int.not_le.mp c2)
        split
        · exact ⟨hx.1, fun j k q => by cases q; exact hx.2⟩
        · exact ⟨h.1, fun j k q => by cases q; exact hx.2⟩
theorem ffold_FI {ms ns : List Int} {alo ahi blo bhi : Int} (hb : blo ≤ bhi) (n : Nat) (hn : alo + n ≤ ahi) : FI alo ahi blo bhi n (ffold ms ns alo blo bhi n) := by
  induction n with
  | zero => exact ⟨⟨Int.le_refl _, Int.le_refl _, Int.le_refl _, hn, (Int.add_zero blo).symm ▸ hb⟩, fun j k q => nomatch q⟩
  | succ n ih => exact fstep_bd hn (ih (Int.le_trans (Int.add_le_add_left (Int.ofNat_le.mpr (Nat.le_succ n)) alo) hn))
theorem ffold_bd {ms ns : List Int} {alo ahi blo bhi : Int} (hb : blo ≤ bhi) (n : Nat) (bi bj bs : Int) (pv : Option (Int × Int)) (hn : alo + n ≤ ahi) (e : (bi, bj, bs, pv) = ffold ms ns alo blo bhi n) :
    (alo ≤ bi ∧ blo ≤ bj ∧ 0 ≤ bs ∧ bi + bs ≤ ahi ∧ bj + bs ≤ bhi) ∧ ∀ j k, pv = some (j, k) → 1 ≤ k ∧ blo ≤ j - k + 1 ∧ j < bhi ∧ k ≤ n := by
  have h := ffold_FI (ms := ms) (ns := ns) hb n hn
  rw [← e] at h
  exact h
theorem ffold_inv {ms ns : List Int} {alo ahi blo bhi : Int} (h0 : 0 ≤ alo) (h1 : 0 ≤ blo) (hb : blo ≤ bhi) (n : Nat) (bi bj bs : Int) (pv : Option (Int × Int)) (hn : alo + n ≤ ahi) (e : (bi, bj, bs, pv) = ffold ms ns alo blo bhi n) :
    bi ≤ ahi ∧ bj ≤ bhi ∧ 0 ≤ bi + bs ∧ 0 ≤ bj + bs ∧ ∀ j k, pv = some (j, k) → 1 ≤ k := by
  have h := ffold_bd hb n bi bj bs pv hn e
  exact ⟨Int.le_trans (Int.le_add_of_nonneg_right h.1.2.2.1) h.1.2.2.2.1, Int.le_trans (Int.le_add_of_nonneg_right h.1.2.2.1) h.1.2.2.2.2, Int.add_nonneg (Int.le_trans h0 h.1.1) h.1.2.2.1, Int.add_nonneg (Int.le_trans h1 h.1.2.1) h.1.2.2.1, fun j k q => (h.2 j k q).1⟩
inductive Op where
  | replace (i1 i2 j1 j2 : Int)
  | delete (i1 i2 j1 j2 : Int)
  | insert (i1 i2 j1 j2 : Int)
  | equal (i1 i2 j1 j2 : Int)
  deriving DecidableEq
theorem neOp : Nonempty Op := ⟨.equal 0 0 0 0⟩
noncomputable def Op.tag : Op → PySem.Str
  | .replace .. => PySem.Str.ofString "replace"
  | .delete .. => PySem.Str.ofString "delete"
  | .insert .. => PySem.Str.ofString "insert"
  | .equal .. => PySem.Str.ofString "equal"
noncomputable def Op.nums : Op → Int × Int × Int × Int
  | .replace a b c d => (a, b, c, d)
  | .delete a b c d => (a, b, c, d)
  | .insert a b c d => (a, b, c, d)
  | .equal a b c d => (a, b, c, d)
noncomputable def gapP (i ai j bj : Int) : List Op := if i < ai ∧ j < bj then [.replace i ai j bj] else if i < ai then [.delete i ai j bj] else if j < bj then [.insert i ai j bj] else []
noncomputable def eqP (ai bj size : Int) : List Op := if size = 0 then [] else [.equal ai (ai + size) bj (bj + size)]
noncomputable def opsP : List (Int × Int × Int) → Int → Int → List Op
  | [], _, _ => []
  | (ai, bj, size) :: r, i, j => gapP i ai j bj ++ eqP ai bj size ++ opsP r (ai + size) (bj + size)
noncomputable def opsT (st : List Op × Int × Int) (r : Int × Int × Int) : List Op × Int × Int := (st.1 ++ gapP st.2.1 r.1 st.2.2 r.2.1 ++ eqP r.1 r.2.1 r.2.2, r.1 + r.2.2, r.2.1 + r.2.2)
end
section --Tl
theorem tail_ne {d : Addr} {T : List (Addr × Obj)} (h : ∀ p ∈ T, p.1 < d) : ∀ p ∈ T, p.1 ≠ d := fun p hp => Nat.ne_of_lt (h p hp)
theorem tail_ne' {d : Addr} {T : List (Addr × Obj)} (h : ∀ p ∈ T, d < p.1) : ∀ p ∈ T, p.1 ≠ d := fun p hp => Nat.ne_of_gt (h p hp)
theorem news_front {h₀ h : Heap} {L : Addr} {p : Addr × Obj} {l : List (Addr × Obj)} (N : News h₀ L h l) (hp : p ∈ l) : News h₀ L h (p :: l) := fun q hq => by
  rcases List.mem_cons.mp hq with rfl | hq
  · exact N _ hp
  · exact N _ hq
theorem boot_keeps {w : World} {h h' : Heap} (B : Boot w h) (k : ∀ b o, h.get? b = some o → h'.get? b = some o) : Boot w h' := fun p hp => k _ _ (B p hp)
section
variable {prog : Program} {w : World} {A : Around} {E : Value → Shared → Prop} {s : Shared} {h₀ : Heap} {L : Addr} {news : List (Addr × Obj)}
theorem n_item {value slice : PySem.Expr} {l : Addr} {items : Array Value} {n : Nat} {k : Int} {u : Tok} {v : Value} {Q : Value → Shared → Prop} (N : News h₀ L s.heap news) (hm : (l, PySem.W.listOf items n) ∈ news) (h0 : 0 ≤ k) (hhi : k < 2 ^ 63) (hx : items[k.toNat]? = some v) (h : Q v s)
    (hs : subscripted slice false (.ref l) (.int k u) = operate [.ref l, .int k u] (getItem (.ref l) (.int k u)) := by with_unfolding_all rfl) :
    wpAny (model prog w) A (subscriptTail value slice (.ref l) (.int k u)) Q E s :=
  tail_any (News.isList N hm).typeIs slot_list_getitem.lookup (wpAny_getItem_list (News.isList N hm) h0 hhi hx h) hs
theorem ints_at {xs : List Value} {ms : List Int} (hi : IntsAre xs ms) {i : Nat} {n : Int} (h : ms[i]? = some n) : ∃ t, xs.toArray[i]? = some (.int n t) := by
  obtain ⟨t, ht⟩ := hi.get i n h
  exact ⟨t, by simpa using ht⟩
end
theorem lt_item {a b n i : Nat} (h : i < b - a) (h1 : a ≤ b) (h2 : b ≤ n) : a + i < n := by omega
section
variable {M : Model} {A : Around} {E : Value → Shared → Prop} {s : Shared} {env : Env} {pos : Pos} {Q : Value → Shared → Prop} {q d : Addr} {id : String}
noncomputable def BmP (q : Addr) (id : String) (d : Addr) (h : Heap) : Prop := h.get? q = some (bmO id d)
theorem keeps_B (h : Heap) (X : BmP q id d h) : ∃ k, (k = Keeper.frame ∨ k = Keeper.machine ∨ k = Keeper.boundFrame) ∧ Looks M h (keeperOf (.ref q)) k :=
  ⟨.machine, .inr (.inl rfl), (Looks.ld (part := none) X).andThen .now⟩
theorem callWith_B {e : Expr} {rest : List Expr} (id : String) (d : Addr) (h : wpAny M A (spliced (backTo pos (starEach (e :: rest) env))) (fun vs s₁ => BmP q id d s₁.heap ∧ wpAny M A (call (.ref q) vs) Q E s₁) E s)
    (he : starEach (e :: rest) env = (false, eval e env) :: starEach rest env := by rfl) (hplain : (backTo pos (starEach rest env)).any (·.1) = false := by rfl) :
    wpAny M A (callWith pos (.ref q) [] (backTo pos (starEach (e :: rest) env)) []) Q E s := by
  rw [he] at h ⊢
  exact callWith_of (by show ((false || (backTo pos (starEach rest env)).any (·.1)) || false) = false; rw [hplain]; rfl) keeps_B (evalArgs_plain h)
end
theorem sub_cons {a : Addr × Obj} {l L : List (Addr × Obj)} (h : a ∈ L) (hl : ∀ p ∈ l, p ∈ L) : ∀ p ∈ a :: l, p ∈ L := fun p hp => by
  rcases List.mem_cons.mp hp with rfl | hp
  · exact h
  · exact hl p hp
theorem sub_nil {L : List (Addr × Obj)} : ∀ p ∈ ([] : List (Addr × Obj)), p ∈ L := fun _ hp => nomatch hp
theorem ps_cons {m : Str → Option Value} {a : Str} {v : Value} {l : List (Str × Value)} (h : m a = some v) (hl : ∀ p ∈ l, m p.1 = some p.2) : ∀ p ∈ (a, v) :: l, m p.1 = some p.2 := fun p hp => by
  rcases List.mem_cons.mp hp with rfl | hp
  · exact h
  · exact hl p hp
theorem ps_nil {m : Str → Option Value} : ∀ p ∈ ([] : List (Str × Value)), m p.1 = some p.2 := fun _ hp => nomatch hp
theorem idxOf?_lt {l : List Int} {a : Int} {j : Nat} (h : l.idxOf? a = some j) : j < l.length := by
  unfold List.idxOf? at h
  exact (List.findIdx?_eq_some_iff_getElem.mp h).1
theorem idxOf?_get {l : List Int} {a : Int} {j : Nat} (h : l.idxOf? a = some j) : l[j]? = some a := by
  unfold List.idxOf? at h
  obtain ⟨h1, h2, _⟩ := List.findIdx?_eq_some_iff_getElem.mp h
  rw [List.getElem?_eq_getElem h1, eq_of_beq h2]
theorem ffold_succ {ms ns : List Int} {alo i : Nat} {blo bhi : Int} {st : Int × Int × Int × Option (Int × Int)} (hlt : alo + i < ms.length) (hst : st = ffold ms ns alo blo bhi i) :
    ffold ms ns alo blo bhi (i + 1) = fstep ns blo bhi ((alo : Int) + (i : Int)) ms[alo + i] st := by
  subst hst
  have e : ((alo : Int) + (i : Int)).toNat = alo + i := by omega
  show fstep ns blo bhi ((alo : Int) + (i : Int)) (ms.getD ((alo : Int) + (i : Int)).toNat 0) _ = _
  rw [e, List.getD_eq_getElem?_getD, List.getElem?_eq_getElem hlt]; rfl
theorem ffold_succ2 {ms ns : List Int} {alo i : Nat} {blo bhi a : Int} {st : Int × Int × Int × Option (Int × Int)} (h : ms[alo + i]? = some a) (hst : st = ffold ms ns alo blo bhi i) :
    ffold ms ns alo blo bhi (i + 1) = fstep ns blo bhi ((alo : Int) + (i : Int)) a st := by
  obtain ⟨hlt, e⟩ := List.getElem?_eq_some_iff.mp h
  subst e
  exact ffold_succ hlt hst
section
variable {ns : List Int} {blo bhi i ai bi bj bs : Int} {pv : Option (Int × Int)} {j : Nat}
theorem fstep_none (h : ns.idxOf? ai = none) : fstep ns blo bhi i ai (bi, bj, bs, pv) = (bi, bj, bs, none) := by unfold fstep; simp only [h]
theorem fstep_low (h : ns.idxOf? ai = some j) (h1 : (j : Int) < blo) : fstep ns blo bhi i ai (bi, bj, bs, pv) = (bi, bj, bs, none) := by unfold fstep; simp only [h, if_pos h1]
theorem fstep_high (h : ns.idxOf? ai = some j) (h1 : ¬ (j : Int) < blo) (h2 : bhi ≤ (j : Int)) : fstep ns blo bhi i ai (bi, bj, bs, pv) = (bi, bj, bs, none) := by unfold fstep; simp only [h, if_neg h1, if_pos h2]
theorem fstep_gt (h : ns.idxOf? ai = some j) (h1 : ¬ (j : Int) < blo) (h2 : ¬ bhi ≤ (j : Int)) (h3 : bs < prevK pv ((j : Int) - 1) + 1) :
    fstep ns blo bhi i ai (bi, bj, bs, pv) = (i - (prevK pv ((j : Int) - 1) + 1) + 1, (j : Int) - (prevK pv ((j : Int) - 1) + 1) + 1, prevK pv ((j : Int) - 1) + 1, some ((j : Int), prevK pv ((j : Int) - 1) + 1)) := by
  unfold fstep; simp only [h, if_neg h1, if_neg h2, if_pos h3]
theorem fstep_le (h : ns.idxOf? ai = some j) (h1 : ¬ (j : Int) < blo) (h2 : ¬ bhi ≤ (j : Int)) (h3 : ¬ bs < prevK pv ((j : Int) - 1) + 1) :
    fstep ns blo bhi i ai (bi, bj, bs, pv) = (bi, bj, bs, some ((j : Int), prevK pv ((j : Int) - 1) + 1)) := by
  unfold fstep; simp only [h, if_neg h1, if_neg h2, if_neg h3]
end
theorem stored_nil {k : Int} {v : Value} : PySem.stored ([] : List (Int × Value)) k v = [(k, v)] := rfl
structure WS where
  bi : Int
  bj : Int
  bs : Int
  ti : Tok
  tj : Tok
  ts : Tok
theorem WS.all9 {P : WS → Prop} (h : ∀ x0 x1 x2 x3 x4 x5, P ⟨x0, x1, x2, x3, x4, x5⟩) : ∀ c, P c := fun ⟨x0, x1, x2, x3, x4, x5⟩ => h x0 x1 x2 x3 x4 x5
theorem neWS : Nonempty WS := ⟨by constructor <;> exact Classical.choice inferInstance⟩
theorem ints_atD {xs : List Value} {ms : List Int} (hi : IntsAre xs ms) {k : Nat} (h : k < ms.length) : ∃ t, xs.toArray[k]? = some (.int (ms.getD k 0) t) := by
  obtain ⟨t, ht⟩ := ints_at hi (List.getElem?_eq_getElem h)
  exact ⟨t, by rw [ht, List.getD_eq_getElem?_getD, List.getElem?_eq_getElem h]; rfl⟩
theorem backP_stop {ms ns : List Int} {alo blo bi bj bs : Int} (h : ¬ (alo < bi ∧ blo < bj ∧ ms.getD (bi - 1).toNat 0 = ns.getD (bj - 1).toNat 0)) : ∀ n, backP ms ns alo blo n (bi, bj, bs) = (bi, bj, bs)
  | 0 => rfl
  | n + 1 => by rw [backP, if_neg h]
theorem backP_step {ms ns : List Int} {alo blo bi bj bs : Int} {n : Nat} (h : alo < bi ∧ blo < bj ∧ ms.getD (bi - 1).toNat 0 = ns.getD (bj - 1).toNat 0) : backP ms ns alo blo (n + 1) (bi, bj, bs) = backP ms ns alo blo n (bi - 1, bj - 1, bs + 1) := by rw [backP, if_pos h]
theorem fwdP_stop {ms ns : List Int} {ahi bhi bi bj bs : Int} (h : ¬ (bi + bs < ahi ∧ bj + bs < bhi ∧ ms.getD (bi + bs).toNat 0 = ns.getD (bj + bs).toNat 0)) : ∀ n, fwdP ms ns ahi bhi n (bi, bj, bs) = (bi, bj, bs)
  | 0 => rfl
  | n + 1 => by rw [fwdP, if_neg h]
theorem fwdP_step {ms ns : List Int} {ahi bhi bi bj bs : Int} {n : Nat} (h : bi + bs < ahi ∧ bj + bs < bhi ∧ ms.getD (bi + bs).toNat 0 = ns.getD (bj + bs).toNat 0) : fwdP ms ns ahi bhi (n + 1) (bi, bj, bs) = fwdP ms ns ahi bhi n (bi, bj, bs + 1) := by rw [fwdP, if_pos h]
structure SmD where
  d : Addr
  la : Addr
  lb : Addr
  bd : Addr
  sj : Addr
  sp : Addr
  xs : List Value
  ys : List Value
  ea : Nat
  eb : Nat
  t : Fin 10 → Nat

  ob : Obj
  kvs : List (Int × Value)
  al : Nat → Addr
  tj : Nat → Tok
  led : Bool
theorem SmD.all9 {P : SmD → Prop} (h : ∀ x0 x1 x2 x3 x4 x5 x6 x7 x8 x9 x10 x11 x12 x13 x14 x15, P ⟨x0, x1, x2, x3, x4, x5, x6, x7, x8, x9, x10, x11, x12, x13, x14, x15⟩) : ∀ c, P c := fun ⟨x0, x1, x2, x3, x4, x5, x6, x7, x8, x9, x10, x11, x12, x13, x14, x15⟩ => h x0 x1 x2 x3 x4 x5 x6 x7 x8 x9 x10 x11 x12 x13 x14 x15
theorem neSmD : Nonempty SmD := ⟨by constructor <;> exact Classical.choice inferInstance⟩
noncomputable abbrev selfO (w : World) (D : SmD) (mbv opv : Value) : Obj := PySem.W.dictOf [⟨PyData.keyHash w.params (Str.ofString "isjunk"), .str (Str.ofString "isjunk") (D.t 0), .none⟩, ⟨PyData.keyHash w.params (Str.ofString "a"), .str (Str.ofString "a") (D.t 1), .ref D.la⟩, ⟨PyData.keyHash w.params (Str.ofString "b"), .str (Str.ofString "b") (D.t 2), .ref D.lb⟩, ⟨PyData.keyHash w.params (Str.ofString "autojunk"), .str (Str.ofString "autojunk") (D.t 3), .bool true⟩, ⟨PyData.keyHash w.params (Str.ofString "matching_blocks"), .str (Str.ofString "matching_blocks") (D.t 4), mbv⟩, ⟨PyData.keyHash w.params (Str.ofString "opcodes"), .str (Str.ofString "opcodes") (D.t 5), opv⟩, ⟨PyData.keyHash w.params (Str.ofString "fullbcount"), .str (Str.ofString "fullbcount") (D.t 6), .none⟩, ⟨PyData.keyHash w.params (Str.ofString "b2j"), .str (Str.ofString "b2j") (D.t 7), .ref D.bd⟩, ⟨PyData.keyHash w.params (Str.ofString "bjunk"), .str (Str.ofString "bjunk") (D.t 8), .ref D.sj⟩, ⟨PyData.keyHash w.params (Str.ofString "bpopular"), .str (Str.ofString "bpopular") (D.t 9), .ref D.sp⟩] 10
noncomputable def SmR (w : World) (news : List (Addr × Obj)) (x : Addr) (D : SmD) (ms ns : List Int) : Prop :=
  (x, instObj 242 D.d) ∈ news ∧ (D.la, PySem.W.listOf D.xs.toArray D.ea) ∈ news ∧ (D.lb, PySem.W.listOf D.ys.toArray D.eb) ∈ news ∧ (D.bd, D.ob) ∈ news ∧ (D.sj, setO D.led) ∈ news ∧
  IntsAre D.xs ms ∧ IntsAre D.ys ns ∧ Obj.IsDictOf (intKind PySem.Challenge.rw_mr0378_01.row.prog w) D.ob D.kvs ∧ (D.bd == sysModules) = false ∧ (∀ v, valueAt D.kvs v = (ns.idxOf? v).map fun j => Value.ref (D.al j)) ∧
  (∀ j, j < ns.length → (D.al j, PySem.W.listOf #[.int (j : Int) (D.tj j)] 1) ∈ news) ∧ ms.length ≤ 4 ∧ ns.length ≤ 4 ∧ D.bd ≠ D.d
noncomputable def SmIn (w : World) (news : List (Addr × Obj)) (x : Addr) (D : SmD) (mbv opv : Value) (ms ns : List Int) : Prop := (D.d, selfO w D mbv opv) ∈ news ∧ SmR w news x D ms ns
theorem SmR.mono {w : World} {news news' : List (Addr × Obj)} {x : Addr} {D : SmD} {ms ns : List Int} {P : Addr × Obj → Prop} (h : SmR w news x D ms ns) (hs : ∀ p ∈ news, P p → p ∈ news')
    (h1 : P (x, instObj 242 D.d)) (h2 : P (D.la, PySem.W.listOf D.xs.toArray D.ea)) (h3 : P (D.lb, PySem.W.listOf D.ys.toArray D.eb)) (h4 : P (D.bd, D.ob)) (h5 : P (D.sj, setO D.led)) (h6 : ∀ j, j < ns.length → P (D.al j, PySem.W.listOf #[.int (j : Int) (D.tj j)] 1)) : SmR w news' x D ms ns := by
  obtain ⟨a1, a2, a3, a4, a5, a6, a7, a8, a9, a10, a11, a12, a13, a14⟩ := h
  exact ⟨hs _ a1 h1, hs _ a2 h2, hs _ a3 h3, hs _ a4 h4, hs _ a5 h5, a6, a7, a8, a9, a10, fun j hj => hs _ (a11 j hj) (h6 j hj), a12, a13, a14⟩
theorem SmR.sub {w : World} {news news' : List (Addr × Obj)} {x : Addr} {D : SmD} {ms ns : List Int} (h : SmR w news x D ms ns) (hs : ∀ p ∈ news, p ∈ news') : SmR w news' x D ms ns :=
  h.mono (P := fun _ => True) (fun p hp _ => hs p hp) trivial trivial trivial trivial trivial fun _ _ => trivial
noncomputable def but (a : Addr) (l : List (Addr × Obj)) : List (Addr × Obj) := l.filter fun p => p.1 != a
theorem but_ne {a : Addr} {l : List (Addr × Obj)} : ∀ p ∈ but a l, p.1 ≠ a := fun p hp => by simpa [but] using (List.mem_filter.mp hp).2
theorem but_mem {a : Addr} {l : List (Addr × Obj)} {p : Addr × Obj} (hp : p ∈ l) (h : p.1 ≠ a) : p ∈ but a l := List.mem_filter.mpr ⟨hp, by simpa using h⟩
theorem but_sub {a : Addr} {l : List (Addr × Obj)} : ∀ p ∈ but a l, p ∈ l := fun p hp => (List.mem_filter.mp hp).1
theorem news_but {h₀ h : Heap} {L a : Addr} {o : Obj} {l : List (Addr × Obj)} (N : News h₀ L h l) (hm : (a, o) ∈ l) : News h₀ L h ((a, o) :: but a l) := fun p hp => by
  rcases List.mem_cons.mp hp with rfl | hp
  · exact N _ hm
  · exact N p (but_sub p hp)
theorem news_ne {h₀ h : Heap} {L a b : Addr} {o o' : Obj} {l : List (Addr × Obj)} (N : News h₀ L h l) (h1 : (a, o) ∈ l) (h2 : (b, o') ∈ l) (hc : o.cls ≠ o'.cls) : a ≠ b := fun e => by
  subst e
  have := (N _ h1).1.symm.trans (N _ h2).1
  exact hc (congrArg Obj.cls (Option.some.inj this))
noncomputable abbrev matchO (d : Addr) (r : Int × Int × Int) (t : Tok × Tok × Tok) : Obj := ⟨.ref 135, some d, .seq #[.int r.1 t.1, .int r.2.1 t.2.1, .int r.2.2 t.2.2] 0, #[]⟩
theorem range_size {alo ahi : Nat} (h : alo ≤ ahi) : Builtin.Range.rangeSize (alo : Int) (ahi : Int) 1 = ((ahi - alo : Nat) : Int) := by
  rw [rangeSize_nat, Int.toNat_sub]
noncomputable def Blocks (news : List (Addr × Obj)) (vs : List Value) (rs : List (Int × Int × Int)) : Prop :=
  vs.length = rs.length ∧ ∀ (i : Nat) v, vs[i]? = some v → ∃ q d t r, v = .ref q ∧ rs[i]? = some r ∧ (q, matchO d r t) ∈ news
noncomputable abbrev opO (o : Op) (t : Tok × Tok × Tok × Tok × Tok) : Obj := ⟨.type "tuple", none, .seq #[.str o.tag t.1, .int o.nums.1 t.2.1, .int o.nums.2.1 t.2.2.1, .int o.nums.2.2.1 t.2.2.2.1, .int o.nums.2.2.2 t.2.2.2.2] 0, #[]⟩
noncomputable def OpsAre (news : List (Addr × Obj)) (vs : List Value) (os : List Op) : Prop :=
  vs.length = os.length ∧ ∀ (i : Nat) v, vs[i]? = some v → ∃ T t o, v = .ref T ∧ os[i]? = some o ∧ (T, opO o t) ∈ news
theorem gsnoc {α β : Type} {vs : List α} {os : List β} {v : α} {o : β} {R : α → Option β → Prop} (hl : vs.length = os.length) (h : ∀ (i : Nat) u, vs[i]? = some u → R u os[i]?) (hR : R v (some o)) :
    (vs ++ [v]).length = (os ++ [o]).length ∧ ∀ (i : Nat) u, (vs ++ [v])[i]? = some u → R u (os ++ [o])[i]? := by
  refine ⟨by rw [List.length_append, List.length_append, hl]; rfl, fun i u e => ?_⟩
  by_cases hi : i < vs.length
  · rw [List.getElem?_append_left hi] at e
    rw [List.getElem?_append_left (hl ▸ hi)]
    exact h i u e
  · have hi' : i = vs.length := Nat.le_antisymm (Nat.le_of_lt_succ (by have := (List.getElem?_eq_some_iff.mp e).1; rwa [List.length_append] at this)) (Nat.le_of_not_lt hi)
    subst hi'
    rw [List.getElem?_concat_length] at e
    rw [hl, List.getElem?_concat_length]
    cases e
    exact hR
theorem OpsAre.nil {news : List (Addr × Obj)} : OpsAre news [] [] := ⟨rfl, fun i v h => by simp at h⟩
theorem OpsAre.sub {news news' : List (Addr × Obj)} {vs : List Value} {os : List Op} (h : OpsAre news vs os) (hs : ∀ p ∈ news, p ∈ news') : OpsAre news' vs os :=
  ⟨h.1, fun i v e => by obtain ⟨T, t, o, a, b, c⟩ := h.2 i v e; exact ⟨T, t, o, a, b, hs _ c⟩⟩
theorem OpsAre.snoc {news : List (Addr × Obj)} {vs : List Value} {os : List Op} {T : Addr} {t : Tok × Tok × Tok × Tok × Tok} {o : Op} (h : OpsAre news vs os) (hm : (T, opO o t) ∈ news) : OpsAre news (vs ++ [.ref T]) (os ++ [o]) :=
  gsnoc (R := fun (v : Value) (x : Option Op) => ∃ T t o, v = Value.ref T ∧ x = some o ∧ (T, opO o t) ∈ news) h.1 h.2 ⟨T, t, o, rfl, rfl, hm⟩
noncomputable def GmbC (w : World) (gmbP : List Int → List Int → List (Int × Int × Int)) : Prop :=
  ∀ (gd : Option (List Code)) (cn : Str) (cs : Scope) (a : Addr) (ccd : Value) (cl : List (Str × Addr)) (outer : List Env) (A₀ : Around) (base h₀ : Heap) (L : Addr) (m : Str → Option Value) (news : List (Addr × Obj)) (s : Shared)
    (loose : List Str) (mean : ExcName → Option Value) (mg mb : Str → Option Value) (Q E : Value → Shared → Prop) (x : Addr) (D : SmD) (opv : Value) (ms ns : List Int),
    Below A₀ base outer h₀ → Fr h₀ L s.heap m → (Mine.hd0.heap_1 w.params).In h₀ → Boot w h₀ → News h₀ L s.heap news → Top topProg loose mean mg mb h₀ → cs.kind = .function → SmIn w news x D .none opv ms ns →
    (∀ (r : Addr) (h' : Heap) (tk : Nat) (news' : List (Addr × Obj)) (vs : List Value) (n : Nat), Fr h₀ L h' m → News h₀ L h' news' → (∀ p ∈ news, p.1 ≠ D.d → p ∈ news') → (∀ p ∈ news, p.1 ≠ r) → (r, PySem.W.listOf vs.toArray n) ∈ news' → Blocks news' vs (gmbP ms ns) → vs.length ≤ 100 → Q (.ref r) { s with heap := h', toks := tk }) →
    wpAny (model PySem.Challenge.rw_mr0378_01.row.prog w) (ktrTop 380 300 gd cn cs L a ccd cl outer) (call (.ref 203) [.ref x]) Q E s
theorem list_cls {its : Array Value} {n : Nat} : (PySem.W.listOf its n).cls = .type "list" := rfl
theorem smr_apart {w : World} {h₀ h : Heap} {L : Addr} {news news' : List (Addr × Obj)} {x : Addr} {D : SmD} {mbv opv : Value} {ms ns : List Int} (N : News h₀ L h news) (hd : (D.d, selfO w D mbv opv) ∈ news) (hR : SmR w news x D ms ns)
    (hs : ∀ p ∈ news, p.1 ≠ D.d → p ∈ news') : SmR w news' x D ms ns :=
  hR.mono (P := fun p => p.1 ≠ D.d) hs (news_ne N hR.1 hd (fun e => by cases e)) (news_ne N hR.2.1 hd (fun e => absurd (Value.type.inj e) (by decide))) (news_ne N hR.2.2.1 hd (fun e => absurd (Value.type.inj e) (by decide))) hR.2.2.2.2.2.2.2.2.2.2.2.2.2
    (news_ne N hR.2.2.2.2.1 hd (fun e => absurd (Value.type.inj e) (by decide))) fun j hj => news_ne N (hR.2.2.2.2.2.2.2.2.2.2.1 j hj) hd (fun e => absurd (Value.type.inj e) (by decide))
section
variable {i ai j bj size : Int}
theorem gap_r (h1 : i < ai) (h2 : j < bj) : gapP i ai j bj = [.replace i ai j bj] := if_pos ⟨h1, h2⟩
theorem gap_d (h1 : i < ai) (h2 : ¬ j < bj) : gapP i ai j bj = [.delete i ai j bj] := (if_neg fun h => h2 h.2).trans (if_pos h1)
theorem gap_i (h1 : ¬ i < ai) (h2 : j < bj) : gapP i ai j bj = [.insert i ai j bj] := (if_neg fun h => h1 h.1).trans ((if_neg h1).trans (if_pos h2))
theorem gap_n (h1 : ¬ i < ai) (h2 : ¬ j < bj) : gapP i ai j bj = [] := (if_neg fun h => h1 h.1).trans ((if_neg h1).trans (if_neg h2))
theorem eq_0 (h : size = 0) : eqP ai bj size = [] := if_pos h
theorem eq_1 (h : size ≠ 0) : eqP ai bj size = [.equal ai (ai + size) bj (bj + size)] := if_neg h
end
theorem OpsAre.snoc2 {news : List (Addr × Obj)} {vs : List Value} {os : List Op} {T : Addr} {t0 t1 t2 t3 t4 : Tok} {o : Op} (h : OpsAre news vs os)
    (hm : (T, (⟨.type "tuple", none, .seq #[.str o.tag t0, .int o.nums.1 t1, .int o.nums.2.1 t2, .int o.nums.2.2.1 t3, .int o.nums.2.2.2 t4] 0, #[]⟩ : Obj)) ∈ news) : OpsAre news (vs ++ [.ref T]) (os ++ [o]) := h.snoc (t := (t0, t1, t2, t3, t4)) hm
end
section --Um
open PySem PySem.W PySem.Spec PySem.Calls PyProof.Rows PySem.W.X PySem.W.XRun
section
local macro_rules | `(tactic| x_close) => `(tactic| k_extra "wf00ae")
theorem x_titer : ∀ {w : World} {l : List Env} {gd : Option (List Code)} {s : Shared} {q d : Addr} {its : Array Value} {Q : Value → Shared → Prop} {E : Value → Shared → Prop} (KX : (KX2 w.params).In s.heap)
    (ho : s.heap.get? q = some ⟨.ref 135, some d, .seq its 0, #[]⟩) (hQ : ∀ r h tk, Mem s.heap h [] [(r, ⟨.type "tuple_iterator", none, .fields #[.ref q, .int 0 0], #[]⟩)] → Q (.ref r) ⟨h, s.gens, s.drawn, tk, s.os⟩),
    wpAny (model PySem.Challenge.rw_mr0378_01.row.prog w) (Amx l gd) (call (.builtin "tuple.__iter__") [.ref q]) Q E s := by
  w_top off
  k_fill
  intro w l gd s q d its Q E KX ho hQ
  x_run
end
section
variable {prog : Program} {w : World} {A : Around} {E : Value → Shared → Prop} {s : Shared} {h₀ : Heap} {L : Addr} {m : Str → Option Value} {news : List (Addr × Obj)}
noncomputable abbrev tiO (q : Addr) (i : Nat) : Obj := ⟨.type "tuple_iterator", none, .fields #[.ref q, .int (i : Int) 0], #[]⟩
theorem m_next {r q : Addr} {i : Nat} {o : Obj} {its : Array Value} {n : Nat} {v : Value} {rest : List (Addr × Obj)} {Q : Option Value → Shared → Prop} (F : Fr h₀ L s.heap m) (N : News h₀ L s.heap ((r, tiO q i) :: rest)) (hr : ∀ p ∈ rest, p.1 ≠ r) (hq : (q, o) ∈ rest) (hd : o.data = .seq its n) (hx : its[i]? = some v)
    (h : ∀ h', Fr h₀ L h' m → News h₀ L h' ((r, tiO q (i + 1)) :: rest) → Q (some v) { s with heap := h' }) : wpAny (model prog w) A (pyNext (.ref r)) Q E s := by
  have ho := N.get (.head _)
  have hol := N.get (.tail _ hq)
  have hT : s.TypeIs (.ref r) "tuple_iterator" := ⟨_, ho, rfl⟩
  unfold pyNext
  refine wpAny_bind (wpAny_attempt (wpAny_callSpecial?_slot (name := Str.ofString "__next__") hT PySem.F.slot_tuple_iterator_next
    (wpAny_call_entry PySem.F.slot_tuple_iterator_next hT PySem.F.entry_tuple_iterator_next ?_ (PySem.F.args_tuple_iterator_next_1 _))))
  obtain ⟨oc, od, odt, osl⟩ := o
  dsimp only at hd
  subst hd
  show wpAny _ _ (field (.ref r) 0 >>= _) _ _ s
  refine wpAny_bind (wpAny_field ho rfl (x := .ref q) rfl ?_)
  show wpAny _ _ (field (.ref r) 1 >>= _) _ _ s
  refine wpAny_bind (wpAny_field ho rfl (x := .int i 0) rfl ?_)
  show wpAny _ _ (seqItems? (.ref q) >>= _) _ _ s
  refine wpAny_bind (wpAny_seqItems hol rfl ?_)
  simp only [Int.toNat_natCast, hx]
  obtain ⟨F', N'⟩ := news_upd (h' := s.heap.update r (Obj.mapFields (·.setIfInBounds 1 (rawInt (i + 1))))) (o' := tiO q (i + 1)) F N (.head hr) (Heap.SameBut.update ..) (Heap.get?_update_self _ ho rfl)
  exact wpAny_bind (wpAny_setField ho rfl (by simp) (wpAny_pure ⟨v, rfl, wpAny_pure (h _ F' N')⟩))
theorem m_end {r q : Addr} {i : Nat} {o : Obj} {its : Array Value} {n : Nat} {rest : List (Addr × Obj)} {Q : Option Value → Shared → Prop} (hh : A.handled = none) (F : Fr h₀ L s.heap m) (N : News h₀ L s.heap ((r, tiO q i) :: rest)) (hr : ∀ p ∈ rest, p.1 ≠ r) (hq : (q, o) ∈ rest) (hd : o.data = .seq its n) (hx : its[i]? = none)
    (h : ∀ h', Fr h₀ L h' m → News h₀ L h' rest → Q none { s with heap := h' }) : wpAny (model prog w) A (pyNext (.ref r)) Q E s := by
  have ho := N.get (.head _)
  have hol := N.get (.tail _ hq)
  have hT : s.TypeIs (.ref r) "tuple_iterator" := ⟨_, ho, rfl⟩
  unfold pyNext
  refine wpAny_bind (wpAny_attempt (wpAny_callSpecial?_slot (name := Str.ofString "__next__") hT PySem.F.slot_tuple_iterator_next
    (wpAny_call_entry PySem.F.slot_tuple_iterator_next hT PySem.F.entry_tuple_iterator_next ?_ (PySem.F.args_tuple_iterator_next_1 _))))
  obtain ⟨oc, od, odt, osl⟩ := o
  dsimp only at hd
  subst hd
  show wpAny _ _ (field (.ref r) 0 >>= _) _ _ s
  refine wpAny_bind (wpAny_field ho rfl (x := .ref q) rfl ?_)
  show wpAny _ _ (field (.ref r) 1 >>= _) _ _ s
  refine wpAny_bind (wpAny_field ho rfl (x := .int i 0) rfl ?_)
  show wpAny _ _ (seqItems? (.ref q) >>= _) _ _ s
  refine wpAny_bind (wpAny_seqItems hol rfl ?_)
  simp only [Int.toNat_natCast, hx]
  refine wpAny_bind (wpAny_rule (wpAny_bind (wpAny_setField ho rfl (by simp) ?_)))
  obtain ⟨F', N'⟩ := news_upd (h' := s.heap.update r (Obj.mapFields (·.setIfInBounds 0 .none))) (o' := ⟨.type "tuple_iterator", none, .fields #[.none, .int (i : Int) 0], #[]⟩) F N (.head hr) (Heap.SameBut.update ..) (Heap.get?_update_self _ ho rfl)
  show wpAny _ _ (newExc (.type "StopIteration") [] >>= _) _ _ _
  refine wpAny_bind ?_
  simp only [newExc, newTuple]
  refine wpAny_bind (wpAny_newObj_type ?_ (by size_fits))
  refine wpAny_bind (m := firstArgMember _ _) (wpAny_of_eq (a := Value.none) (by first | rfl | (simp only [firstArgMember]; rfl)) ?_)
  refine wpAny_newObj_type ?_ (by size_fits)
  simp only [raiseNew]
  refine wpAny_bind (wpAny_handled ?_)
  first | rw [show A.in1.handled = none from hh] | rw [hh]
  refine wpAny_bind (wpAny_pure (wpAny_throw ?_))
  refine wpAny_bind (wpAny_isInstance (T := "StopIteration") (b := true) ⟨_, Heap.get?_push_size _ rfl, rfl⟩ isSubtype_stop ?_)
  exact wpAny_pure (h _ ((F'.push _).push _) fun p hp => ⟨Heap.get?_push_of_some _ (Heap.get?_push_of_some _ (N' p (.tail _ hp)).1), (N' p (.tail _ hp)).2⟩)
end
noncomputable abbrev mO (q d : Addr) (its : Array Value) : Obj := ⟨.ref 135, some d, .seq its 0, #[]⟩
theorem find_iter (w : World) : findIn (Mine.hd0.heap_1 w.params) (.ref 135) (Str.ofString "__iter__") = some (some (.builtin "tuple.__iter__")) := by kernel_rfl
theorem bs_titer (q : Addr) : bindSpecial (.builtin "tuple.__iter__") (.ref q) = pure (.builtin "tuple.__iter__", [.ref q]) := by kernel_rfl
section
variable {w : World} {E : Value → Shared → Prop} {s : Shared} {h₀ : Heap} {L : Addr} {m : Str → Option Value} {news : List (Addr × Obj)} {l : List Env} {gd : Option (List Code)}
theorem m_spec {M : Model} {q d : Addr} {its : Array Value} (X : (Mine.hd0.heap_1 w.params).In h₀) {h : Heap} (k : ∀ b o, h₀.get? b = some o → h.get? b = some o) (ho : h.get? q = some (mO q d its)) :
    Looks M h (specialOf (.ref q) (Str.ofString "__iter__")) (some (.builtin "tuple.__iter__")) := by
  unfold specialOf
  have ht : Looks M h (typeOf (.ref q)) (.ref 135) := (Looks.ld (part := none) ho).andThen .now
  exact ht.andThen (looks_findIn (X.keeps k) (find_iter w))
theorem m_iter {q d : Addr} {its : Array Value} {Q : Value → Shared → Prop} (F : Fr h₀ L s.heap m) (N : News h₀ L s.heap news) (X : (Mine.hd0.heap_1 w.params).In h₀) (B : Boot w h₀) (ho : (q, mO q d its) ∈ news)
    (h : ∀ r h' tk, Fr h₀ L h' m → News h₀ L h' ((r, tiO q 0) :: news) → (∀ p ∈ news, p.1 ≠ r) → Q (.ref r) { s with heap := h', toks := tk }) :
    wpAny (model PySem.Challenge.rw_mr0378_01.row.prog w) (Amx l gd) (pyIter (.ref q)) Q E s := by
  have SL := m_spec (M := model PySem.Challenge.rw_mr0378_01.row.prog w) (q := q) X F.keep (N.get ho)
  unfold pyIter
  refine wpAny_bind (SL.here ?_)
  dsimp only
  unfold callSpecialIfBoundUnlessNone? bindSpecialIfBound?
  refine wpAny_bind (wpAny_holding (wpAny_bind (wpAny_bind (SL.here ?_))))
  dsimp only
  refine wpAny_bind (wpAny_askSetting ?_)
  have fin : wpAny (model PySem.Challenge.rw_mr0378_01.row.prog w) (Amx l gd) (call (.builtin "tuple.__iter__") [.ref q]) (fun v s' => wpAny (model PySem.Challenge.rw_mr0378_01.row.prog w) (Amx l gd) (do match ← specialOf v (Str.ofString "__next__") with
      | none => do rule "iter.non-iterator"; raiseError "TypeError" s!"iter() returned non-iterator of type '{← typeNameOf v}'"
      | some _ => pure v) Q E s') E s := by
    refine x_titer (kx_in (X.keeps F.keep) fun p hp => F.keep _ _ (B p hp)) (N.get ho) fun r h' tk D => ?_
    obtain ⟨F', N'⟩ := mem_led D F N
    have hT : Shared.TypeIs ⟨h', s.gens, s.drawn, tk, s.os⟩ (.ref r) "tuple_iterator" := ⟨_, (N' _ (.head _)).1, rfl⟩
    refine wpAny_bind (wpAny_specialOf hT PySem.F.slot_tuple_iterator_next.lookup ?_)
    exact wpAny_pure (h r h' tk F' N' (mem_ne D N))
  rw [bs_titer]
  refine wpAny_ite ?_
  split
  · refine wpAny_bind (wpAny_pure (wpAny_pure ?_))
    dsimp only
    rw [if_neg (show ¬ ((Value.builtin "tuple.__iter__" == Value.none) = true) from Bool.false_ne_true)]
    exact wpAny_bind (wpAny_mono fin (fun v s' hv => wpAny_pure hv) fun _ _ x => x)
  · refine wpAny_tryCatch (wpAny_bind (wpAny_pure (wpAny_pure ?_)))
    dsimp only
    rw [if_neg (show ¬ ((Value.builtin "tuple.__iter__" == Value.none) = true) from Bool.false_ne_true)]
    exact wpAny_bind (wpAny_mono fin (fun v s' hv => wpAny_pure hv) fun _ _ x => x)
theorem n_unpackM {q d : Addr} {v0 v1 v2 : Value} {Q : List Value → Shared → Prop} (F : Fr h₀ L s.heap m) (N : News h₀ L s.heap news) (X : (Mine.hd0.heap_1 w.params).In h₀) (B : Boot w h₀) (ho : (q, mO q d #[v0, v1, v2]) ∈ news)
    (h : ∀ h' tk, Fr h₀ L h' m → News h₀ L h' news → Q [v0, v1, v2] { s with heap := h', toks := tk }) :
    wpAny (model PySem.Challenge.rw_mr0378_01.row.prog w) (Amx l gd) (unpackItems (.ref q) 3 none) Q E s := by
  unfold unpackItems notIterableAtAll
  refine wpAny_bind (wpAny_bind ((m_spec (q := q) X F.keep (N.get ho)).here ?_))
  refine wpAny_pure ?_
  show wpAny _ _ (holding [.ref q] (pyIter (.ref q)) >>= _) _ _ _
  refine wpAny_bind (wpAny_holding (m_iter F N X B ho fun r h1 tk1 F1 N1 l1 => ?_))
  dsimp only
  refine wpAny_bind (wpAny_holding ?_)
  unfold draw
  refine wpAny_bind (m_next F1 N1 l1 ho rfl (by rfl) fun h2 F2 N2 => wpAny_bind (wpAny_holding ?_))
  unfold draw
  refine wpAny_bind (m_next F2 N2 l1 ho rfl (by rfl) fun h3 F3 N3 => wpAny_bind (wpAny_holding ?_))
  unfold draw
  refine wpAny_bind (m_next F3 N3 l1 ho rfl (by rfl) fun h4 F4 N4 => wpAny_bind (wpAny_holding ?_))
  unfold draw
  refine wpAny_pure (wpAny_pure (wpAny_pure (wpAny_pure ?_)))
  show wpAny _ _ (holding [v0, v1, v2] (pyNext (.ref r)) >>= _) _ _ _
  refine wpAny_bind (wpAny_holding (m_end rfl F4 N4 l1 ho rfl (by rfl) fun h5 F5 N5 => ?_))
  exact wpAny_pure (h h5 tk1 F5 N5)
theorem n_assignM {A : Around} {env : Env} {elts : List Expr} {k : Nat} {pos : Pos} {q d : Addr} {v0 v1 v2 : Value} {Q : Unit → Shared → Prop}
    (up : ∀ {Q : List Value → Shared → Prop} {s : Shared}, wpAny (model PySem.Challenge.rw_mr0378_01.row.prog w) (Amx l gd) (unpackItems (.ref q) 3 none) Q E s → wpAny (model PySem.Challenge.rw_mr0378_01.row.prog w) A (unpackItems (.ref q) 3 none) Q E s)
    (F : Fr h₀ L s.heap m) (N : News h₀ L s.heap news) (X : (Mine.hd0.heap_1 w.params).In h₀) (B : Boot w h₀) (ho : (q, mO q d #[v0, v1, v2]) ∈ news)
    (h : ∀ h' tk, Fr h₀ L h' m → News h₀ L h' news → wpAny (model PySem.Challenge.rw_mr0378_01.row.prog w) A (assignInOrder ((assignEach elts env).map (·.2)) [v0, v1, v2]) Q E { s with heap := h', toks := tk })
    (hlen : (assignEach elts env).length = 3 := by rfl) (hst : (assignEach elts env).findIdx? (·.1) = none := by rfl) :
    wpAny (model PySem.Challenge.rw_mr0378_01.row.prog w) A (assign (.Tuple elts k pos) env (.ref q)) Q E s := by
  rw [arm_assign_Tuple]
  refine wpAny_bind (wpAny_standAt ?_)
  unfold unpack
  rw [hlen, hst]
  exact wpAny_bind (wpAny_holding (up (n_unpackM F N X B ho h)))
end
end
section --Lt
noncomputable def TTurnE {σ : Type} (h₀ : Heap) (L : Addr) (stored : List Str) (m₀ : Str → Option Value) (Led : σ → List (Addr × Obj)) (ps : σ → List (Str × Value)) (P : σ → Prop) (I : Addr) (oi : Obj) (s₁ s₂ : Shared) : Prop :=
  ∃ (c : σ) (h' : Heap) (tk : Nat) (m' : Str → Option Value), s₂ = { s₁ with heap := h', toks := tk } ∧ Fr h₀ L h' m' ∧ News h₀ L h' ((I, oi) :: Led c) ∧ (∀ p ∈ Led c, p.1 ≠ I) ∧ (∀ p ∈ ps c, m' p.1 = some p.2) ∧ (∀ z, (∀ p ∈ ps c, z ≠ p.1) → stored.contains z = false → m' z = m₀ z) ∧ P c
noncomputable def TTurnP {σ : Type} (h₀ : Heap) (L : Addr) (stored : List Str) (m₀ : Str → Option Value) (Led : σ → List (Addr × Obj)) (ps : σ → List (Str × Value)) (P : σ → Prop) (I : Addr) (oi : Obj) (s₁ : Shared) (Q : Flow → Shared → Prop) (f : Flow) (s₂ : Shared) : Prop :=
  match f with
  | .ret v => Q (.ret v) s₂
  | .brk => Q .next s₂
  | _ => TTurnE h₀ L stored m₀ Led ps P I oi s₁ s₂
theorem tturn_end {σ : Type} {h₀ : Heap} {L : Addr} {stored : List Str} {m₀ m' : Str → Option Value} {Led : σ → List (Addr × Obj)} {ps : σ → List (Str × Value)} {P : σ → Prop} {I : Addr} {oi : Obj} {s₁ : Shared} {h' : Heap} {tk : Nat} {news' : List (Addr × Obj)} (c : σ)
    (F : Fr h₀ L h' m') (N : News h₀ L h' news') (hs : ∀ p ∈ (I, oi) :: Led c, p ∈ news') (hne : ∀ p ∈ Led c, p.1 ≠ I) (hk : ∀ p ∈ ps c, m' p.1 = some p.2)
    (hr : ∀ z, (∀ p ∈ ps c, z ≠ p.1) → stored.contains z = false → m' z = m₀ z) (hP : P c) : TTurnE h₀ L stored m₀ Led ps P I oi s₁ { s₁ with heap := h', toks := tk } :=
  ⟨c, h', tk, m', rfl, F, fun p hp => N p (hs p hp), hne, hk, hr, hP⟩
section
variable {prog : Program} {w : World} {A : Around} {E : Value → Shared → Prop} {s : Shared} {env : Env} {h₀ : Heap} {body : List Stmt} {Q : Flow → Shared → Prop}
theorem tlist_loop {σ : Type} {elts : List Expr} {tk₀ : Nat} {tp : Pos} {l : Addr} {items : Array Value} {nn : Nat} {m₀ : Str → Option Value} (Led : σ → List (Addr × Obj)) (ps : σ → List (Str × Value)) (stored : List Str) (P : Nat → σ → Prop) (c₀ : σ)
    (hh : A.handled = none) (hl : ∀ c : σ, (l, PySem.W.listOf items nn) ∈ Led c) (hrf : ∀ (i : Nat) (v : Value), items[i]? = some v → ∃ T, v = .ref T) (F : Fr h₀ env.locals s.heap m₀) (N : News h₀ env.locals s.heap (Led c₀)) (hk : ∀ p ∈ ps c₀, m₀ p.1 = some p.2) (hp : P 0 c₀)
    (turn : ∀ (c : σ) (i : Nat) T (u : Str → Option Value) h tk I oi, items[i]? = some (.ref T) → P i c → (∀ p ∈ Led c, p.1 ≠ I) →
      Fr h₀ env.locals h (kstB (fun z => if stored.contains z then u z else m₀ z) (ps c)) → News h₀ env.locals h ((I, oi) :: Led c) →
      wpAny (model prog w) A (assign (.Tuple elts tk₀ tp) env (.ref T)) (fun _ s₂ => wpAny (model prog w) A (execs body env) (TTurnP h₀ env.locals stored m₀ Led ps (P (i + 1)) I oi { s with heap := h, toks := tk } Q) E s₂) E { s with heap := h, toks := tk })
    (done : ∀ (c : σ) (u : Str → Option Value) h tk, P items.size c → Fr h₀ env.locals h (kstB (fun z => if stored.contains z then u z else m₀ z) (ps c)) → News h₀ env.locals h (Led c) → Q .next { s with heap := h, toks := tk })
    (hE : PassesOwn (model prog w) A env E := by passes_own) :
    wpAny (model prog w) A (pyIter (.ref l)) (fun it s₂ => codeAny (model prog w) A (.forLoop (.Tuple elts tk₀ tp) it body [] env) (fun r s' => match r with | .ok f => Q f s' | .error e => cameBackBy (model prog w) A env E e s') s₂) E s := by
  have hls : s.heap.IsList l items := News.isList N (hl c₀)
  have hlt : l < s.heap.objs.size := Heap.lt_size (N _ (hl c₀)).1
  have hne : l ≠ s.heap.objs.size := Nat.ne_of_lt hlt
  refine wpAny_pyIter_list hls ?_
  have Wk := Walks.list (prog := prog) (w := w) hh s.heap.objs.size l hne items
  have hIL : s.heap.objs.size ≠ env.locals := fun q => absurd F.ns.lt (q ▸ Nat.lt_irrefl _)
  have hI : h₀.get? s.heap.objs.size = none := next_is_new F
  refine codeAny_forLoop_any (fun k s' => ∃ h' tk m' i c, s' = { s with heap := h', toks := tk } ∧ (h'.IsListIter s.heap.objs.size l i ∧ h'.IsList l items) ∧ Fr h₀ env.locals h' m' ∧ News h₀ env.locals h' (Led c) ∧ (∀ p ∈ Led c, p.1 ≠ s.heap.objs.size) ∧
      (∀ p ∈ ps c, m' p.1 = some p.2) ∧ (∀ z, (∀ p ∈ ps c, z ≠ p.1) → stored.contains z = false → m' z = m₀ z) ∧ P i c ∧ i ≤ items.size ∧ k = items.size + 1 - i) ?_ (items.size + 1)
    ⟨_, s.toks, m₀, 0, c₀, rfl, ⟨⟨_, Heap.get?_push_size _ rfl, rfl, rfl⟩, hls.at fun o e => Heap.get?_push_of_some _ e⟩, F.push _, (fun p hp => ⟨Heap.get?_push_of_some _ (N p hp).1, (N p hp).2⟩), (fun p hp q => absurd (Heap.lt_size (N p hp).1) (q ▸ Nat.lt_irrefl _)), hk, (fun _ _ _ => rfl), hp, Nat.zero_le _, rfl⟩
  rintro k s' ⟨h', tk, m', i, c, rfl, st, F', N', hoff, hk', hr', hP, hi, rfl⟩
  have next : ∀ h₁ : Heap, (∀ b o, b ∉ [s.heap.objs.size] → h'.get? b = some o → h₁.get? b = some o) → Fr h₀ env.locals h₁ m' ∧ News h₀ env.locals h₁ (Led c) := fun h₁ hk₁ =>
    ⟨⟨F'.ns.at' fun o e => hk₁ _ o (fun q => hIL (List.mem_singleton.mp q).symm) e, fun b o e => hk₁ b o (fun q => by rw [List.mem_singleton.mp q, hI] at e; cases e) (F'.keep b o e), F'.above⟩,
      fun p hp => ⟨hk₁ _ _ (fun q => hoff p hp (List.mem_singleton.mp q)) (N' p hp).1, (N' p hp).2⟩⟩
  by_cases hlt' : i < items.size
  · refine Wk.item i _ _ _ hlt' st fun v h₁ tk₁ hv st₁ hk₁ => ?_
    obtain ⟨F₁, N₁⟩ := next h₁ hk₁
    obtain ⟨T, rfl⟩ := hrf i v hv
    obtain ⟨oi, ho, _⟩ := id st₁.1
    refine wpAny_letOwnedTupleGo_listiter st₁.1 ?_
    have N₂ : News h₀ env.locals h₁ ((s.heap.objs.size, oi) :: Led c) := fun p hp => by
      rcases List.mem_cons.mp hp with rfl | hp
      · exact ⟨ho, hIL, hI⟩
      · exact N₁ p hp
    refine wpAny_passesOwn hE (wpAny_mono (turn c i T m' h₁ tk₁ s.heap.objs.size oi hv hP hoff (ksw_fr hk' hr' F₁) N₂) (fun _ s₂ q => wpAny_passesOwn hE (wpAny_mono q (fun f s₃ r => ?_) fun _ _ x => x)) fun _ _ x => x)
    have fin : TTurnE h₀ env.locals stored m₀ Led ps (P (i + 1)) s.heap.objs.size oi { s with heap := h₁, toks := tk₁ } s₃ → ∃ m, m < items.size + 1 - i ∧ ∃ h' tk m' i c, s₃ = { s with heap := h', toks := tk } ∧ (h'.IsListIter s.heap.objs.size l i ∧ h'.IsList l items) ∧ Fr h₀ env.locals h' m' ∧ News h₀ env.locals h' (Led c) ∧ (∀ p ∈ Led c, p.1 ≠ s.heap.objs.size) ∧
      (∀ p ∈ ps c, m' p.1 = some p.2) ∧ (∀ z, (∀ p ∈ ps c, z ≠ p.1) → stored.contains z = false → m' z = m₀ z) ∧ P i c ∧ i ≤ items.size ∧ m = items.size + 1 - i := by
      rintro ⟨c', h', tk, m', rfl, F', N', hne', hk', hr', hP'⟩
      refine ⟨items.size + 1 - (i + 1), by omega, h', tk, m', i + 1, c', rfl, ⟨st₁.1.at fun o e => ?_, News.isList N' (.tail _ (hl c'))⟩, F', fun p hp => N' p (.tail _ hp), hne', hk', hr', hP', hlt', rfl⟩
      have z := ho.symm.trans e
      cases z
      exact (N' _ (.head _)).1
    cases f with
    | ret v => exact r
    | brk => exact r
    | next => exact fin r
    | cont => exact fin r
  · have hin : i = items.size := by omega
    subst hin
    refine Wk.done _ _ _ st fun h₁ tk₁ hk₁ => wpAny_execs_nil ?_
    obtain ⟨F₁, N₁⟩ := next h₁ hk₁
    exact done c m' h₁ tk₁ hP (ksw_fr hk' hr' F₁) N₁
end
end
section --Lq
noncomputable def PTurnE {σ : Type} (h₀ : Heap) (L : Addr) (stored : List Str) (m₀ : Str → Option Value) (Led : σ → List (Addr × Obj)) (ps : σ → List (Str × Value)) (P : σ → Prop) (wr : List Addr) (own : List (Addr × Obj)) (s₁ s₂ : Shared) : Prop :=
  ∃ (c : σ) (h' : Heap) (tk : Nat) (m' : Str → Option Value), s₂ = { s₁ with heap := h', toks := tk } ∧ Fr h₀ L h' m' ∧ News h₀ L h' (own ++ Led c) ∧ (∀ p ∈ Led c, p.1 ∉ wr) ∧ (∀ p ∈ ps c, m' p.1 = some p.2) ∧ (∀ z, (∀ p ∈ ps c, z ≠ p.1) → stored.contains z = false → m' z = m₀ z) ∧ P c
noncomputable def PTurnP {σ : Type} (h₀ : Heap) (L : Addr) (stored : List Str) (m₀ : Str → Option Value) (Led : σ → List (Addr × Obj)) (ps : σ → List (Str × Value)) (P : σ → Prop) (wr : List Addr) (own : List (Addr × Obj)) (s₁ : Shared) (Q : Flow → Shared → Prop) (f : Flow) (s₂ : Shared) : Prop :=
  match f with
  | .ret v => Q (.ret v) s₂
  | .brk => Q .next s₂
  | _ => PTurnE h₀ L stored m₀ Led ps P wr own s₁ s₂
theorem pturn_end {σ : Type} {h₀ : Heap} {L : Addr} {stored : List Str} {m₀ m' : Str → Option Value} {Led : σ → List (Addr × Obj)} {ps : σ → List (Str × Value)} {P : σ → Prop} {wr : List Addr} {own : List (Addr × Obj)} {s₁ : Shared} {h' : Heap} {tk : Nat} {news' : List (Addr × Obj)} (c : σ)
    (F : Fr h₀ L h' m') (N : News h₀ L h' news') (hs : ∀ p ∈ own ++ Led c, p ∈ news') (hne : ∀ p ∈ Led c, p.1 ∉ wr) (hk : ∀ p ∈ ps c, m' p.1 = some p.2)
    (hr : ∀ z, (∀ p ∈ ps c, z ≠ p.1) → stored.contains z = false → m' z = m₀ z) (hP : P c) : PTurnE h₀ L stored m₀ Led ps P wr own s₁ { s₁ with heap := h', toks := tk } :=
  ⟨c, h', tk, m', rfl, F, fun p hp => N p (hs p hp), hne, hk, hr, hP⟩
section
variable {prog : Program} {w : World} {A : Around} {E : Value → Shared → Prop} {s : Shared} {env : Env} {h₀ : Heap} {body : List Stmt} {Q : Flow → Shared → Prop}
noncomputable def LpI {σ : Type} (h₀ : Heap) (L : Addr) (all : List Str) (m₀ : Str → Option Value) (Led : σ → List (Addr × Obj)) (ps : σ → List (Str × Value)) (P : Nat → σ → Prop) (wr : List Addr) (St : Nat → Heap → Prop) (n : Nat) (s : Shared) (k : Nat) (s' : Shared) : Prop :=
  ∃ h' tk m' i c, s' = { s with heap := h', toks := tk } ∧ St i h' ∧ Fr h₀ L h' m' ∧ News h₀ L h' (Led c) ∧ (∀ p ∈ Led c, p.1 ∉ wr) ∧
      (∀ p ∈ ps c, m' p.1 = some p.2) ∧ (∀ z, (∀ p ∈ ps c, z ≠ p.1) → all.contains z = false → m' z = m₀ z) ∧ P i c ∧ i ≤ n ∧ k = n + 1 - i
theorem lp_fin {σ : Type} {A : Around} {I : Addr} {fp wr : List Addr} {n : Nat} {Pt : Nat → Array Value → Prop} {St : Nat → Heap → Prop} {Mid : Nat → Addr → Heap → Prop} {h₀ h₅ : Heap} {L : Addr} {all : List Str} {m₀ m₅ : Str → Option Value} {Led : σ → List (Addr × Obj)} {ps : σ → List (Str × Value)} {P : Nat → σ → Prop} {s s₃ : Shared} {i tk₅ : Nat}
    (W : WalksT prog w A I fp wr n Pt St Mid) (hlt : i < n) (hst₅ : St (i + 1) h₅) (F₅ : Fr h₀ L h₅ m₅) (r : PTurnE h₀ L all m₀ Led ps (P (i + 1)) wr (ownOf h₀ fp h₅) { s with heap := h₅, toks := tk₅ } s₃) : ∃ m, m < n + 1 - i ∧ LpI h₀ L all m₀ Led ps P wr St n s m s₃ := by
  obtain ⟨c', h₆', tk₆, m₂, e₆, F₆, N₆, r₆⟩ := r
  subst e₆
  refine ⟨n + 1 - (i + 1), om_meas hlt, h₆', tk₆, m₂, i + 1, c', rfl, ?_, F₆, N₆.right, r₆.1, r₆.2.1, r₆.2.2.1, r₆.2.2.2, hlt, rfl⟩
  refine W.frame _ _ _ hst₅ fun b hb o e => ?_
  cases hn : h₀.get? b with
  | some o₀ =>
    have q := F₅.keep b o₀ hn
    rw [e] at q
    exact Option.some.inj q ▸ F₆.keep b o₀ hn
  | none => exact (N₆ _ (List.mem_append_left _ (mem_ownOf hb hn e))).1
theorem lp_next {h₀ H : Heap} {L : Addr} {wr : List Addr} {m' : Str → Option Value} {l : List (Addr × Obj)} (hLw : L ∉ wr) (hwr : ∀ b ∈ wr, h₀.get? b = none) (F' : Fr h₀ L H m') (N' : News h₀ L H l) (ha' : ∀ p ∈ l, p.1 ∉ wr) (h₁ : Heap) (hk₁ : ∀ b o, b ∉ wr → H.get? b = some o → h₁.get? b = some o) : Fr h₀ L h₁ m' ∧ News h₀ L h₁ l :=
  ⟨⟨F'.ns.at' fun o e => hk₁ _ o hLw e, fun b o e => hk₁ b o (fun hb => by rw [hwr b hb] at e; cases e) (F'.keep b o e), F'.above⟩, fun p hp => ⟨hk₁ _ _ (ha' p hp) (N' p hp).1, (N' p hp).2⟩⟩
theorem kst_em {all stored : List Str} {ps : List (Str × Value)} {m₀ m' : Str → Option Value} {y : Str} (hk' : ∀ p ∈ ps, m' p.1 = some p.2) (hr' : ∀ z, (∀ p ∈ ps, z ≠ p.1) → all.contains z = false → m' z = m₀ z) (ha : stored.contains y = false → all.contains y = false) : kstB (fun z => if stored.contains z then m' z else m₀ z) ps y = m' y := by
  refine kstB_eq hk' fun hn => ?_
  show (if stored.contains y = true then m' y else m₀ y) = m' y
  cases h3 : stored.contains y with
  | true => exact if_pos rfl
  | false => exact (if_neg Bool.false_ne_true).trans (hr' y hn (ha h3)).symm
theorem cont2 {x y : Str} {l : List Str} (h : y ≠ x) (hl : l.contains y = false) : (x :: l).contains y = false := by rw [List.contains_cons, hl, Bool.or_false]; exact beq_eq_false_iff_ne.mpr h
theorem fr_em1 {h₀ h : Heap} {L : Addr} {xc : Str} {v : Option Value} {stored : List Str} {ps : List (Str × Value)} {m₀ m' : Str → Option Value} (hk' : ∀ p ∈ ps, m' p.1 = some p.2) (hr' : ∀ z, (∀ p ∈ ps, z ≠ p.1) → (xc :: stored).contains z = false → m' z = m₀ z) (F : Fr h₀ L h (fun y => if y = xc then v else m' y)) :
    Fr h₀ L h (fun y => if y = xc then v else kstB (fun z => if stored.contains z then m' z else m₀ z) ps y) := by
  have e : (fun y => if y = xc then v else kstB (fun z => if stored.contains z then m' z else m₀ z) ps y) = fun y => if y = xc then v else m' y := by
    funext y
    by_cases h1 : y = xc
    · rw [if_pos h1, if_pos h1]
    · rw [if_neg h1, if_neg h1]; exact kst_em hk' hr' (cont2 h1)
  rw [e]; exact F
theorem fr_em2 {h₀ h : Heap} {L : Addr} {xi xc : Str} {v u : Option Value} {stored : List Str} {ps : List (Str × Value)} {m₀ m' : Str → Option Value} (hk' : ∀ p ∈ ps, m' p.1 = some p.2) (hr' : ∀ z, (∀ p ∈ ps, z ≠ p.1) → (xi :: xc :: stored).contains z = false → m' z = m₀ z) (F : Fr h₀ L h (fun y => if y = xc then v else if y = xi then u else m' y)) :
    Fr h₀ L h (fun y => if y = xc then v else if y = xi then u else kstB (fun z => if stored.contains z then m' z else m₀ z) ps y) := by
  have e : (fun y => if y = xc then v else if y = xi then u else kstB (fun z => if stored.contains z then m' z else m₀ z) ps y) = fun y => if y = xc then v else if y = xi then u else m' y := by
    funext y
    by_cases h1 : y = xc
    · rw [if_pos h1, if_pos h1]
    · rw [if_neg h1, if_neg h1]
      by_cases h2 : y = xi
      · rw [if_pos h2, if_pos h2]
      · rw [if_neg h2, if_neg h2]; exact kst_em hk' hr' fun h => cont2 h2 (cont2 h1 h)
  rw [e]; exact F
theorem pair_loop {σ : Type} {xi xc : Str} {pk pv pt : Pos} {x1 : Nat} {I : Addr} {fp wr : List Addr} {n : Nat} {Pt : Nat → Array Value → Prop} {St : Nat → Heap → Prop} {Mid : Nat → Addr → Heap → Prop} {P2 : Nat → Value → Value → Prop} {m₀ : Str → Option Value}
    (W : WalksT prog w A I fp wr n Pt St Mid) (h2 : ∀ i vals, Pt i vals → ∃ v0 v1, vals = #[v0, v1] ∧ P2 i v0 v1) (Led : σ → List (Addr × Obj)) (ps : σ → List (Str × Value)) (stored : List Str) (P : Nat → σ → Prop) (c₀ : σ)
    (hh : A.handled = none) (hxi : env.kindOf xi = some .local) (hxc : env.kindOf xc = some .local) (hp : (env.scope.kind == .class || (env.scope.kind == .module && env.locals != env.globals)) = false)
    (hLf : env.locals ∉ fp) (hex : ∀ i h, St i h → ∀ b ∈ wr, ∃ o, h.get? b = some o) (hwr : ∀ b ∈ wr, h₀.get? b = none) (hnw : ∀ p ∈ Led c₀, p.1 ∉ wr) (hst : St 0 s.heap)
    (F : Fr h₀ env.locals s.heap m₀) (N : News h₀ env.locals s.heap (Led c₀)) (hk : ∀ p ∈ ps c₀, m₀ p.1 = some p.2) (hP : P 0 c₀)
    (turn : ∀ (c : σ) (i : Nat) v0 v1 (u : Str → Option Value) h tk own, i < n → P2 i v0 v1 → P i c → (∀ p ∈ Led c, p.1 ∉ wr) → (∀ p ∈ own, p.1 ∈ fp) → (∀ b ∈ wr, ∃ o, (b, o) ∈ own) →
      Fr h₀ env.locals h (fun y => if y = xc then some v1 else if y = xi then some v0 else kstB (fun z => if stored.contains z then u z else m₀ z) (ps c) y) → News h₀ env.locals h (own ++ Led c) →
      wpAny (model prog w) A (execs body env) (PTurnP h₀ env.locals (xi :: xc :: stored) m₀ Led ps (P (i + 1)) wr own { s with heap := h, toks := tk } Q) E { s with heap := h, toks := tk })
    (done : ∀ (c : σ) (u : Str → Option Value) h tk, P n c → Fr h₀ env.locals h (kstB (fun z => if (xi :: xc :: stored).contains z then u z else m₀ z) (ps c)) → News h₀ env.locals h (Led c) → Q .next { s with heap := h, toks := tk })
    (hps : ∀ c, ∀ p ∈ ps c, p.1 ≠ xi ∧ p.1 ≠ xc)
    (hE : PassesOwn (model prog w) A env E := by passes_own) :
    codeAny (model prog w) A (.forLoop (.Tuple [.Name xi pk, .Name xc pv] x1 pt) (.ref I) body [] env) (fun r s' => match r with | .ok f => Q f s' | .error e => cameBackBy (model prog w) A env E e s') s := by
  have hLw : env.locals ∉ wr := fun h => hLf (W.sub _ h)
  refine codeAny_forLoop_any (LpI h₀ env.locals (xi :: xc :: stored) m₀ Led ps P wr St n s) ?_ (n + 1) ⟨s.heap, s.toks, m₀, 0, c₀, rfl, hst, F, N, hnw, hk, fun _ _ _ => rfl, hP, Nat.zero_le _, rfl⟩
  rintro k s' ⟨H, tk, m', i, c, rfl, hst', F', N', ha', hk', hr', hJ, hi, rfl⟩
  have next := lp_next hLw hwr F' N' ha'
  by_cases hlt : i < n
  · refine W.item i _ _ _ hlt hst' fun T vals h₁ tk₁ hPt _ hT hMid hk₁ => ?_
    obtain ⟨v0, v1, rfl, hP2⟩ := h2 i vals hPt
    refine W.go _ x1 pt i T _ _ _ hMid fun h₂ hst₂ hk₂ => ?_
    have ht₂ : h₂.IsTuple T #[v0, v1] := hT.at fun o e => hk₂ T o (W.apart i T h₁ hMid) e
    refine wpAny_assign_Tuple hh ht₂ rfl rfl fun h₃ hx₃ => ?_
    replace hx₃ : Heap.ExtBut h₂.objs.size h₂ h₃ := hx₃
    have up₃ : ∀ b o, h₂.get? b = some o → h₃.get? b = some o := fun b o x => hx₃ b o (Nat.ne_of_lt (Heap.lt_size x)) x
    obtain ⟨F₃, N₃⟩ := next h₃ fun b o hb x => up₃ b o (hk₂ b o hb (hk₁ b o hb x))
    show wpAny _ A (do holding [v1] (assign (.Name xi pk) env v0); do holding [] (assign (.Name xc pv) env v1); pure ()) _ _ _
    refine wpAny_bind (wpAny_holding (wpAny_assign_Name (wpAny_storeName_local hxi F₃.ns (fun h₄ hn₄ hs₄ => ?_) hp)))
    replace hs₄ : Heap.SameBut env.locals h₃ h₄ := hs₄
    have F₄ := F₃.set hn₄ hs₄
    refine wpAny_bind (wpAny_holding (wpAny_assign_Name (wpAny_storeName_local hxc F₄.ns (fun h₅ hn₅ hs₅ => wpAny_pure ?_) hp)))
    replace hs₅ : Heap.SameBut env.locals h₄ h₅ := hs₅
    have F₅ := F₄.set hn₅ hs₅
    have N₅ : News h₀ env.locals h₅ (Led c) := (N₃.set hs₄).set hs₅
    have hst₅ : St (i + 1) h₅ := W.frame _ _ _ hst₂ fun b hb o e => hs₅.extBut b o (fun q => hLf (q ▸ hb)) (hs₄.extBut b o (fun q => hLf (q ▸ hb)) (up₃ b o e))
    replace F₅ := fr_em2 hk' hr' F₅
    refine wpAny_passesOwn hE (wpAny_mono (turn c i v0 v1 m' h₅ _ (ownOf h₀ fp h₅) hlt hP2 hJ ha' ownOf_sub (fun b hb => let ⟨o, ho⟩ := hex _ _ hst₅ b hb; ⟨o, mem_ownOf (W.sub _ hb) (hwr b hb) ho⟩) F₅ ((news_ownOf hLf).append N₅)) (fun f s₃ r => ?_) fun _ _ e => e)
    cases f with
    | ret v => exact r
    | brk => exact r
    | next => exact lp_fin W hlt hst₅ F₅ r
    | cont => exact lp_fin W hlt hst₅ F₅ r
  · have hin : i = n := om_eq hi hlt
    subst hin
    refine W.done _ _ _ hst' fun h₁ tk₁ hk₁ => wpAny_execs_nil ?_
    obtain ⟨F₁, N₁⟩ := next h₁ hk₁
    exact done c m' h₁ tk₁ hJ (ksw_fr hk' hr' F₁) N₁
theorem enum_loop {σ : Type} {xi xc : Str} {pk pv pt : Pos} {x1 : Nat} {l : Addr} {items : Array Value} {nn : Nat} {m₀ : Str → Option Value}
    (Led : σ → List (Addr × Obj)) (ps : σ → List (Str × Value)) (stored : List Str) (P : Nat → σ → Prop) (c₀ : σ)
    (hh : A.handled = none) (hxi : env.kindOf xi = some .local) (hxc : env.kindOf xc = some .local) (hp : (env.scope.kind == .class || (env.scope.kind == .module && env.locals != env.globals)) = false)
    (hl : (l, PySem.W.listOf items nn) ∈ Led c₀) (F : Fr h₀ env.locals s.heap m₀) (N : News h₀ env.locals s.heap (Led c₀)) (hk : ∀ p ∈ ps c₀, m₀ p.1 = some p.2) (hP : P 0 c₀) (hps : ∀ c, ∀ p ∈ ps c, p.1 ≠ xi ∧ p.1 ≠ xc)
    (turn : ∀ (c : σ) (i : Nat) (v : Value) (t : Tok) (u : Str → Option Value) h tk e it oe oi own, items[i]? = some v → P i c → (∀ p ∈ Led c, p.1 ∉ [e, it]) → (e, oe) ∈ own → (it, oi) ∈ own → (∀ p ∈ own, p.1 ∈ [e, it, l]) →
      Fr h₀ env.locals h (fun y => if y = xc then some v else if y = xi then some (.int i t) else kstB (fun z => if stored.contains z then u z else m₀ z) (ps c) y) → News h₀ env.locals h (own ++ Led c) →
      wpAny (model prog w) A (execs body env) (PTurnP h₀ env.locals (xi :: xc :: stored) m₀ Led ps (P (i + 1)) [e, it] own { s with heap := h, toks := tk } Q) E { s with heap := h, toks := tk })
    (done : ∀ (c : σ) (u : Str → Option Value) h tk, P items.size c → Fr h₀ env.locals h (kstB (fun z => if (xi :: xc :: stored).contains z then u z else m₀ z) (ps c)) → News h₀ env.locals h (Led c) → Q .next { s with heap := h, toks := tk })
    (hE : PassesOwn (model prog w) A env E := by passes_own) :
    wpAny (model prog w) A (call (.type "enumerate") [.ref l]) (fun x s₁ => wpAny (model prog w) A (pyIter x) (fun it s₂ => codeAny (model prog w) A (.forLoop (.Tuple [.Name xi pk, .Name xc pv] x1 pt) it body [] env) (fun r s' => match r with | .ok f => Q f s' | .error e => cameBackBy (model prog w) A env E e s') s₂) E s₁) E s := by
  have hls : s.heap.IsList l items := News.isList N hl
  have hlt : l < s.heap.objs.size := Heap.lt_size (N _ hl).1
  have hLt : env.locals < s.heap.objs.size := F.ns.lt
  refine call_enumerate_list hls fun h' he hit hsz hkp => ?_
  refine wpAny_pyIter_enum he ?_
  have hnew : ∀ b ∈ [s.heap.objs.size + 1, s.heap.objs.size], h₀.get? b = none := fun b hb => by
    cases hq : h₀.get? b with
    | none => rfl
    | some o =>
      have hb2 := Heap.lt_size (F.keep b o hq)
      rcases List.mem_cons.mp hb with rfl | hb
      · exact absurd hb2 (by simp only [Addr] at *; omega)
      · cases List.mem_singleton.mp hb; exact absurd hb2 (Nat.lt_irrefl _)
  refine pair_loop (s := { s with heap := h' }) (WalksT.enumerate hh (s.heap.objs.size + 1) s.heap.objs.size l (Nat.ne_of_gt (Nat.lt_succ_self _)) (Nat.ne_of_lt (Nat.lt_succ_of_lt hlt)) (Nat.ne_of_lt hlt) items)
    (P2 := fun i v0 v1 => ∃ t, v0 = .int i t ∧ items[i]? = some v1) (fun i vals ⟨t, x, hx, e⟩ => ⟨_, _, e, t, rfl, hx⟩) Led ps stored P c₀ hh hxi hxc hp ?hLf ?hex hnew ?hnw ⟨⟨_, he⟩, hit, hls.at fun o e => hkp _ _ e⟩ ?F ?N hk hP ?turn done hps hE
  case hLf =>
    intro hm
    rcases List.mem_cons.mp hm with e | hm
    · exact absurd (e ▸ hLt) (by simp only [Addr] at *; omega)
    · rcases List.mem_cons.mp hm with e | hm
      · exact absurd (e ▸ hLt) (Nat.lt_irrefl _)
      · exact (N _ hl).2.1 (List.mem_singleton.mp hm).symm
  case hex =>
    rintro i h ⟨⟨old, x⟩, ⟨_, y, _⟩, _⟩ b hb
    rcases List.mem_cons.mp hb with rfl | hb
    · exact ⟨_, x⟩
    · cases List.mem_singleton.mp hb; exact ⟨_, y⟩
  case hnw =>
    intro p hp hm
    have hb2 := Heap.lt_size (N p hp).1
    rcases List.mem_cons.mp hm with e | hm
    · exact absurd (e ▸ hb2) (by simp only [Addr] at *; omega)
    · exact absurd (List.mem_singleton.mp hm ▸ hb2) (Nat.lt_irrefl _)
  case F => exact ⟨F.ns.at' fun o e => hkp _ _ e, fun b o e => hkp _ _ (F.keep b o e), F.above⟩
  case N => exact fun p hp => ⟨hkp _ _ (N p hp).1, (N p hp).2⟩
  case turn =>
    rintro c i v0 v1 u h tk own hi ⟨t, rfl, hx⟩ hP hw hof hex F N
    obtain ⟨oe, h1⟩ := hex _ (.head _)
    obtain ⟨oi, h2⟩ := hex _ (.tail _ (.head _))
    exact turn c i v1 t u h tk _ _ oe oi own hx hP hw h1 h2 hof F N
end
end
section --Sd
section
variable {h₀ h : Heap} {L : Addr} {p0 p1 p2 p3 p4 p5 p6 p7 : Addr × Obj} {a : Addr} {o : Obj} {l : List (Addr × Obj)}
theorem nm0 (_ : News h₀ L h ((a, o) :: l)) : ∃ b, b = a := ⟨_, rfl⟩
theorem nm1 (_ : News h₀ L h (p0 :: (a, o) :: l)) : ∃ b, b = a := ⟨_, rfl⟩
theorem nm2 (_ : News h₀ L h (p0 :: p1 :: (a, o) :: l)) : ∃ b, b = a := ⟨_, rfl⟩
theorem nm3 (_ : News h₀ L h (p0 :: p1 :: p2 :: (a, o) :: l)) : ∃ b, b = a := ⟨_, rfl⟩
theorem nm4 (_ : News h₀ L h (p0 :: p1 :: p2 :: p3 :: (a, o) :: l)) : ∃ b, b = a := ⟨_, rfl⟩
theorem nm5 (_ : News h₀ L h (p0 :: p1 :: p2 :: p3 :: p4 :: (a, o) :: l)) : ∃ b, b = a := ⟨_, rfl⟩
theorem nm6 (_ : News h₀ L h (p0 :: p1 :: p2 :: p3 :: p4 :: p5 :: (a, o) :: l)) : ∃ b, b = a := ⟨_, rfl⟩
theorem nm7 (_ : News h₀ L h (p0 :: p1 :: p2 :: p3 :: p4 :: p5 :: p6 :: (a, o) :: l)) : ∃ b, b = a := ⟨_, rfl⟩
theorem nm8 (_ : News h₀ L h (p0 :: p1 :: p2 :: p3 :: p4 :: p5 :: p6 :: p7 :: (a, o) :: l)) : ∃ b, b = a := ⟨_, rfl⟩
theorem third (N : News h₀ L h (p0 :: p1 :: (a, o) :: l)) : ∃ o', o = o' ∧ News h₀ L h (p0 :: p1 :: (a, o') :: l) := ⟨_, rfl, N⟩
end
section
variable {prog : Program} {w : World} {A : Around} {E : Value → Shared → Prop} {s : Shared} {h₀ : Heap} {L d : Addr} {m : Str → Option Value} {rest : List (Addr × Obj)} {o : Obj} {kvs : List (Int × Value)}
theorem n_setd {k : Int} {t : Tok} {dflt : Value} {Q : Value → Shared → Prop} (F : Fr h₀ L s.heap m) (N : News h₀ L s.heap ((d, o) :: rest)) (h2 : ∀ p ∈ rest, p.1 ≠ d) (lo : (d == sysModules) = false) (hd : o.IsDictOf (intKind prog w) kvs) (hl : valueAt kvs k = none) (hsz : kvs.length ≤ 100)
    (h : ∀ h' o', Fr h₀ L h' m → News h₀ L h' ((d, o') :: rest) → o'.IsDictOf (intKind prog w) (stored kvs k dflt) → Q dflt { s with heap := h', toks := s.toks + 1 }) :
    wpAny (model prog w) A (call (.builtin "dict.setdefault") [.ref d, .int k t, dflt]) Q E s := by
  have hm := N (d, o) (.head _)
  have hD : s.heap.DictOf (intKind prog w) d kvs := Heap.dictOf_iff.mpr ⟨o, hm.1, hd⟩
  refine call_meetsIn PySem.F.slot_dict_setdefault hD.typeIs PySem.F.entry_dict_setdefault (PySem.F.args_dict_setdefault_3 _ _ _) (kt_meets_setdefault (intKind prog w) d (intKind_is prog w k t) lo dflt)
    ⟨kvs, hD, Nat.le_trans hsz (by rw [sizeLine_eq]; decide), (fun v' hv' => by rw [hl] at hv'; cases hv'), fun _ h' hmm hs => ?_⟩
  obtain ⟨o', ho', hd'⟩ := Heap.dictOf_iff.mp hmm
  exact h h' o' (F.change hs hm.2.1 hm.2.2) (N.setIn (own := []) (fun _ hp => nomatch hp) h2 hs ho') hd'
end
theorem valueAt_new {kvs : List (Int × Value)} {k x : Int} {v : Value} (hl : valueAt kvs k = none) : valueAt (PySem.stored kvs k v) x = if k = x then some v else valueAt kvs x := by
  have ha : kvs.any (fun kv => decide (kv.1 = k)) = false := by
    unfold valueAt at hl
    rw [Option.map_eq_none_iff, List.find?_eq_none] at hl
    rw [List.any_eq_false]
    intro p hp; exact hl p hp
  unfold PySem.stored
  rw [if_neg (by rw [ha]; decide)]
  unfold valueAt
  rw [List.find?_append]
  by_cases e : k = x
  · subst e
    have : kvs.find? (fun kv => decide (kv.1 = k)) = none := by
      unfold valueAt at hl; exact Option.map_eq_none_iff.mp hl
    rw [this]; simp
  · rw [if_neg e]
    cases kvs.find? (fun kv => decide (kv.1 = x)) <;> simp [e]
theorem length_new {kvs : List (Int × Value)} {k : Int} {v : Value} : (PySem.stored kvs k v).length ≤ kvs.length + 1 := stored_length_le kvs k v
theorem ints_of {xs : List Value} {ms : List Int} (hi : IntsAre xs ms) {i : Nat} {v : Value} (h : xs.toArray[i]? = some v) : ∃ n t, ms[i]? = some n ∧ v = .int n t := by
  have hl : i < ms.length := by
    have := (List.getElem?_eq_some_iff.mp (by simpa using h : xs[i]? = some v)).1
    have e := hi.length
    omega
  obtain ⟨t, ht⟩ := ints_at hi (List.getElem?_eq_getElem hl)
  rw [h] at ht
  exact ⟨_, t, List.getElem?_eq_getElem hl, Option.some.inj ht⟩
structure BS where
  o : Obj
  kvs : List (Int × Value)
  al : Nat → Addr
  tj : Nat → Tok
  rest : List (Addr × Obj)
theorem BS.all9 {P : BS → Prop} (h : ∀ x0 x1 x2 x3 x4, P ⟨x0, x1, x2, x3, x4⟩) : ∀ c, P c := fun ⟨x0, x1, x2, x3, x4⟩ => h x0 x1 x2 x3 x4
theorem neBS : Nonempty BS := ⟨by constructor <;> exact Classical.choice inferInstance⟩
noncomputable def BsI (prog : Program) (w : World) (bd : Addr) (ns : List Int) (i : Nat) (c : BS) : Prop :=
  c.o.IsDictOf (intKind prog w) c.kvs ∧ c.kvs.length ≤ i ∧ (∀ v, valueAt c.kvs v = ((ns.take i).idxOf? v).map fun j => Value.ref (c.al j)) ∧ (∀ j, j < i → (c.al j, PySem.W.listOf #[.int (j : Int) (c.tj j)] 1) ∈ c.rest) ∧ (∀ p ∈ c.rest, p.1 ≠ bd)
theorem idx_take_none {ns : List Int} {i : Nat} {n : Int} (hnd : ns.Nodup) (h : ns[i]? = some n) : (ns.take i).idxOf? n = none := by
  rw [List.idxOf?_eq_none_iff]
  intro hm
  obtain ⟨j, hj, e⟩ := List.mem_take_iff_getElem.mp hm
  obtain ⟨hi, e2⟩ := List.getElem?_eq_some_iff.mp h
  exact List.pairwise_iff_getElem.mp hnd j i (by omega) hi (by omega) (e.trans e2.symm)
theorem idx_take_succ {ns : List Int} {i : Nat} {n v : Int} (hnd : ns.Nodup) (h : ns[i]? = some n) : (ns.take (i + 1)).idxOf? v = if n = v then some i else (ns.take i).idxOf? v := by
  have hi := (List.getElem?_eq_some_iff.mp h).1
  rw [List.take_add_one, h]
  simp only [Option.toList_some]
  unfold List.idxOf?
  rw [List.findIdx?_append]
  have hn := idx_take_none hnd h
  unfold List.idxOf? at hn
  by_cases e : n = v
  · subst e
    rw [hn, if_pos rfl]
    simp [List.findIdx?_cons, Nat.min_eq_left (Nat.le_of_lt hi)]
  · rw [if_neg e]
    cases (ns.take i).findIdx? (fun x => x == v) <;> simp [List.findIdx?_cons, e]
theorem BsI.step {prog : Program} {w : World} {bd a : Addr} {ns : List Int} {i : Nat} {c : BS} {o' : Obj} {n : Int} {t : Tok} {rest' : List (Addr × Obj)} (h : BsI prog w bd ns i c) (hnd : ns.Nodup) (hn : ns[i]? = some n)
    (ho : o'.IsDictOf (intKind prog w) (PySem.stored c.kvs n (.ref a))) (hm : (a, PySem.W.listOf #[.int (i : Int) t] 1) ∈ rest') (hs : ∀ p ∈ c.rest, p ∈ rest') (hb : ∀ p ∈ rest', p.1 ≠ bd) :
    BsI prog w bd ns (i + 1) ⟨o', PySem.stored c.kvs n (.ref a), fun j => if j = i then a else c.al j, fun j => if j = i then t else c.tj j, rest'⟩ := by
  obtain ⟨h1, h2, h3, h4, h5⟩ := h
  have hl : valueAt c.kvs n = none := by rw [h3, idx_take_none hnd hn]; rfl
  refine ⟨ho, Nat.le_trans length_new (Nat.succ_le_succ h2), fun v => ?_, fun j hj => ?_, hb⟩
  · rw [valueAt_new hl, idx_take_succ hnd hn, h3]
    by_cases e : n = v
    · rw [if_pos e, if_pos e]; simp
    · rw [if_neg e, if_neg e]
      cases hx : (ns.take i).idxOf? v with
      | none => rfl
      | some j =>
        have : j < i := by have := idxOf?_lt hx; simp at this; omega
        simp [Nat.ne_of_lt this]
  · dsimp only
    by_cases e : j = i
    · subst e; rw [if_pos rfl, if_pos rfl]; exact hm
    · rw [if_neg e, if_neg e]; exact hs _ (h4 j (by omega))
theorem mem_two {h₀ h : Heap} {L : Addr} {a b : Addr × Obj} {l : List (Addr × Obj)} (_ : News h₀ L h (a :: b :: l)) : b ∈ a :: b :: l := .tail _ (.head _)
theorem mem_five {h₀ h : Heap} {L : Addr} {a b c d e : Addr × Obj} {l : List (Addr × Obj)} (_ : News h₀ L h (a :: b :: c :: d :: e :: l)) : e ∈ a :: b :: c :: d :: e :: l := .tail _ (.tail _ (.tail _ (.tail _ (.head _))))
theorem sm_in {w : World} {news : List (Addr × Obj)} {x : Addr} {D : SmD} {mbv opv : Value} {ms ns : List Int} {t0 t1 t2 t3 t4 t5 t6 t7 t8 t9 : Nat} {G : Prop}
    (hm : (D.d, PySem.W.dictOf [⟨PyData.keyHash w.params (Str.ofString "isjunk"), .str (Str.ofString "isjunk") t0, .none⟩, ⟨PyData.keyHash w.params (Str.ofString "a"), .str (Str.ofString "a") t1, .ref D.la⟩, ⟨PyData.keyHash w.params (Str.ofString "b"), .str (Str.ofString "b") t2, .ref D.lb⟩, ⟨PyData.keyHash w.params (Str.ofString "autojunk"), .str (Str.ofString "autojunk") t3, .bool true⟩, ⟨PyData.keyHash w.params (Str.ofString "matching_blocks"), .str (Str.ofString "matching_blocks") t4, mbv⟩, ⟨PyData.keyHash w.params (Str.ofString "opcodes"), .str (Str.ofString "opcodes") t5, opv⟩, ⟨PyData.keyHash w.params (Str.ofString "fullbcount"), .str (Str.ofString "fullbcount") t6, .none⟩, ⟨PyData.keyHash w.params (Str.ofString "b2j"), .str (Str.ofString "b2j") t7, .ref D.bd⟩, ⟨PyData.keyHash w.params (Str.ofString "bjunk"), .str (Str.ofString "bjunk") t8, .ref D.sj⟩, ⟨PyData.keyHash w.params (Str.ofString "bpopular"), .str (Str.ofString "bpopular") t9, .ref D.sp⟩] 10) ∈ news) (hR : SmR w news x D ms ns) (k : ∀ D', D'.d = D.d → SmIn w news x D' mbv opv ms ns → G) : G :=
  k { D with t := fun i => [t0, t1, t2, t3, t4, t5, t6, t7, t8, t9].getD i.val 0 } rfl ⟨hm, hR⟩
end
section --Ms
open PySem PySem.W PySem.Spec PySem.Calls PyProof.Rows PySem.W.X PySem.W.XRun
noncomputable def ltM (r1 r2 : Int × Int × Int) : Bool :=
  if r1.1 = r2.1 then (if r1.2.1 = r2.2.1 then decide (r1.2.2 < r2.2.2) else decide (r1.2.1 < r2.2.1)) else decide (r1.1 < r2.1)
theorem find_mlt (w : World) : findIn (Mine.hd0.heap_1 w.params) (.ref 135) (Str.ofString "__lt__") = some (some (.builtin "tuple.__lt__")) := by kernel_rfl
theorem bs_tlt (q : Addr) : bindSpecial (.builtin "tuple.__lt__") (.ref q) = pure (.builtin "tuple.__lt__", [.ref q]) := by kernel_rfl
theorem sub_mt (w : World) : subIn (Mine.hd0.heap_1 w.params) (.ref 135) (.type "tuple") = some true := by kernel_rfl
section
variable {prog : Program} {w : World} {A : Around} {E : Value → Shared → Prop} {s : Shared}
theorem n_rlt {a b : Int} {t u : Tok} {Q : Value → Shared → Prop} (h : Q (.bool (decide (a < b))) s) : wpAny (model prog w) A (richCompare .Lt (.int a t) (.int b u)) Q E s :=
  wpAny_richCompare_same (op := .Lt) (typeIs_int s a t) (typeIs_int s b u) slot_int_lt (call_int_lt ⟨fun e => (nomatch e), h⟩)
theorem n_tlt {x y dx dy : Addr} {r1 r2 : Int × Int × Int} {t1 t2 : Tok × Tok × Tok} {P : PySem.Fin → Shared → Prop} {h₀ : Heap} (X : (Mine.hd0.heap_1 w.params).In s.heap) (hx : s.heap.get? x = some (matchO dx r1 t1)) (hy : s.heap.get? y = some (matchO dy r2 t2)) (h : P (.done (.ret (.bool (ltM r1 r2)))) s) :
    wpAny (model prog w) A (Builtin.«tuple.__lt__» ⟨[.ref x, .ref y], []⟩) P E s := by
  have hty : Looks (model prog w) s.heap (typeOf (.ref y)) (.ref 135) := (Looks.ld (part := none) hy).andThen .now
  have hi : Looks (model prog w) s.heap (isInstance (.ref y) (.type "tuple")) true := hty.andThen (looks_subIn X (sub_mt w))
  show wpAny _ _ (isInstance (.ref y) (.type "tuple") >>= _) _ _ s
  refine wpAny_bind (hi.here ?_)
  simp only [Bool.not_true, Bool.false_eq_true, if_false]
  refine wpAny_bind (wpAny_tupleItemsOf hx rfl ?_)
  refine wpAny_bind (wpAny_tupleItemsOf hy rfl ?_)
  refine wpAny_bind ?_
  obtain ⟨a1, a2, a3⟩ := r1
  obtain ⟨b1, b2, b3⟩ := r2
  unfold ltM at h
  dsimp only at h ⊢
  simp only [List.zip_cons_cons, List.zip_nil_left, List.forIn_cons, List.forIn_nil]
  refine wpAny_bind (wpAny_bind (wpAny_eqBool_int ?_))
  by_cases e1 : a1 = b1
  · rw [if_pos e1] at h
    rw [show (a1 == b1) = true from by simpa using e1]
    simp only [Bool.not_true, Bool.false_eq_true, if_false]
    refine wpAny_pure ?_
    dsimp only
    refine wpAny_bind (wpAny_bind (wpAny_eqBool_int ?_))
    by_cases e2 : a2 = b2
    · rw [if_pos e2] at h
      rw [show (a2 == b2) = true from by simpa using e2]
      simp only [Bool.not_true, Bool.false_eq_true, if_false]
      refine wpAny_pure ?_
      dsimp only
      refine wpAny_bind (wpAny_bind (wpAny_eqBool_int ?_))
      by_cases e3 : a3 = b3
      · rw [show (a3 == b3) = true from by simpa using e3]
        simp only [Bool.not_true, Bool.false_eq_true, if_false]
        refine wpAny_pure ?_
        dsimp only
        refine wpAny_pure ?_
        dsimp only
        have e4 : decide (a3 < b3) = false := by rw [e3]; simp
        rw [e4] at h
        exact wpAny_pure h
      · rw [show (a3 == b3) = false from by simpa using e3]
        simp only [Bool.not_false, if_true]
        refine wpAny_bind (wpAny_rule ?_)
        refine wpAny_bind (n_rlt ?_)
        refine wpAny_bind (wpAny_pure (wpAny_pure ?_))
        dsimp only
        refine wpAny_pure ?_
        dsimp only
        exact wpAny_pure h
    · rw [if_neg e2] at h
      rw [show (a2 == b2) = false from by simpa using e2]
      simp only [Bool.not_false, if_true]
      refine wpAny_bind (wpAny_rule ?_)
      refine wpAny_bind (n_rlt ?_)
      refine wpAny_bind (wpAny_pure (wpAny_pure ?_))
      dsimp only
      refine wpAny_pure ?_
      dsimp only
      exact wpAny_pure h
  · rw [if_neg e1] at h
    rw [show (a1 == b1) = false from by simpa using e1]
    simp only [Bool.not_false, if_true]
    refine wpAny_bind (wpAny_rule ?_)
    refine wpAny_bind (n_rlt ?_)
    refine wpAny_bind (wpAny_pure (wpAny_pure ?_))
    dsimp only
    refine wpAny_pure ?_
    dsimp only
    exact wpAny_pure h
end
section
variable {w : World} {A : Around} {E : Value → Shared → Prop} {s : Shared}
theorem n_ltM {x y dx dy : Addr} {r1 r2 : Int × Int × Int} {t1 t2 : Tok × Tok × Tok} {Q : Bool → Shared → Prop} (hu : A.units < cLine) (X : (Mine.hd0.heap_1 w.params).In s.heap) (hx : s.heap.get? x = some (matchO dx r1 t1)) (hy : s.heap.get? y = some (matchO dy r2 t2)) (h : Q (ltM r1 r2) s) :
    wpAny (model PySem.Challenge.rw_mr0378_01.row.prog w) A (keyLt' oneType' (.ref x) (.ref y)) Q E s := by
  have htx : Looks (model PySem.Challenge.rw_mr0378_01.row.prog w) s.heap (typeOf (.ref x)) (.ref 135) := (Looks.ld (part := none) hx).andThen .now
  have SL : Looks (model PySem.Challenge.rw_mr0378_01.row.prog w) s.heap (specialOf (.ref x) (Str.ofString "__lt__")) (some (.builtin "tuple.__lt__")) := by
    unfold specialOf
    exact htx.andThen (looks_findIn X (find_mlt w))
  have hix : Looks (model PySem.Challenge.rw_mr0378_01.row.prog w) s.heap (isInstance (.ref x) (.type "tuple")) true := htx.andThen (looks_subIn X (sub_mt w))
  have hc : wpAny (model PySem.Challenge.rw_mr0378_01.row.prog w) A (call (.builtin "tuple.__lt__") [.ref x, .ref y]) (fun v s' => v = .bool (ltM r1 r2) ∧ s' = s) E s := by
    refine wpAny_call (codeAny_call_builtin PySem.F.slot_tuple_lt.plain PySem.F.entry_tuple_lt (check_slot (i := "tuple.__lt__") (owner := "tuple") (n := "__lt__") (by decide +kernel) (by decide +kernel) hix (PySem.F.args_tuple_lt_2 _ _) ?_))
    exact n_tlt (h₀ := s.heap) X hx hy ⟨rfl, rfl⟩
  rw [keyLt'_oneType, oneLt'_eq]
  simp only [if_true]
  refine wpAny_bind (wpAny_cRoomFor hu ?_)
  refine wpAny_bind ?_
  simp only [callSpecialIfBound?, bindSpecialIfBound?]
  refine wpAny_holding (wpAny_bind (wpAny_bind (SL.here ?_)))
  dsimp only
  refine wpAny_bind (wpAny_askSetting ?_)
  rw [bs_tlt]
  have fin : wpAny (model PySem.Challenge.rw_mr0378_01.row.prog w) A (call (.builtin "tuple.__lt__") [.ref x, .ref y] >>= fun v => pure (some v)) (fun o s' => o = some (.bool (ltM r1 r2)) ∧ s' = s) E s :=
    wpAny_bind (wpAny_mono hc (fun v s' hv => wpAny_pure ⟨congrArg some hv.1, hv.2⟩) fun _ _ x => x)
  refine wpAny_ite ?_
  split
  · refine wpAny_bind (wpAny_pure (wpAny_pure ?_))
    refine wpAny_mono fin (fun o s' ho => ?_) fun _ _ x => x
    obtain ⟨rfl, rfl⟩ := ho
    first | exact wpAny_truthy_bool h | exact wpAny_bind (wpAny_truthy_bool (wpAny_pure h))
  · refine wpAny_tryCatch (wpAny_bind (wpAny_pure (wpAny_pure ?_)))
    refine wpAny_mono fin (fun o s' ho => ?_) fun _ _ x => x
    obtain ⟨rfl, rfl⟩ := ho
    first | exact wpAny_truthy_bool h | exact wpAny_bind (wpAny_truthy_bool (wpAny_pure h))
end
noncomputable def kasRun {α : Type} (lt : Nat → Nat → Bool) : KasT α → α
  | .ret a => a
  | .ask i j k => kasRun lt (k (lt i j))
noncomputable def kasOk {α : Type} (n : Nat) : KasT α → Bool
  | .ret _ => true
  | .ask i j k => decide (i < n) && decide (j < n) && kasOk n (k true) && kasOk n (k false)
theorem kas_pure {α : Type} {n : Nat} {lt : Nat → Nat → Bool} {cmp : Nat → Nat → (Bool → Shared → Prop) → Shared → Prop} {Q : α → Shared → Prop} {s : Shared}
    (hc : ∀ i j C, i < n → j < n → C (lt i j) s → cmp i j C s) : ∀ (t : KasT α), kasOk n t = true → Q (kasRun lt t) s → t.kasWp cmp Q s
  | .ret a, _, h => h
  | .ask i j k, ok, h => by
    unfold kasOk at ok
    simp only [Bool.and_eq_true, decide_eq_true_eq] at ok
    refine hc i j _ ok.1.1.1 ok.1.1.2 (kas_pure hc (k (lt i j)) ?_ h)
    cases lt i j
    · exact ok.2
    · exact ok.1.2
theorem kas_ok : ∀ n ≤ 4, kasOk n (kas_sort n) = true := by decide +kernel
noncomputable def sortP {α : Type} (d : α) (lt : α → α → Bool) (xs : List α) : List α :=
  if xs.length < 2 then xs else (kasRun (fun i j => lt (xs.getD i d) (xs.getD j d)) (kas_sort xs.length)).toList.map fun i => xs.getD i d
noncomputable def sortV {α : Type} (d : α) (lt : α → α → Bool) (xs : List α) (vs : List Value) : List Value :=
  if xs.length < 2 then vs else (kasRun (fun i j => lt (xs.getD i d) (xs.getD j d)) (kas_sort xs.length)).toList.map fun i => vs.getD i Value.none
section
variable {prog : Program} {w : World} {A : Around} {E : Value → Shared → Prop} {s : Shared} {h₀ : Heap} {L D : Addr} {m : Str → Option Value} {rest : List (Addr × Obj)}
theorem sort_short {n : Nat} {vs : List Value} {Q : Value → Shared → Prop} (F : Fr h₀ L s.heap m) (N : News h₀ L s.heap ((D, PySem.W.listOf vs.toArray n) :: rest)) (hne : ∀ p ∈ rest, p.1 ≠ D) (h2 : vs.length < 2)
    (h : ∀ h' n', Fr h₀ L h' m → News h₀ L h' ((D, PySem.W.listOf vs.toArray n') :: rest) → Q .none { s with heap := h' }) :
    wpAny (model prog w) A (call (.builtin "list.sort") [.ref D]) Q E s := by
  have nz := N (D, PySem.W.listOf vs.toArray n) (.head _)
  have ho : s.heap.get? D = some (seqObj "list" vs.toArray n) := nz.1
  refine wpAny_call_entry slot_list_sort ⟨_, nz.1, rfl⟩ entry_list_sort ?_ (args_list_sort _)
  have s1 := Heap.SameBut.update s.heap D (Obj.mapSeq fun _ => (#[] : Array Value))
  obtain ⟨e1, ho1⟩ : ∃ e1, (s.heap.update D (Obj.mapSeq fun _ => (#[] : Array Value))).get? D = some (seqObj "list" #[] e1) := ⟨_, get?_update_seq ho fun _ => #[]⟩
  have F3 : Fr h₀ L (((s.heap.update D (Obj.mapSeq fun _ => (#[] : Array Value))).push (seqObj "tuple" vs.toArray 0)).push (seqObj "list" #[] 0)) m := ((kas_fr F s1 nz.2.1 nz.2.2).push _).push _
  have N2 : News h₀ L (((s.heap.update D (Obj.mapSeq fun _ => (#[] : Array Value))).push (seqObj "tuple" vs.toArray 0)).push (seqObj "list" #[] 0)) rest :=
    (kas_news (fun p hp => N p (.tail _ hp)) s1 hne).grown fun b x e => Heap.get?_push_of_some _ (Heap.get?_push_of_some _ e)
  have ho3 : (((s.heap.update D (Obj.mapSeq fun _ => (#[] : Array Value))).push (seqObj "tuple" vs.toArray 0)).push (seqObj "list" #[] 0)).get? D = some (seqObj "list" #[] e1) := Heap.get?_push_of_some _ (Heap.get?_push_of_some _ ho1)
  rw [list_sort_plain]
  refine wpAny_bind (listItems_at ho rfl ?_)
  refine wpAny_bind (listUpdate_at ho rfl ?_ (by rw [List.size_toArray, sizeLine_eq]; omega) (Nat.zero_le _))
  refine wpAny_bind (seqEpoch_at ho1 rfl ?_)
  refine wpAny_bind (wpAny_newTuple ?_ (by show vs.length ≤ _; rw [sizeLine_eq]; omega))
  refine wpAny_bind (wpAny_newList ?_ (Nat.zero_le _))
  refine wpAny_holding ?_
  have hn2 : vs.toArray.size < 2 := by rw [List.size_toArray]; exact h2
  rw [if_pos hn2, if_pos hn2]
  refine wpAny_bind (wpAny_pure ?_)
  refine wpAny_bind (wpAny_pure ?_)
  dsimp only
  have hout : (arrOf (SortSt.mk' general' (vs.toArray.zip vs.toArray) #[] 7 none)).map (·.2) = vs.toArray := by
    show (vs.toArray.zip vs.toArray).map (·.2) = vs.toArray
    apply Array.toList_inj.mp
    simp [List.map_snd_zip]
  rw [hout]
  have s2 := Heap.SameBut.update (((s.heap.update D (Obj.mapSeq fun _ => (#[] : Array Value))).push (seqObj "tuple" vs.toArray 0)).push (seqObj "list" #[] 0)) D (Obj.mapSeq fun _ => vs.toArray)
  obtain ⟨c2, hc2⟩ : ∃ c2, ((((s.heap.update D (Obj.mapSeq fun _ => (#[] : Array Value))).push (seqObj "tuple" vs.toArray 0)).push (seqObj "list" #[] 0)).update D (Obj.mapSeq fun _ => vs.toArray)).get? D = some (seqObj "list" vs.toArray c2) := ⟨_, get?_update_seq ho3 fun _ => vs.toArray⟩
  refine wpAny_bind (seqEpoch_at ho3 rfl ?_)
  refine wpAny_bind (listUpdate_at ho3 rfl ?_ (Nat.zero_le _) (Nat.le_trans (Nat.le_of_eq (List.size_toArray ..)) (by rw [sizeLine_eq]; omega)))
  try simp only [show failedOf (SortSt.mk' general' (vs.toArray.zip vs.toArray) #[] 7 none) = none from rfl]
  simp only [bne_self_eq_false, Bool.false_eq_true, if_false]
  refine wpAny_pure ⟨_, rfl, h _ c2 (kas_fr F3 s2 nz.2.1 nz.2.2) fun p hp => ?_⟩
  rcases List.mem_cons.mp hp with rfl | hp
  · exact ⟨hc2, nz.2⟩
  · exact kas_news N2 s2 hne p hp
end
section
variable {w : World} {A : Around} {E : Value → Shared → Prop} {s : Shared} {h₀ : Heap} {L D : Addr} {m : Str → Option Value} {rest : List (Addr × Obj)}
theorem n_sortM {n : Nat} {vs : List Value} {rs : List (Int × Int × Int)} {Q : Value → Shared → Prop} (hu : A.in1.units < cLine) (F : Fr h₀ L s.heap m) (X : (Mine.hd0.heap_1 w.params).In h₀) (N : News h₀ L s.heap ((D, PySem.W.listOf vs.toArray n) :: rest)) (hne : ∀ p ∈ rest, p.1 ≠ D) (hB : Blocks rest vs rs) (h4 : vs.length ≤ 4)
    (h : ∀ h' n', Fr h₀ L h' m → News h₀ L h' ((D, PySem.W.listOf (sortV (0, 0, 0) ltM rs vs).toArray n') :: rest) → Q .none { s with heap := h' }) :
    wpAny (model PySem.Challenge.rw_mr0378_01.row.prog w) A (call (.builtin "list.sort") [.ref D]) Q E s := by
  by_cases h2 : vs.length < 2
  · refine sort_short F N hne h2 fun h' n' F' N' => h h' n' F' ?_
    unfold sortV
    rw [if_pos (hB.1 ▸ h2)]
    exact N'
  · have at_ : ∀ i, i < vs.length → ∃ q d t, vs.getD i Value.none = .ref q ∧ (q, matchO d (rs.getD i (0, 0, 0)) t) ∈ rest := fun i hi => by
      obtain ⟨q, d, t, r, e1, e2, e3⟩ := hB.2 i _ (List.getElem?_eq_getElem hi)
      refine ⟨q, d, t, ?_, ?_⟩
      · rw [List.getD_eq_getElem?_getD, List.getElem?_eq_getElem hi]; exact e1
      · rw [List.getD_eq_getElem?_getD, e2]; exact e3
    refine kas_lsort (vs := vs) (T := .ref 135) F N (.head hne) rfl (by omega) (by omega) (fun e1 h1 F1 N1 v hv => ?_) (by decide) fun e1 h1 F1 N1 => ?_
    · obtain ⟨i, hi, rfl⟩ := List.mem_iff_getElem.mp hv
      obtain ⟨q, d, t, e2, e3⟩ := at_ i hi
      rw [List.getD_eq_getElem?_getD, List.getElem?_eq_getElem hi] at e2
      dsimp only [Option.getD_some] at e2
      rw [e2]
      exact (Looks.ld (part := none) (N1 _ (.tail _ e3)).1).andThen .now
    · refine kas_pure (n := vs.length) (lt := fun i j => ltM (rs.getD i (0, 0, 0)) (rs.getD j (0, 0, 0))) (fun i j C hi hj hC => ?_) _ (kas_ok _ h4) ?_
      · obtain ⟨q, d, t, e2, e3⟩ := at_ i hi
        obtain ⟨q', d', t', e2', e3'⟩ := at_ j hj
        unfold kas_ask
        rw [e2, e2']
        exact n_ltM hu (X.keeps F1.keep) (N1 _ (.tail _ e3)).1 (N1 _ (.tail _ e3')).1 hC
      · refine KasFin.intro F1 N1 (.head hne) fun h' c F' N' => h h' c F' ?_
        unfold sortV
        rw [if_neg (hB.1 ▸ h2), ← hB.1]
        exact N'
end
noncomputable def kasAll {α : Type} (P : α → Bool) : KasT α → Bool
  | .ret a => P a
  | .ask _ _ k => kasAll P (k true) && kasAll P (k false)
theorem kas_all {α : Type} {P : α → Bool} {lt : Nat → Nat → Bool} : ∀ (t : KasT α), kasAll P t = true → P (kasRun lt t) = true
  | .ret a, h => h
  | .ask i j k, h => by
    unfold kasAll at h
    simp only [Bool.and_eq_true] at h
    refine kas_all (k (lt i j)) ?_
    cases lt i j
    · exact h.2
    · exact h.1
theorem kas_in : ∀ n ≤ 4, kasAll (fun p : Array Nat => decide (p.toList.length = n) && p.toList.all fun i => decide (i < n)) (kas_sort n) = true := by decide +kernel
theorem kas_perm {n : Nat} (h : n ≤ 4) {lt : Nat → Nat → Bool} : (kasRun lt (kas_sort n)).toList.length = n ∧ ∀ i ∈ (kasRun lt (kas_sort n)).toList, i < n := by
  have := kas_all (lt := lt) _ (kas_in n h)
  simp only [Bool.and_eq_true, decide_eq_true_eq, List.all_eq_true] at this
  exact this
theorem Blocks.sorted {news : List (Addr × Obj)} {vs : List Value} {rs : List (Int × Int × Int)} (h : Blocks news vs rs) (h4 : vs.length ≤ 4) : Blocks news (sortV (0, 0, 0) ltM rs vs) (sortP (0, 0, 0) ltM rs) := by
  unfold sortV sortP
  split
  · exact h
  · have hp := kas_perm (h.1 ▸ h4) (lt := fun i j => ltM (rs.getD i (0, 0, 0)) (rs.getD j (0, 0, 0)))
    generalize (kasRun (fun i j => ltM (rs.getD i (0, 0, 0)) (rs.getD j (0, 0, 0))) (kas_sort rs.length)).toList = l at hp
    refine ⟨by simp, fun i v e => ?_⟩
    rw [List.getElem?_map] at e
    cases hl : l[i]? with
    | none => rw [hl] at e; cases e
    | some k =>
      rw [hl] at e
      have hk : k < vs.length := h.1 ▸ hp.2 k (List.mem_of_getElem? hl)
      have ev : vs.getD k Value.none = v := Option.some.inj e
      rw [List.getD_eq_getElem?_getD, List.getElem?_eq_getElem hk, Option.getD_some] at ev
      obtain ⟨q, d, t, r, a, b, c⟩ := h.2 k v (by rw [List.getElem?_eq_getElem hk, ev])
      exact ⟨q, d, t, r, a, by rw [List.getElem?_map, hl]; show some (rs.getD k (0, 0, 0)) = _; rw [List.getD_eq_getElem?_getD, b]; rfl, c⟩
theorem sortV_len {vs : List Value} {rs : List (Int × Int × Int)} (h1 : vs.length = rs.length) (h4 : vs.length ≤ 4) : (sortV (0, 0, 0) ltM rs vs).length = vs.length := by
  unfold sortV
  split
  · rfl
  · rw [List.length_map, (kas_perm (h1 ▸ h4)).1, h1]
noncomputable abbrev I3 := Int × Int × Int
noncomputable def mergeT (st : List I3 × I3) (r : I3) : List I3 × I3 :=
  if st.2.1 + st.2.2.2 = r.1 ∧ st.2.2.1 + st.2.2.2 = r.2.1 then (st.1, st.2.1, st.2.2.1, st.2.2.2 + r.2.2) else (if st.2.2.2 = 0 then st.1 else st.1 ++ [st.2], r)
noncomputable def mergeE (st : List I3 × I3) : List I3 := if st.2.2.2 = 0 then st.1 else st.1 ++ [st.2]
noncomputable abbrev t3O (r : I3) (t : Tok × Tok × Tok) : Obj := ⟨.type "tuple", none, .seq #[.int r.1 t.1, .int r.2.1 t.2.1, .int r.2.2 t.2.2] 0, #[]⟩
noncomputable def TupsAre (news : List (Addr × Obj)) (vs : List Value) (rs : List I3) : Prop :=
  vs.length = rs.length ∧ ∀ (i : Nat) v, vs[i]? = some v → ∃ q t r, v = .ref q ∧ rs[i]? = some r ∧ (q, t3O r t) ∈ news
theorem TupsAre.nil {news : List (Addr × Obj)} : TupsAre news [] [] := ⟨rfl, fun i v h => by simp at h⟩
theorem TupsAre.sub {news news' : List (Addr × Obj)} {vs : List Value} {rs : List I3} (h : TupsAre news vs rs) (hs : ∀ p ∈ news, p ∈ news') : TupsAre news' vs rs :=
  ⟨h.1, fun i v e => by obtain ⟨q, t, r, a, b, c⟩ := h.2 i v e; exact ⟨q, t, r, a, b, hs _ c⟩⟩
theorem TupsAre.snoc {news : List (Addr × Obj)} {vs : List Value} {rs : List I3} {q : Addr} {r : I3} {t1 t2 t3 : Tok} (h : TupsAre news vs rs)
    (hm : (q, (⟨.type "tuple", none, .seq #[.int r.1 t1, .int r.2.1 t2, .int r.2.2 t3] 0, #[]⟩ : Obj)) ∈ news) : TupsAre news (vs ++ [.ref q]) (rs ++ [r]) :=
  gsnoc (R := fun (v : Value) (x : Option I3) => ∃ q t r, v = Value.ref q ∧ x = some r ∧ (q, t3O r t) ∈ news) h.1 h.2 ⟨q, (t1, t2, t3), r, rfl, rfl, hm⟩
structure MS where
  i : Int
  j : Int
  k : Int
  ti : Tok
  tj : Tok
  tk : Tok
  vs : List Value
  n : Nat
  rs : List I3
  rest : List (Addr × Obj)
theorem MS.all9 {P : MS → Prop} (h : ∀ x0 x1 x2 x3 x4 x5 x6 x7 x8 x9, P ⟨x0, x1, x2, x3, x4, x5, x6, x7, x8, x9⟩) : ∀ c, P c := fun ⟨x0, x1, x2, x3, x4, x5, x6, x7, x8, x9⟩ => h x0 x1 x2 x3 x4 x5 x6 x7 x8 x9
theorem neMS : Nonempty MS := ⟨by constructor <;> exact Classical.choice inferInstance⟩
noncomputable def MsI (base : List (Addr × Obj)) (nal : Addr) (rs : List I3) (idx : Nat) (c : MS) : Prop :=
  (c.rs, (c.i, c.j, c.k)) = (rs.take idx).foldl mergeT ([], (0, 0, 0)) ∧ TupsAre c.rest c.vs c.rs ∧ (∀ p ∈ base, p ∈ c.rest) ∧ (∀ p ∈ c.rest, p.1 ≠ nal) ∧ c.vs.length ≤ idx
theorem merge_end {rs : List I3} {h₀ : Heap} {L : Addr} {stored : List Str} {m₀ m' : Str → Option Value} {nal mbl x d la lb I : Addr} {oi od : Obj} {vm xs ys : List Value} {nm ea eb : Nat} {base : List (Addr × Obj)} {k : Nat} {s₁ : Shared} {h' : Heap} {tk₁ : Nat} {news' rest : List (Addr × Obj)}
    {vs' : List Value} {n' : Nat} {rs' : List I3} {i j kk : Int} {ti tj tk : Tok} {r : I3} (F : Fr h₀ L h' m') (N : News h₀ L h' news') (ham : (nal, PySem.W.listOf vs'.toArray n') ∈ news') (hrm : (mbl, PySem.W.listOf vm.toArray nm) ∈ news') (hx : (x, instObj 242 d) ∈ news') (hd : (d, od) ∈ news')
    (hla : (la, PySem.W.listOf xs.toArray ea) ∈ news') (hlb : (lb, PySem.W.listOf ys.toArray eb) ∈ news') (hIm : (I, oi) ∈ news')
    (hI1 : nal ≠ I) (hI2 : mbl ≠ I) (hI3 : x ≠ I) (hI4 : d ≠ I) (hI5 : la ≠ I) (hI6 : lb ≠ I)
    (hi : m' (Str.ofString "i1") = some (.int i ti)) (hj : m' (Str.ofString "j1") = some (.int j tj)) (hk : m' (Str.ofString "k1") = some (.int kk tk)) (ha : m' (Str.ofString "non_adjacent") = some (.ref nal))
    (hr : ∀ z, (∀ p ∈ [(Str.ofString "i1", Value.int i ti), (Str.ofString "j1", .int j tj), (Str.ofString "k1", .int kk tk), (Str.ofString "non_adjacent", .ref nal)], z ≠ p.1) → stored.contains z = false → m' z = m₀ z)
    {ors : List I3} {oi1 oj1 ok1 : Int} (hst0 : (ors, (oi1, oj1, ok1)) = (rs.take k).foldl mergeT ([], (0, 0, 0))) (hrk : rs[k]? = some r) (hst : (rs', (i, j, kk)) = mergeT (ors, (oi1, oj1, ok1)) r)
    (hO : TupsAre (but I (but nal news')) vs' rs') (hb : ∀ p ∈ base, p ∈ rest) (hrest : ∀ p ∈ rest, p ∈ news' ∧ p.1 ≠ nal ∧ p.1 ≠ I) (hl : vs'.length ≤ k + 1) :
    TTurnE h₀ L stored m₀ (fun c : MS => (nal, PySem.W.listOf c.vs.toArray c.n) :: (mbl, PySem.W.listOf vm.toArray nm) :: (x, instObj 242 d) :: (d, od) :: (la, PySem.W.listOf xs.toArray ea) :: (lb, PySem.W.listOf ys.toArray eb) :: c.rest)
      (fun c => [(Str.ofString "i1", .int c.i c.ti), (Str.ofString "j1", .int c.j c.tj), (Str.ofString "k1", .int c.k c.tk), (Str.ofString "non_adjacent", .ref nal)]) (MsI base nal rs (k + 1)) I oi s₁ { s₁ with heap := h', toks := tk₁ } := by
  refine tturn_end (σ := MS) ⟨i, j, kk, ti, tj, tk, vs', n', rs', but I (but nal news')⟩ F N ?_ ?_ ?_ hr ⟨?e, hO, fun p hp => ?_, fun p hp => but_ne p (but_sub p hp), hl⟩
  · intro p hp
    rcases List.mem_cons.mp hp with rfl | hp
    · exact hIm
    rcases List.mem_cons.mp hp with rfl | hp
    · exact ham
    rcases List.mem_cons.mp hp with rfl | hp
    · exact hrm
    rcases List.mem_cons.mp hp with rfl | hp
    · exact hx
    rcases List.mem_cons.mp hp with rfl | hp
    · exact hd
    rcases List.mem_cons.mp hp with rfl | hp
    · exact hla
    rcases List.mem_cons.mp hp with rfl | hp
    · exact hlb
    exact but_sub p (but_sub p hp)
  · exact ne_cons hI1 (ne_cons hI2 (ne_cons hI3 (ne_cons hI4 (ne_cons hI5 (ne_cons hI6 but_ne)))))
  · intro p hp
    rcases List.mem_cons.mp hp with rfl | hp
    · exact hi
    rcases List.mem_cons.mp hp with rfl | hp
    · exact hj
    rcases List.mem_cons.mp hp with rfl | hp
    · exact hk
    rcases List.mem_cons.mp hp with rfl | hp
    · exact ha
    exact nomatch hp
  · dsimp only
    rw [hst, hst0, List.take_add_one, hrk]; simp
  · obtain ⟨a, b, c⟩ := hrest p (hb p hp)
    exact but_mem (but_mem a b) c
section
variable {st : List I3} {i j k : Int} {r : I3}
theorem mergeT_1 (h1 : i + k = r.1) (h2 : j + k = r.2.1) : mergeT (st, (i, j, k)) r = (st, (i, j, k + r.2.2)) := if_pos ⟨h1, h2⟩
theorem mergeT_a (h1 : ¬ i + k = r.1) (h3 : k = 0) : mergeT (st, (i, j, k)) r = (st, r) := by unfold mergeT; rw [if_neg (fun h => h1 h.1)]; exact Prod.ext (if_pos h3) rfl
theorem mergeT_b (h1 : ¬ i + k = r.1) (h3 : k ≠ 0) : mergeT (st, (i, j, k)) r = (st ++ [(i, j, k)], r) := by unfold mergeT; rw [if_neg (fun h => h1 h.1)]; exact Prod.ext (if_neg h3) rfl
theorem mergeT_c (h1 : ¬ j + k = r.2.1) (h3 : k = 0) : mergeT (st, (i, j, k)) r = (st, r) := by unfold mergeT; rw [if_neg (fun h => h1 h.2)]; exact Prod.ext (if_pos h3) rfl
theorem mergeT_d (h1 : ¬ j + k = r.2.1) (h3 : k ≠ 0) : mergeT (st, (i, j, k)) r = (st ++ [(i, j, k)], r) := by unfold mergeT; rw [if_neg (fun h => h1 h.2)]; exact Prod.ext (if_neg h3) rfl
end
end
section --Mx
open PySem PySem.W PySem.Spec PySem.Calls PyProof.Rows PySem.W.X PySem.W.XRun
theorem ty_tuple : typeOf (.type "tuple") = pure (.type "type") := by kernel_rfl
section
local macro_rules | `(tactic| x_close) => `(tactic| k_extra "w91bed")
theorem x_tnew : ∀ {w : World} {l : List Env} {gd : Option (List Code)} {s : Shared} {T : Addr} {a b c : Value} {Q : Value → Shared → Prop} {E : Value → Shared → Prop} (KX : (KX2 w.params).In s.heap)
    (ho : s.heap.get? T = some ⟨.type "tuple", none, .seq #[a, b, c] 0, #[]⟩)
    (hQ : ∀ q d h tk new, Mem s.heap h [] new → (q, (⟨.ref 135, some d, .seq #[a, b, c] 0, #[]⟩ : Obj)) ∈ new → Q (.ref q) ⟨h, s.gens, s.drawn, tk, s.os⟩),
    wpAny (model PySem.Challenge.rw_mr0378_01.row.prog w) (Amx l gd) (call (.builtin "tuple.__new__") [.ref 135, .ref T]) Q E s := by
  w_top off
  k_fill
  intro w l gd s T a b c Q E KX ho hQ
  x_run
end
section
local macro_rules | `(tactic| x_close) => `(tactic| k_extra "w962e5")
theorem x_map : ∀ {w : World} {l : List Env} {gd : Option (List Code)} {s : Shared} {q nl : Addr} {its : Array Value} {n : Nat} {Q : Value → Shared → Prop} {E : Value → Shared → Prop} (KX : (KX2 w.params).In s.heap)
    (hl : s.heap.get? nl = some ⟨.type "list", none, .seq its n, #[]⟩)
    (hQ : ∀ M T I h tk, Mem s.heap h [] [(M, ⟨.type "map", none, .fields #[.ref T, .ref q], #[]⟩), (T, ⟨.type "tuple", none, .seq #[.ref I] 0, #[]⟩), (I, ⟨.type "list_iterator", none, .fields #[.ref nl, .int 0 0], #[]⟩)] → Q (.ref M) ⟨h, s.gens, s.drawn, tk, s.os⟩),
    wpAny (model PySem.Challenge.rw_mr0378_01.row.prog w) (Amx l gd) (call (.type "map") [.ref q, .ref nl]) Q E s := by
  k_fill
  intro w l gd s q nl its n Q E KX hl hQ
  x_run
end
theorem k_get {w : World} {h₀ h : Heap} {L : Addr} {m : Str → Option Value} (F : Fr h₀ L h m) (X : (Mine.hd0.heap_1 w.params).In h₀) (a : Addr) (e : ((Mine.hd0.heap_1 w.params).lookup a) = some (ob w.params a)) : h.get? a = some (ob w.params a) := F.keep _ _ (X a (ob w.params a) e)
noncomputable def km1 (q : Addr) : Sem Unit := checkBuiltinCall "len" ⟨[.ref q], []⟩
theorem km1_id : km1 = km1 := rfl
name_quick km1Q for Mine.km1 by Mine.km1_id
noncomputable def km2 (q : Addr) : Sem PySem.Fin := Builtin.«len» ⟨[.ref q], []⟩
theorem km2_id : km2 = km2 := rfl
name_quick km2Q for Mine.km2 by Mine.km2_id
noncomputable def km3 (q : Addr) : Sem Unit := checkBuiltinCall "tuple.__len__" ⟨[.ref q], []⟩
theorem km3_id : km3 = km3 := rfl
name_quick km3Q for Mine.km3 by Mine.km3_id
noncomputable def km4 (q : Addr) : Sem PySem.Fin := Builtin.«tuple.__len__» ⟨[.ref q], []⟩
theorem km4_id : km4 = km4 := rfl
name_quick km4Q for Mine.km4 by Mine.km4_id
theorem entry_tlen9 : entryFor table "tuple.__len__" = some Builtin.«tuple.__len__» := entryFor_of_tree (by kernel_rfl)
theorem entry_len9 : entryFor table "len" = some Builtin.«len» := entryFor_of_tree (by kernel_rfl)
section
variable {w : World} {E : Value → Shared → Prop} {s : Shared} {h₀ : Heap} {L : Addr} {m : Str → Option Value} {news : List (Addr × Obj)} {l : List Env} {gd : Option (List Code)}
theorem n_tnew {T : Addr} {a b c : Value} {Q : Value → Shared → Prop} (F : Fr h₀ L s.heap m) (N : News h₀ L s.heap news) (X : (Mine.hd0.heap_1 w.params).In h₀) (B : Boot w h₀) (ho : (T, (⟨.type "tuple", none, .seq #[a, b, c] 0, #[]⟩ : Obj)) ∈ news)
    (h : ∀ q d h' tk new, Fr h₀ L h' m → News h₀ L h' (new ++ news) → (q, (⟨.ref 135, some d, .seq #[a, b, c] 0, #[]⟩ : Obj)) ∈ new → Q (.ref q) { s with heap := h', toks := tk }) :
    wpAny (model PySem.Challenge.rw_mr0378_01.row.prog w) (Amx l gd) (call (.builtin "tuple.__new__") [.ref 135, .ref T]) Q E s :=
  x_tnew (kx_in (X.keeps F.keep) fun p hp => F.keep _ _ (B p hp)) (N.get ho) fun q d h' tk new D hm => h q d h' tk new (mem_led D F N).1 (mem_led D F N).2 hm
theorem n_mlen {q d : Addr} {a b c : Value} {Q : Value → Shared → Prop} (F : Fr h₀ L s.heap m) (N : News h₀ L s.heap news) (X : (Mine.hd0.heap_1 w.params).In h₀) (B : Boot w h₀) (ho : (q, (⟨.ref 135, some d, .seq #[a, b, c] 0, #[]⟩ : Obj)) ∈ news)
    (h : ∀ t tk, Q (.int 3 t) { s with toks := tk }) :
    wpAny (model PySem.Challenge.rw_mr0378_01.row.prog w) (Amx l gd) (call (.builtin "len") [.ref q]) Q E s := by
  refine wpAny_call ?_
  refine codeAny_call_builtin_code (by kernel_rfl) ?_
  show wpAny _ _ (km1 q) _ _ _
  rw [PySem.W.Fast.km1Q_eq]
  with_reducible refine r_pure (a := ()) (by kernel_rfl) ?_
  refine (codeAny_builtin entry_len9 ?_)
  show wpAny _ _ (km2 q) _ _ _
  rw [PySem.W.Fast.km2Q_eq]
  with_reducible refine r_load (a := q) (by kernel_rfl) (N.get ho) ?_
  with_reducible refine r_load (a := 135) (by kernel_rfl) (k_get F X 135 (by kernel_rfl)) ?_
  with_reducible refine r_load (a := 135) (by kernel_rfl) (k_get F X 135 (by kernel_rfl)) ?_
  with_reducible refine r_load (a := 134) (by kernel_rfl) (k_get F X 134 (by kernel_rfl)) ?_
  with_reducible refine r_call (c := .call (.builtin "tuple.__len__") ⟨[.ref q], []⟩) (by kernel_rfl) ?_
  refine codeAny_call_builtin_code (by kernel_rfl) ?_
  show wpAny _ _ (km3 q) _ _ _
  rw [PySem.W.Fast.km3Q_eq]
  with_reducible refine r_load (a := q) (by kernel_rfl) (N.get ho) ?_
  with_reducible refine r_load (a := 135) (by kernel_rfl) (k_get F X 135 (by kernel_rfl)) ?_
  with_reducible refine r_pure (a := ()) (by kernel_rfl) ?_
  refine (codeAny_builtin entry_tlen9 ?_)
  show wpAny _ _ (km4 q) _ _ _
  rw [PySem.W.Fast.km4Q_eq]
  with_reducible refine r_load (a := q) (by kernel_rfl) (N.get ho) ?_
  with_reducible refine r_fresh (by kernel_rfl) ?_
  with_reducible refine r_pure (a := .done (.ret (.int 3 s.toks))) (by kernel_rfl) ?_
  with_reducible show wpAny _ _ _ _ _ _
  with_reducible refine r_fresh (by kernel_rfl) ?_
  with_reducible refine r_pure (a := .done (.ret (.int 3 (s.toks + 1)))) (by kernel_rfl) ?_
  exact h _ _
theorem mem_ne' {h₀ h h' : Heap} {L : Addr} {new news : List (Addr × Obj)} (D : Mem h h' [] new) (N : News h₀ L h news) : ∀ q ∈ new, ∀ p ∈ news, p.1 ≠ q.1 := fun q hq p hp e => by
  have a := (D.nw _ hq).2
  have b := (N p hp).1
  rw [e, a] at b; cases b
theorem n_map {q nl : Addr} {its : Array Value} {n : Nat} {Q : Value → Shared → Prop} (F : Fr h₀ L s.heap m) (N : News h₀ L s.heap news) (X : (Mine.hd0.heap_1 w.params).In h₀) (B : Boot w h₀) (ho : (nl, PySem.W.listOf its n) ∈ news)
    (h : ∀ M T I h' tk, Fr h₀ L h' m → News h₀ L h' ((M, ⟨.type "map", none, .fields #[.ref T, .ref q], #[]⟩) :: (T, ⟨.type "tuple", none, .seq #[.ref I] 0, #[]⟩) :: (I, ⟨.type "list_iterator", none, .fields #[.ref nl, .int 0 0], #[]⟩) :: news) →
      (∀ p ∈ news, p.1 ≠ M ∧ p.1 ≠ T ∧ p.1 ≠ I) → Q (.ref M) { s with heap := h', toks := tk }) :
    wpAny (model PySem.Challenge.rw_mr0378_01.row.prog w) (Amx l gd) (call (.type "map") [.ref q, .ref nl]) Q E s :=
  x_map (kx_in (X.keeps F.keep) fun p hp => F.keep _ _ (B p hp)) (N.get ho) fun M T I h' tk D => h M T I h' tk (mem_led D F N).1 (mem_led D F N).2 fun p hp => ⟨mem_ne' D N _ (.head _) p hp, mem_ne' D N _ (.tail _ (.head _)) p hp, mem_ne' D N _ (.tail _ (.tail _ (.head _))) p hp⟩
end
end
section --Mk
set_option hygiene false in
local macro_rules | `(tactic| k_lt $h:ident) => `(tactic| ((try (have hT9 := $h; k_extra "w90843")); replace $h := allLt_of $h; simp only [AllLt, and_true] at $h:ident))
local macro_rules | `(tactic| k_all) => `(tactic| k_extra "w7203b")
local macro_rules | `(tactic| walk_at "getMethod type:tuple") => `(tactic| k_extra "w368d6")
theorem mk {w : World} {loose : List Str} {mean : ExcName → Option Value} {mg mb : Str → Option Value} :
  ∀ (gd : Option (List Code)) (cn : Str) (cs : Scope) (a : Addr) (ccd : Value) (cl : List (Str × Addr)) (outer : List Env) (A₀ : Around) (base h₀ : Heap) (L : Addr) (m : Str → Option Value) (news : List (Addr × Obj)) (s : Shared)
    (Q E : Value → Shared → Prop) (T : Addr) (r : I3) (t : Tok × Tok × Tok),
    Below A₀ base outer h₀ → Fr h₀ L s.heap m → (Mine.hd0.heap_1 w.params).In h₀ → Boot w h₀ → News h₀ L s.heap (news) → Top topProg loose mean mg mb h₀ → cs.kind = .function →
    (T, t3O r t) ∈ news → PySem.Challenge.rw_mr0378_01 = PySem.Challenge.rw_mr0378_01 →
    (∀ (q d : Addr) (h' : Heap) (tk : Nat) (new : List (Addr × Obj)), Fr h₀ L h' m → News h₀ L h' (new ++ news) → (q, matchO d r t) ∈ new → Q (.ref q) { s with heap := h', toks := tk }) →
    codeAny (model PySem.Challenge.rw_mr0378_01.row.prog w) (ktrTop 500 1000 gd cn cs L a ccd cl outer) (.call (.ref 89) ⟨[.ref 135, .ref T], []⟩) (wants Q E) s := by
  w_top off
  k_fill
  rintro gd cn cs a ccd cl outer A₀ base h₀ L m news s Q E T ⟨r1, r2, r3⟩ ⟨t1, t2, t3⟩ B F X BO N T8 hk hT _ hQ
  have N0 := N
  replace N := news_front N hT
  k_dflt (refine' code_def ?k1 ?k2 ?k3 ?k4 ?k5 ?kA ?kF ?kK ?k6 ?k7 ?k8 ?k9 ?kB ?_ ?c2 ?c3 ?c4 ?c5; (case kA => exact rfl); (case kF => exact rfl); (case kK => assumption); (case k1 => k_asm); (case k2 => k_asm); (case k3 => k_asm); (case k4 => k_asm); (case k5 => k_asm); (case k6 => k_is); (case k7 => k_is); (case k8 => ktr_room); (case k9 => first | exact BindsTo.of_eq rfl | exact binds_K (by k_in) rfl (by k_is) rfl rfl rfl); (case c5 => decide); (case kB => exact locs rfl); (case c2 => exact rfl); (case c3 => exact rfl); (case c4 => exact rfl); k_whole; intro g L1 h1 FG F1 N1 B1 X1 T1; (try dsimp only); (try k_fold))
  have BO1 : Boot w g := boot_keeps BO FG.keep
  k_extra "k0"
  refine wpAny_up (n_tnew (by assumption) (by assumption) X1 BO1 (by k_mem) ?_) (Nat.le_of_ble_eq_true rfl) (Nat.le_of_ble_eq_true rfl)
  intro q d h3 tk3 new F3 N3 hq
  have N4 := news_front N3 (List.mem_append_left _ hq)
  k_sweep
  k_extra "k0"
  refine wpAny_up (n_mlen (by assumption) (by assumption) X1 BO1 (by k_mem) ?_) (Nat.le_of_ble_eq_true rfl) (Nat.le_of_ble_eq_true rfl)
  intro t5 tk5
  k_extra "k0"
  (rename Fr h₀ L _ _ => kF)
  (rename News h₀ L _ _ => kN)
  refine hQ q d _ _ new kF (news_sub kN ?_) hq
  intro p hp
  rcases List.mem_append.mp hp with hp | hp
  · exact .tail _ (List.mem_append_left _ hp)
  · exact .tail _ (List.mem_append_right _ (.tail _ hp))
end
section --Gd
noncomputable def FlmC (w : World) : Prop :=
  ∀ (gd : Option (List Code)) (cn : Str) (cs : Scope) (a : Addr) (ccd : Value) (cl : List (Str × Addr)) (outer : List Env) (A₀ : Around) (base h₀ : Heap) (L : Addr) (m : Str → Option Value) (news : List (Addr × Obj)) (s : Shared)
    (loose : List Str) (mean : ExcName → Option Value) (mg mb : Str → Option Value) (Q E : Value → Shared → Prop) (x : Addr) (D : SmD) (mbv opv : Value) (ms ns : List Int) (alo ahi blo bhi : Nat) (k1 k2 k3 k4 : Tok),
    Below A₀ base outer h₀ → Fr h₀ L s.heap m → (Mine.hd0.heap_1 w.params).In h₀ → Boot w h₀ → News h₀ L s.heap news → Top topProg loose mean mg mb h₀ → cs.kind = .function →
    SmIn w news x D mbv opv ms ns → alo ≤ ahi → ahi ≤ ms.length → blo ≤ bhi → bhi ≤ ns.length →
    (∀ (q d : Addr) (h' : Heap) (tk : Nat) (new : List (Addr × Obj)) (t : Tok × Tok × Tok), Fr h₀ L h' m → News h₀ L h' (new ++ news) → (q, matchO d (flmP ms ns alo ahi blo bhi) t) ∈ new → Q (.ref q) { s with heap := h', toks := tk }) →
    wpAny (model PySem.Challenge.rw_mr0378_01.row.prog w) (ktrTop 400 400 gd cn cs L a ccd cl outer) (call (.ref 196) [.ref x, .int (alo : Int) k1, .int (ahi : Int) k2, .int (blo : Int) k3, .int (bhi : Int) k4]) Q E s
noncomputable abbrev Q4 := Nat × Nat × Nat × Nat
noncomputable abbrev q4O (p : Q4) (t : Tok × Tok × Tok × Tok) : Obj := ⟨.type "tuple", none, .seq #[.int (p.1 : Int) t.1, .int (p.2.1 : Int) t.2.1, .int (p.2.2.1 : Int) t.2.2.1, .int (p.2.2.2 : Int) t.2.2.2] 0, #[]⟩
noncomputable def QAre (rest : List (Addr × Obj)) : List Q4 → List Value → Prop
  | [], vs => vs = []
  | p :: st, vs => ∃ vs' T t, vs = vs' ++ [.ref T] ∧ (T, q4O p t) ∈ rest ∧ QAre rest st vs'
theorem QAre.sub {rest rest' : List (Addr × Obj)} (hs : ∀ p ∈ rest, p ∈ rest') {st : List Q4} {vs : List Value} (h : QAre rest st vs) : QAre rest' st vs := by
  induction st generalizing vs with
  | nil => exact h
  | cons p st ih =>
    obtain ⟨vs', T, t, a, b, c⟩ := h
    exact ⟨vs', T, t, a, hs _ b, ih c⟩
noncomputable def qL (p : Q4) (r : Int × Int × Int) : List Q4 := if (p.1 : Int) < r.1 ∧ (p.2.2.1 : Int) < r.2.1 then [(p.1, r.1.toNat, p.2.2.1, r.2.1.toNat)] else []
noncomputable def qR (p : Q4) (r : Int × Int × Int) : List Q4 := if r.1 + r.2.2 < (p.2.1 : Int) ∧ r.2.1 + r.2.2 < (p.2.2.2 : Int) then [((r.1 + r.2.2).toNat, p.2.1, (r.2.1 + r.2.2).toNat, p.2.2.2)] else []
noncomputable def gq (ms ns : List Int) : Nat → List Q4 → List (Int × Int × Int) → List (Int × Int × Int)
  | 0, _, acc => acc
  | _ + 1, [], acc => acc
  | n + 1, p :: st, acc =>
    if (flmP ms ns p.1 p.2.1 p.2.2.1 p.2.2.2).2.2 = 0 then gq ms ns n st acc
    else gq ms ns n (qR p (flmP ms ns p.1 p.2.1 p.2.2.1 p.2.2.2) ++ (qL p (flmP ms ns p.1 p.2.1 p.2.2.1 p.2.2.2) ++ st)) (acc ++ [flmP ms ns p.1 p.2.1 p.2.2.1 p.2.2.2])
noncomputable def qMu : List Q4 → Nat
  | [] => 0
  | p :: st => (2 * (p.2.1 - p.1) + 1) + qMu st
noncomputable def FlmB (p : Q4) (r : Int × Int × Int) : Prop := (p.1 : Int) ≤ r.1 ∧ (p.2.2.1 : Int) ≤ r.2.1 ∧ 0 ≤ r.2.2 ∧ r.1 + r.2.2 ≤ (p.2.1 : Int) ∧ r.2.1 + r.2.2 ≤ (p.2.2.2 : Int)

theorem backP_bd {ms ns : List Int} {alo ahi blo bhi : Int} (n : Nat) (bi bj bs : Int) (h : alo ≤ bi ∧ blo ≤ bj ∧ 0 ≤ bs ∧ bi + bs ≤ ahi ∧ bj + bs ≤ bhi) :
    alo ≤ (backP ms ns alo blo n (bi, bj, bs)).1 ∧ blo ≤ (backP ms ns alo blo n (bi, bj, bs)).2.1 ∧ 0 ≤ (backP ms ns alo blo n (bi, bj, bs)).2.2 ∧ (backP ms ns alo blo n (bi, bj, bs)).1 + (backP ms ns alo blo n (bi, bj, bs)).2.2 ≤ ahi ∧ (backP ms ns alo blo n (bi, bj, bs)).2.1 + (backP ms ns alo blo n (bi, bj, bs)).2.2 ≤ bhi := by
  have e : ∀ a b : Int, a + b = a - 1 + (b + 1) := fun a b => by omega
  induction n generalizing bi bj bs with
  | zero => exact h
  | succ n ih =>
    rw [backP]
    split
    · rename_i c
      exact ih _ _ _ ⟨Int.le_sub_one_of_lt c.1, Int.le_sub_one_of_lt c.2.1, Int.le_add_one h.2.2.1, e bi bs ▸ h.2.2.2.1, e bj bs ▸ h.2.2.2.2⟩
    · exact h
theorem fwdP_bd {ms ns : List Int} {alo ahi blo bhi : Int} (n : Nat) (bi bj bs : Int) (h : alo ≤ bi ∧ blo ≤ bj ∧ 0 ≤ bs ∧ bi + bs ≤ ahi ∧ bj + bs ≤ bhi) :
    alo ≤ (fwdP ms ns ahi bhi n (bi, bj, bs)).1 ∧ blo ≤ (fwdP ms ns ahi bhi n (bi, bj, bs)).2.1 ∧ 0 ≤ (fwdP ms ns ahi bhi n (bi, bj, bs)).2.2 ∧ (fwdP ms ns ahi bhi n (bi, bj, bs)).1 + (fwdP ms ns ahi bhi n (bi, bj, bs)).2.2 ≤ ahi ∧ (fwdP ms ns ahi bhi n (bi, bj, bs)).2.1 + (fwdP ms ns ahi bhi n (bi, bj, bs)).2.2 ≤ bhi := by
  induction n generalizing bi bj bs with
  | zero => exact h
  | succ n ih =>
    rw [fwdP]
    split
    · rename_i c
      exact ih _ _ _ ⟨h.1, h.2.1, Int.le_add_one h.2.2.1, Int.add_assoc bi bs 1 ▸ c.1, Int.add_assoc bj bs 1 ▸ c.2.1⟩
    · exact h
theorem flm_bd {ms ns : List Int} {p : Q4} (ha : p.1 ≤ p.2.1) (hb : p.2.2.1 ≤ p.2.2.2) : FlmB p (flmP ms ns p.1 p.2.1 p.2.2.1 p.2.2.2) := by
  unfold flmP
  generalize hst : ffold ms ns (p.1 : Int) (p.2.2.1 : Int) (p.2.2.2 : Int) (p.2.1 - p.1) = st
  obtain ⟨bi, bj, bs, pv⟩ := st
  have h1 := (ffold_bd (ahi := (p.2.1 : Int)) (by omega) (p.2.1 - p.1) bi bj bs pv (by omega) hst.symm).1
  dsimp only
  have h2 := backP_bd (ms := ms) (ns := ns) ms.length bi bj bs h1
  generalize backP ms ns (p.1 : Int) (p.2.2.1 : Int) ms.length (bi, bj, bs) = b at h2 ⊢
  obtain ⟨c1, c2, c3⟩ := b
  exact fwdP_bd ms.length c1 c2 c3 h2
noncomputable def QOk (ms ns : List Int) (st : List Q4) : Prop := ∀ p ∈ st, p.1 ≤ p.2.1 ∧ p.2.1 ≤ ms.length ∧ p.2.2.1 ≤ p.2.2.2 ∧ p.2.2.2 ≤ ns.length
theorem FlmB.nat {p : Q4} {r : Int × Int × Int} (h : FlmB p r) : ∃ i j k : Nat, r = ((i : Int), (j : Int), (k : Int)) ∧ p.1 ≤ i ∧ p.2.2.1 ≤ j ∧ i + k ≤ p.2.1 ∧ j + k ≤ p.2.2.2 := by
  obtain ⟨i, hi⟩ := Int.eq_ofNat_of_zero_le (Int.le_trans (Int.natCast_nonneg _) h.1)
  obtain ⟨j, hj⟩ := Int.eq_ofNat_of_zero_le (Int.le_trans (Int.natCast_nonneg _) h.2.1)
  obtain ⟨k, hk⟩ := Int.eq_ofNat_of_zero_le h.2.2.1
  have e : r = ((i : Int), (j : Int), (k : Int)) := by rw [← hi, ← hj, ← hk]
  subst e
  exact ⟨i, j, k, rfl, Int.ofNat_le.mp h.1, Int.ofNat_le.mp h.2.1, Int.ofNat_le.mp h.2.2.2.1, Int.ofNat_le.mp h.2.2.2.2⟩
theorem qMu_app (a b : List Q4) : qMu (a ++ b) = qMu a + qMu b := by
  induction a with
  | nil => exact (Nat.zero_add _).symm
  | cons p a ih => simp only [List.cons_append, qMu, ih, Nat.add_assoc]
theorem mu_lt {a b i k p q m : Nat} (h1 : a ≤ 2 * (q - (i + k)) + 1) (h2 : b ≤ 2 * (i - p) + 1) (h3 : p ≤ i) (h4 : i + k ≤ q) (hk : k ≠ 0) : a + (b + m) < 2 * (q - p) + 1 + m := by omega
theorem QOk.next {ms ns : List Int} {p : Q4} {st : List Q4} {r : Int × Int × Int} (h : QOk ms ns (p :: st)) (hr : FlmB p r) (hk : r.2.2 ≠ 0) : QOk ms ns (qR p r ++ (qL p r ++ st)) ∧ qMu (qR p r ++ (qL p r ++ st)) < qMu (p :: st) := by
  obtain ⟨i, j, k, e, b1, b2, b3, b4⟩ := hr.nat
  subst e
  have hp := h p (.head _)
  constructor
  · intro q hq
    rcases List.mem_append.mp hq with hq | hq
    · unfold qR at hq
      split at hq
      · cases List.mem_singleton.mp hq; exact ⟨b3, hp.2.1, b4, hp.2.2.2⟩
      · cases hq
    · rcases List.mem_append.mp hq with hq | hq
      · unfold qL at hq
        split at hq
        · cases List.mem_singleton.mp hq; exact ⟨b1, Nat.le_trans (Nat.le_trans (Nat.le_add_right i k) b3) hp.2.1, b2, Nat.le_trans (Nat.le_trans (Nat.le_add_right j k) b4) hp.2.2.2⟩
        · cases hq
      · exact h q (.tail _ hq)
  · rw [qMu_app, qMu_app]
    refine mu_lt (i := i) (k := k) ?_ ?_ b1 b3 fun e => hk (by rw [e]; rfl)
    · unfold qR; split
      · exact Nat.le_refl _
      · exact Nat.zero_le _
    · unfold qL; split
      · exact Nat.le_refl _
      · exact Nat.zero_le _
theorem QOk.tail {ms ns : List Int} {p : Q4} {st : List Q4} (h : QOk ms ns (p :: st)) : QOk ms ns st ∧ qMu st < qMu (p :: st) := ⟨fun q hq => h q (.tail _ hq), Nat.lt_of_lt_of_le (Nat.lt_succ_self _) (Nat.le_trans (Nat.le_of_eq (Nat.add_comm (qMu st) 1)) (Nat.add_le_add_right (Nat.le_add_left 1 _) (qMu st)))⟩
structure GS where
  st : List Q4
  vs : List Value
  nq : Nat
  acc : List (Int × Int × Int)
  bs : List Value
  nb : Nat
  rest : List (Addr × Obj)
theorem GS.all9 {P : GS → Prop} (h : ∀ x0 x1 x2 x3 x4 x5 x6, P ⟨x0, x1, x2, x3, x4, x5, x6⟩) : ∀ c, P c := fun ⟨x0, x1, x2, x3, x4, x5, x6⟩ => h x0 x1 x2 x3 x4 x5 x6
theorem neGS : Nonempty GS := ⟨by constructor <;> exact Classical.choice inferInstance⟩
noncomputable def GsC (ms ns : List Int) (base : List (Addr × Obj)) (mb qu d : Addr) (c : GS) : Prop :=
  Blocks c.rest c.bs c.acc ∧ (∀ p ∈ base, p ∈ c.rest) ∧ (∀ p ∈ c.rest, p.1 ≠ mb ∧ p.1 ≠ qu ∧ p.1 ≠ d) ∧ c.acc.length + qMu c.st ≤ 20
noncomputable def GsI (ms ns : List Int) (base : List (Addr × Obj)) (mb qu d : Addr) (c : GS) : Prop :=
  (∃ n, qMu c.st ≤ n ∧ gq ms ns n c.st c.acc = gq ms ns (2 * ms.length + 1) [(0, ms.length, 0, ns.length)] []) ∧ QOk ms ns c.st ∧ QAre c.rest c.st c.vs ∧ GsC ms ns base mb qu d c
noncomputable def GsR (ms ns : List Int) (base : List (Addr × Obj)) (mb qu d : Addr) (c : GS) : Prop :=
  c.acc = gq ms ns (2 * ms.length + 1) [(0, ms.length, 0, ns.length)] [] ∧ GsC ms ns base mb qu d c
theorem gq_nil {ms ns : List Int} {n : Nat} {acc : List (Int × Int × Int)} : gq ms ns n [] acc = acc := by cases n <;> rfl
theorem GsI.done {ms ns : List Int} {base : List (Addr × Obj)} {mb qu d : Addr} {c : GS} (h : GsI ms ns base mb qu d c) (e : c.st = []) : GsR ms ns base mb qu d c := by
  obtain ⟨⟨n, _, h1⟩, _, _, h4⟩ := h
  rw [e, gq_nil] at h1
  exact ⟨h1, h4⟩
theorem ints_len {xs : List Value} {ms : List Int} (h : IntsAre xs ms) : xs.toArray.size = ms.length := by simp [h.length]
theorem QAre.len {rest : List (Addr × Obj)} {st : List Q4} {vs : List Value} (h : QAre rest st vs) : vs.length = st.length := by
  induction st generalizing vs with
  | nil => cases h; rfl
  | cons p st ih =>
    obtain ⟨vs', T, t, a, b, c⟩ := h
    rw [a, List.length_append, ih c]; rfl
theorem qMu_len (st : List Q4) : st.length ≤ qMu st := by
  induction st with
  | nil => exact Nat.le_refl _
  | cons p st ih => exact Nat.le_trans (Nat.add_le_add ih (Nat.le_add_left 1 _)) (Nat.le_of_eq (Nat.add_comm _ _))
section
variable {prog : Program} {w : World} {A : Around} {E : Value → Shared → Prop} {s : Shared} {h₀ : Heap} {L : Addr} {m : Str → Option Value} {news : List (Addr × Obj)}
theorem n_truthy1 {l : Addr} {vs : List Value} {y : Value} {n : Nat} {Q : Bool → Shared → Prop} (N : News h₀ L s.heap news) (hm : (l, PySem.W.listOf (vs ++ [y]).toArray n) ∈ news) (hz : vs.length ≤ 100) (h : ∀ tk, Q true { s with toks := tk }) :
    wpAny (model prog w) A (truthy (.ref l)) Q (E) s := by
  refine wpAny_truthy_list (News.isList N hm) (by simp; omega) ?_
  have e : (!(vs ++ [y]).toArray.isEmpty) = true := by cases vs <;> rfl
  rw [e]; exact h _
end
theorem Blocks.sub {news news' : List (Addr × Obj)} {vs : List Value} {rs : List (Int × Int × Int)} (h : Blocks news vs rs) (hs : ∀ p ∈ news, p ∈ news') : Blocks news' vs rs :=
  ⟨h.1, fun i v e => by obtain ⟨q, d, t, r, a, b, c⟩ := h.2 i v e; exact ⟨q, d, t, r, a, b, hs _ c⟩⟩
theorem Blocks.snoc {news : List (Addr × Obj)} {vs : List Value} {rs : List (Int × Int × Int)} {q d : Addr} {r : Int × Int × Int} {t : Tok × Tok × Tok} (h : Blocks news vs rs) (hm : (q, matchO d r t) ∈ news) : Blocks news (vs ++ [.ref q]) (rs ++ [r]) :=
  gsnoc (R := fun (v : Value) (x : Option (Int × Int × Int)) => ∃ q d t r, v = Value.ref q ∧ x = some r ∧ (q, matchO d r t) ∈ news) h.1 h.2 ⟨q, d, t, r, rfl, rfl, hm⟩
theorem QAre.snoc {rest : List (Addr × Obj)} {st : List Q4} {vs : List Value} {T : Addr} {a b : Nat} {i j : Int} {t0 t1 t2 t3 : Tok} (h : QAre rest st vs) (hi : 0 ≤ i) (hj : 0 ≤ j)
    (hm : (T, (⟨.type "tuple", none, .seq #[.int (a : Int) t0, .int i t1, .int (b : Int) t2, .int j t3] 0, #[]⟩ : Obj)) ∈ rest) : QAre rest ((a, i.toNat, b, j.toNat) :: st) (vs ++ [.ref T]) := by
  refine ⟨vs, T, (t0, t1, t2, t3), rfl, ?_, h⟩
  unfold q4O
  dsimp only
  rw [Int.toNat_of_nonneg hi, Int.toNat_of_nonneg hj]
  exact hm
theorem QAre.snoc' {rest : List (Addr × Obj)} {st : List Q4} {vs : List Value} {T : Addr} {a b : Nat} {i j : Int} {t0 t1 t2 t3 : Tok} (h : QAre rest st vs) (hi : 0 ≤ i) (hj : 0 ≤ j)
    (hm : (T, (⟨.type "tuple", none, .seq #[.int i t0, .int (a : Int) t1, .int j t2, .int (b : Int) t3] 0, #[]⟩ : Obj)) ∈ rest) : QAre rest ((i.toNat, a, j.toNat, b) :: st) (vs ++ [.ref T]) := by
  refine ⟨vs, T, (t0, t1, t2, t3), rfl, ?_, h⟩
  unfold q4O
  dsimp only
  rw [Int.toNat_of_nonneg hi, Int.toNat_of_nonneg hj]
  exact hm
section
variable {p : Q4} {r : Int × Int × Int}
theorem qL_1 (h1 : (p.1 : Int) < r.1) (h2 : (p.2.2.1 : Int) < r.2.1) : qL p r = [(p.1, r.1.toNat, p.2.2.1, r.2.1.toNat)] := if_pos ⟨h1, h2⟩
theorem qL_a (h1 : ¬ (p.1 : Int) < r.1) : qL p r = [] := if_neg fun h => h1 h.1
theorem qL_b (h1 : ¬ (p.2.2.1 : Int) < r.2.1) : qL p r = [] := if_neg fun h => h1 h.2
theorem qR_1 (h1 : r.1 + r.2.2 < (p.2.1 : Int)) (h2 : r.2.1 + r.2.2 < (p.2.2.2 : Int)) : qR p r = [((r.1 + r.2.2).toNat, p.2.1, (r.2.1 + r.2.2).toNat, p.2.2.2)] := if_pos ⟨h1, h2⟩
theorem qR_a (h1 : ¬ r.1 + r.2.2 < (p.2.1 : Int)) : qR p r = [] := if_neg fun h => h1 h.1
theorem qR_b (h1 : ¬ r.2.1 + r.2.2 < (p.2.2.2 : Int)) : qR p r = [] := if_neg fun h => h1 h.2
end
theorem le20 {acc : List (Int × Int × Int)} {r : Int × Int × Int} {m k : Nat} (h : acc.length + k ≤ 20) (hm : m < k) : (acc ++ [r]).length + m ≤ 20 := by
  rw [List.length_append, List.length_singleton, Nat.add_assoc, Nat.add_comm 1 m]
  exact Nat.le_trans (Nat.add_le_add_left hm _) h
theorem gmb_end {ms ns : List Int} {base : List (Addr × Obj)} {mbl que d x la lb : Addr} {od : Obj} {ea eb : Nat} {xs ys : List Value} {g : Heap} {L1 : Addr} {s1 : Shared} {stored : List Str} {m₀ m' : Str → Option Value} {Q : Flow → Shared → Prop}
    {p : Q4} {st : List Q4} {vs0 vsQ bs : List Value} {acc : List (Int × Int × Int)} {nq nb n1 n2 n : Nat} {rest news' : List (Addr × Obj)} {r : Int × Int × Int} {q8 d8 : Addr} {t8 : Tok × Tok × Tok} {h' : Heap} {tk : Nat}
    (F : Fr g L1 h' m') (N : News g L1 h' news') (hmb : (mbl, PySem.W.listOf (bs ++ [Value.ref q8]).toArray n1) ∈ news') (hqu : (que, PySem.W.listOf vsQ.toArray n2) ∈ news') (hx : (x, instObj 242 d) ∈ news') (hd : (d, od) ∈ news')
    (hla : (la, PySem.W.listOf xs.toArray ea) ∈ news') (hlb : (lb, PySem.W.listOf ys.toArray eb) ∈ news') (hq8 : (q8, matchO d8 r t8) ∈ news') (hqm : q8 ≠ mbl) (hqq : q8 ≠ que) (hqd : q8 ≠ d) (hrest : ∀ p ∈ rest, p ∈ news')
    (hn : qMu (p :: st) ≤ n) (hg : gq ms ns n (p :: st) acc = gq ms ns (2 * ms.length + 1) [(0, ms.length, 0, ns.length)] []) (hok : QOk ms ns (p :: st)) (hC : GsC ms ns base mbl que d ⟨p :: st, vs0, nq, acc, bs, nb, rest⟩)
    (hr8 : flmP ms ns p.1 p.2.1 p.2.2.1 p.2.2.2 = r) (hk0 : r.2.2 ≠ 0) (hbd : FlmB p r) (hQ2 : QAre (but d (but que (but mbl news'))) (qR p r ++ (qL p r ++ st)) vsQ)
    (hk1 : m' (Str.ofString "queue") = some (.ref que)) (hk2 : m' (Str.ofString "matching_blocks") = some (.ref mbl))
    (hr : ∀ z, (∀ p ∈ [(Str.ofString "queue", Value.ref que), (Str.ofString "matching_blocks", .ref mbl)], z ≠ p.1) → stored.contains z = false → m' z = m₀ z) :
    KswPost g L1 s1 (fun c : GS => (mbl, PySem.W.listOf c.bs.toArray c.nb) :: (que, PySem.W.listOf c.vs.toArray c.nq) :: (x, instObj 242 d) :: (d, od) :: (la, PySem.W.listOf xs.toArray ea) :: (lb, PySem.W.listOf ys.toArray eb) :: c.rest)
      (fun _ => [(Str.ofString "queue", .ref que), (Str.ofString "matching_blocks", .ref mbl)]) (fun _ => True) stored m₀ (GsI ms ns base mbl que d) (fun c => qMu c.st) Q ⟨p :: st, vs0, nq, acc, bs, nb, rest⟩ .next { s1 with heap := h', toks := tk } := by
  obtain ⟨hok2, hmu⟩ := hok.next hbd hk0
  obtain ⟨hB, hbase, hap, hlen⟩ := hC
  dsimp only at hB hbase hap hlen
  have hlen2 : acc.length + qMu (p :: st) ≤ 20 := hlen
  have hin : ∀ q ∈ rest, q ∈ but d (but que (but mbl news')) := fun q hq => but_mem (but_mem (but_mem (hrest q hq) (hap q hq).1) (hap q hq).2.1) (hap q hq).2.2
  refine w_turn (c := (⟨p :: st, vs0, nq, acc, bs, nb, rest⟩ : GS)) (μ := fun c : GS => qMu c.st) ⟨qR p r ++ (qL p r ++ st), vsQ, n2, acc ++ [r], bs ++ [Value.ref q8], n1, but d (but que (but mbl news'))⟩ F N ?hs ?hk hr ⟨?e1, hok2, hQ2, ?e2, ?e3, ?e4, ?e5⟩ hmu
  case hs => exact sub_cons hmb (sub_cons hqu (sub_cons hx (sub_cons hd (sub_cons hla (sub_cons hlb fun q hq => but_sub q (but_sub q (but_sub q hq)))))))
  case hk => exact List.forall_mem_cons.mpr ⟨hk1, List.forall_mem_cons.mpr ⟨hk2, List.forall_mem_nil _⟩⟩
  case e1 =>
    obtain ⟨n, rfl⟩ : ∃ k, n = k + 1 := ⟨n - 1, (Nat.succ_pred_eq_of_pos (Nat.lt_of_lt_of_le (Nat.lt_of_le_of_lt (Nat.zero_le _) hmu) hn)).symm⟩
    · refine ⟨n, Nat.le_of_lt_succ (Nat.lt_of_lt_of_le hmu hn), ?_⟩
      rw [← hg]
      dsimp only
      rw [gq, hr8, if_neg hk0]
  case e2 => exact (hB.sub hin).snoc (but_mem (but_mem (but_mem hq8 hqm) hqq) hqd)
  case e3 => exact fun q hq => hin q (hbase q hq)
  case e4 => exact fun q hq => ⟨but_ne q (but_sub q (but_sub q hq)), but_ne q (but_sub q hq), but_ne q hq⟩
  case e5 =>
    exact le20 hlen2 hmu
theorem gmb_end0 {ms ns : List Int} {base : List (Addr × Obj)} {mbl que d x la lb : Addr} {od : Obj} {ea eb : Nat} {xs ys : List Value} {g : Heap} {L1 : Addr} {s1 : Shared} {stored : List Str} {m₀ m' : Str → Option Value} {Q : Flow → Shared → Prop}
    {p : Q4} {st : List Q4} {vs0 vsQ bs : List Value} {acc : List (Int × Int × Int)} {nq nb n2 n : Nat} {rest news' : List (Addr × Obj)} {r : Int × Int × Int} {h' : Heap} {tk : Nat}
    (F : Fr g L1 h' m') (N : News g L1 h' news') (hmb : (mbl, PySem.W.listOf bs.toArray nb) ∈ news') (hqu : (que, PySem.W.listOf vsQ.toArray n2) ∈ news') (hx : (x, instObj 242 d) ∈ news') (hd : (d, od) ∈ news')
    (hla : (la, PySem.W.listOf xs.toArray ea) ∈ news') (hlb : (lb, PySem.W.listOf ys.toArray eb) ∈ news') (hrest : ∀ p ∈ rest, p ∈ news')
    (hn : qMu (p :: st) ≤ n) (hg : gq ms ns n (p :: st) acc = gq ms ns (2 * ms.length + 1) [(0, ms.length, 0, ns.length)] []) (hok : QOk ms ns (p :: st)) (hC : GsC ms ns base mbl que d ⟨p :: st, vs0, nq, acc, bs, nb, rest⟩)
    (hr8 : flmP ms ns p.1 p.2.1 p.2.2.1 p.2.2.2 = r) (hk0 : r.2.2 = 0) (hQ2 : QAre rest st vsQ)
    (hk1 : m' (Str.ofString "queue") = some (.ref que)) (hk2 : m' (Str.ofString "matching_blocks") = some (.ref mbl))
    (hr : ∀ z, (∀ p ∈ [(Str.ofString "queue", Value.ref que), (Str.ofString "matching_blocks", .ref mbl)], z ≠ p.1) → stored.contains z = false → m' z = m₀ z) :
    KswPost g L1 s1 (fun c : GS => (mbl, PySem.W.listOf c.bs.toArray c.nb) :: (que, PySem.W.listOf c.vs.toArray c.nq) :: (x, instObj 242 d) :: (d, od) :: (la, PySem.W.listOf xs.toArray ea) :: (lb, PySem.W.listOf ys.toArray eb) :: c.rest)
      (fun _ => [(Str.ofString "queue", .ref que), (Str.ofString "matching_blocks", .ref mbl)]) (fun _ => True) stored m₀ (GsI ms ns base mbl que d) (fun c => qMu c.st) Q ⟨p :: st, vs0, nq, acc, bs, nb, rest⟩ .next { s1 with heap := h', toks := tk } := by
  obtain ⟨hok2, hmu⟩ := hok.tail
  obtain ⟨hB, hbase, hap, hlen⟩ := hC
  have hlen2 : acc.length + qMu (p :: st) ≤ 20 := hlen
  refine w_turn (c := (⟨p :: st, vs0, nq, acc, bs, nb, rest⟩ : GS)) (μ := fun c : GS => qMu c.st) ⟨st, vsQ, n2, acc, bs, nb, rest⟩ F N ?hs ?hk hr ⟨?e1, hok2, hQ2, hB, hbase, hap, ?e5⟩ hmu
  case hs => exact sub_cons hmb (sub_cons hqu (sub_cons hx (sub_cons hd (sub_cons hla (sub_cons hlb hrest)))))
  case hk => exact List.forall_mem_cons.mpr ⟨hk1, List.forall_mem_cons.mpr ⟨hk2, List.forall_mem_nil _⟩⟩
  case e1 =>
    obtain ⟨n, rfl⟩ : ∃ k, n = k + 1 := ⟨n - 1, (Nat.succ_pred_eq_of_pos (Nat.lt_of_lt_of_le (Nat.lt_of_le_of_lt (Nat.zero_le _) hmu) hn)).symm⟩
    · refine ⟨n, Nat.le_of_lt_succ (Nat.lt_of_lt_of_le hmu hn), ?_⟩
      rw [← hg]
      dsimp only
      rw [gq, hr8, if_pos hk0]
  case e5 => exact Nat.le_trans (Nat.add_le_add_left (Nat.le_of_lt hmu) _) hlen2
noncomputable def qA : List Q4 → Nat
  | [] => 0
  | p :: st => (p.2.1 - p.1) + qA st
theorem qA_app (a b : List Q4) : qA (a ++ b) = qA a + qA b := by
  induction a with
  | nil => exact (Nat.zero_add _).symm
  | cons p a ih => simp only [List.cons_append, qA, ih, Nat.add_assoc]
theorem qA_le {c a b i k p q m : Nat} (h1 : a ≤ q - (i + k)) (h2 : b ≤ i - p) (h3 : p ≤ i) (h4 : i + k ≤ q) (hk : k ≠ 0) : c + 1 + (a + (b + m)) ≤ c + (q - p + m) := by omega
theorem gq_len {ms ns : List Int} (n : Nat) (st : List Q4) (acc : List (Int × Int × Int)) (h : QOk ms ns st) : (gq ms ns n st acc).length ≤ acc.length + qA st := by
  induction n generalizing st acc with
  | zero => exact Nat.le_add_right _ _
  | succ n ih =>
    cases st with
    | nil => exact Nat.le_refl _
    | cons p st =>
      rw [gq]
      have hp := h p (.head _)
      have hb := flm_bd (ms := ms) (ns := ns) (p := p) hp.1 hp.2.2.1
      split
      · exact Nat.le_trans (ih st acc h.tail.1) (Nat.add_le_add_left (Nat.le_add_left _ _) _)
      · rename_i hk
        refine Nat.le_trans (ih _ _ (h.next hb hk).1) ?_
        rw [qA_app, qA_app, List.length_append, List.length_singleton]
        generalize flmP ms ns p.1 p.2.1 p.2.2.1 p.2.2.2 = r at hb hk ⊢
        obtain ⟨i, j, k, e, b1, b2, b3, b4⟩ := hb.nat
        subst e
        refine qA_le (i := i) (k := k) ?_ ?_ b1 b3 fun e => hk (by rw [e]; rfl)
        · unfold qR; split
          · exact Nat.le_refl _
          · exact Nat.zero_le _
        · unfold qL; split
          · exact Nat.le_refl _
          · exact Nat.zero_le _
theorem gq_len4 {ms ns : List Int} (h : ms.length ≤ 4) : (gq ms ns (2 * ms.length + 1) [(0, ms.length, 0, ns.length)] []).length ≤ 4 := by
  refine Nat.le_trans (gq_len _ _ _ ?_) ?_
  · intro p hp; cases List.mem_singleton.mp hp; exact ⟨Nat.zero_le _, Nat.le_refl _, Nat.zero_le _, Nat.le_refl _⟩
  · simp only [qA, List.length_nil]; omega
end
section --Mp
theorem slot_map_next : Slot "map" "__next__" "map.__next__" := .of (owner := "map") (n := "__next__") (by rw [typeLookup_type, builtinLookup_eq_fast]; kernel_rfl) (by decide +kernel) (by decide +kernel) (by decide +kernel) (by first | exact .inl (by decide +kernel) | exact .inr (by decide +kernel)) (by rw [isSubtype_type]; kernel_rfl)
theorem slot_map_iter : Slot "map" "__iter__" "map.__iter__" := .of (owner := "map") (n := "__iter__") (by rw [typeLookup_type, builtinLookup_eq_fast]; kernel_rfl) (by decide +kernel) (by decide +kernel) (by decide +kernel) (by first | exact .inl (by decide +kernel) | exact .inr (by decide +kernel)) (by rw [isSubtype_type]; kernel_rfl)
theorem entry_map_next : entryFor table "map.__next__" = some Builtin.«map.__next__» := entryFor_of_fast (by kernel_rfl)
theorem entry_map_iter : entryFor table "map.__iter__" = some Builtin.«dict_keyiterator.__iter__» := entryFor_alias (id' := "dict_keyiterator.__iter__") (by kernel_rfl) rfl (by decide +kernel) (by kernel_rfl)
theorem args_map_next (a : Value) : argsOk "map.__next__" ⟨[a], []⟩ := by unfold argsOk; kernel_rfl
theorem args_map_iter (a : Value) : argsOk "map.__iter__" ⟨[a], []⟩ := by unfold argsOk; kernel_rfl
theorem nolen_map : typeLookup (.type "map") "__len__" = pure none := by rw [typeLookup_type, builtinLookup_eq_fast]; kernel_rfl
theorem nohint_map : typeLookup (.type "map") "__length_hint__" = pure none := by rw [typeLookup_type, builtinLookup_eq_fast]; kernel_rfl
noncomputable abbrev mapO (T q : Addr) : Obj := ⟨.type "map", none, .fields #[.ref T, .ref q], #[]⟩
noncomputable abbrev oneO (I : Addr) : Obj := ⟨.type "tuple", none, .seq #[.ref I] 0, #[]⟩
noncomputable abbrev liO (l : Addr) (i : Nat) : Obj := ⟨.type "list_iterator", none, .fields #[.ref l, .int (i : Int) 0], #[]⟩
section
variable {prog : Program} {w : World} {A : Around} {E : Value → Shared → Prop} {s : Shared} {h₀ : Heap} {L : Addr} {m : Str → Option Value} {news : List (Addr × Obj)}
theorem n_mapIter {M T q : Addr} {Q : Value → Shared → Prop} (ho : s.heap.get? M = some (mapO T q)) (h : Q (.ref M) s) : wpAny (model prog w) A (pyIter (.ref M)) Q E s := by
  have hT : s.TypeIs (.ref M) "map" := ⟨_, ho, rfl⟩
  refine wpAny_pyIter_slot hT slot_map_iter (wpAny_call_entry slot_map_iter hT entry_map_iter ?_ (args_map_iter _))
  show wpAny _ _ (ret (.ref M)) _ _ s
  exact wpAny_pure ⟨_, rfl, "map", _, hT, slot_map_next.lookup, h⟩
theorem li_next {I l : Addr} {i : Nat} {items : Array Value} {n : Nat} {v : Value} {rest : List (Addr × Obj)} {Q : Value → Shared → Prop} (F : Fr h₀ L s.heap m) (N : News h₀ L s.heap ((I, liO l i) :: rest)) (hr : ∀ p ∈ rest, p.1 ≠ I) (hl : (l, PySem.W.listOf items n) ∈ rest) (hx : items[i]? = some v)
    (h : ∀ h', Fr h₀ L h' m → News h₀ L h' ((I, liO l (i + 1)) :: rest) → Q v { s with heap := h' }) : wpAny (model prog w) A (Builtin.SmallTypes.nextOf (.ref I)) Q E s := by
  have ho := N.get (.head _)
  have hol := N.get (.tail _ hl)
  unfold Builtin.SmallTypes.nextOf
  have hT : s.TypeIs (.ref I) "list_iterator" := ⟨_, ho, rfl⟩
  refine wpAny_bind (wpAny_callSpecial?_slot (name := Str.ofString "__next__") hT slot_listiter_next
    (wpAny_call_entry slot_listiter_next hT entry_listiter_next ?_ (args_listiter_next _)))
  show wpAny _ _ (field (.ref I) 0 >>= _) _ _ s
  refine wpAny_bind (wpAny_field ho rfl (x := .ref l) rfl ?_)
  show wpAny _ _ (if (Value.ref l == Value.none) = true then _ else _) _ _ s
  rw [if_neg (show ¬ ((Value.ref l == Value.none) = true) from Bool.false_ne_true)]
  show wpAny _ _ (field (.ref I) 1 >>= _) _ _ s
  refine wpAny_bind (wpAny_field ho rfl (x := .int i 0) rfl ?_)
  show wpAny _ _ (seqItems? (.ref l) >>= _) _ _ s
  refine wpAny_bind (wpAny_seqItems hol rfl ?_)
  simp only [Int.toNat_natCast, hx]
  obtain ⟨F', N'⟩ := news_upd (h' := s.heap.update I (Obj.mapFields (·.setIfInBounds 1 (rawInt (i + 1))))) (o' := liO l (i + 1)) F N (.head hr) (Heap.SameBut.update ..) (Heap.get?_update_self _ ho rfl)
  exact wpAny_bind (wpAny_setField ho rfl (by simp) (wpAny_pure ⟨v, rfl, wpAny_pure (h _ F' N')⟩))
theorem map_next {M T I q l : Addr} {i : Nat} {items : Array Value} {n : Nat} {v f self : Value} {rest : List (Addr × Obj)} {Q : Option Value → Shared → Prop} (F : Fr h₀ L s.heap m) (N : News h₀ L s.heap ((I, liO l i) :: rest)) (hr : ∀ p ∈ rest, p.1 ≠ I) (hM : (M, mapO T q) ∈ rest) (hT : (T, oneO I) ∈ rest) (hq : (q, methodObj f self) ∈ rest)
    (hl : (l, PySem.W.listOf items n) ∈ rest) (hx : items[i]? = some v)
    (h : ∀ h', Fr h₀ L h' m → News h₀ L h' ((I, liO l (i + 1)) :: rest) → codeAny (model prog w) A.in1 (.call f ⟨[self, v], []⟩) (wants (fun u => Q (some u)) fun _ _ => False) { s with heap := h' }) :
    wpAny (model prog w) A (pyNext (.ref M)) Q E s := by
  have hoM := N.get (.tail _ hM)
  have hoT := N.get (.tail _ hT)
  have hTy : s.TypeIs (.ref M) "map" := ⟨_, hoM, rfl⟩
  unfold pyNext
  refine wpAny_bind (wpAny_attempt (wpAny_callSpecial?_slot (name := Str.ofString "__next__") hTy slot_map_next (wpAny_call_entry slot_map_next hTy entry_map_next ?_ (args_map_next _))))
  show wpAny _ _ (field (.ref M) 0 >>= _) _ _ s
  refine wpAny_bind (wpAny_field hoM rfl (x := .ref T) rfl ?_)
  refine wpAny_bind (wpAny_seqItems hoT rfl ?_)
  dsimp only
  refine wpAny_bind ?_
  rw [← Array.forIn_toList]
  simp only [List.forIn_cons, List.forIn_nil]
  refine wpAny_bind (wpAny_bind (wpAny_holding (li_next F N hr hl hx fun h' F' N' => ?_)))
  refine wpAny_pure ?_
  dsimp only
  refine wpAny_pure ?_
  refine wpAny_bind (wpAny_field (s := { s with heap := h' }) (N'.get (.tail _ hM)) rfl (x := .ref q) rfl ?_)
  refine wpAny_bind (wpAny_holding (wpAny_call (method_call (N'.get (.tail _ hq)) (codeAny_mono (h h' F' N') fun r s' hr => ?_))))
  match r, hr with
  | .ok (.ret u), hr =>
    refine wpAny_bind (wpAny_letGo ?_)
    exact wpAny_pure ⟨_, rfl, wpAny_pure hr⟩
end
theorem ext_led {h₀ h h' : Heap} {L b : Addr} {m : Str → Option Value} {rest : List (Addr × Obj)} (hs : Heap.ExtBut b h h') (F : Fr h₀ L h m) (N : News h₀ L h rest) (hr : ∀ p ∈ rest, p.1 ≠ b) (hL : b ≠ L) (h0 : h₀.get? b = none) : Fr h₀ L h' m ∧ News h₀ L h' rest := by
  refine ⟨⟨F.ns.at' fun o e => hs _ _ (Ne.symm hL) e, fun c o e => hs _ _ (fun q => ?_) (F.keep c o e), F.above⟩, fun p hp => ⟨hs _ _ (hr p hp) (N p hp).1, (N p hp).2⟩⟩
  rw [q, h0] at e; cases e
section
variable {prog : Program} {w : World} {A : Around} {E : Value → Shared → Prop} {s : Shared} {h₀ : Heap} {L : Addr} {m : Str → Option Value} {news : List (Addr × Obj)}
theorem map_end {M T I q l : Addr} {i : Nat} {items : Array Value} {n : Nat} {rest : List (Addr × Obj)} {Q : Option Value → Shared → Prop} (hh : A.handled = none) (F : Fr h₀ L s.heap m) (N : News h₀ L s.heap ((I, liO l i) :: rest)) (hr : ∀ p ∈ rest, p.1 ≠ I) (hM : (M, mapO T q) ∈ rest) (hT : (T, oneO I) ∈ rest)
    (hl : (l, PySem.W.listOf items n) ∈ rest) (hx : items[i]? = none)
    (h : ∀ h', Fr h₀ L h' m → News h₀ L h' rest → Q none { s with heap := h' }) : wpAny (model prog w) A (pyNext (.ref M)) Q E s := by
  have hoM := N.get (.tail _ hM)
  have hoT := N.get (.tail _ hT)
  have hTy : s.TypeIs (.ref M) "map" := ⟨_, hoM, rfl⟩
  unfold pyNext
  refine wpAny_bind (wpAny_attempt (wpAny_callSpecial?_slot (name := Str.ofString "__next__") hTy slot_map_next (wpAny_call_entry slot_map_next hTy entry_map_next ?_ (args_map_next _))))
  show wpAny _ _ (field (.ref M) 0 >>= _) _ _ s
  refine wpAny_bind (wpAny_field hoM rfl (x := .ref T) rfl ?_)
  refine wpAny_bind (wpAny_seqItems hoT rfl ?_)
  dsimp only
  refine wpAny_bind ?_
  rw [← Array.forIn_toList]
  simp only [List.forIn_cons, List.forIn_nil]
  refine wpAny_bind (wpAny_bind (wpAny_holding (wpAny_nextOf_list_end (it := I) (l := l) (i := i) (items := items) (by first | exact hh | (show A.in1.handled = none; exact hh)) ⟨_, N.get (.head _), rfl, rfl⟩ (News.isList N (.tail _ hl)) hx fun h' e hs he => ?_)))
  obtain ⟨o, ho, hc⟩ := he
  obtain ⟨F', N'⟩ := ext_led hs F (fun p hp => N p (.tail _ hp)) hr (N _ (.head _)).2.1 (N _ (.head _)).2.2
  refine wpAny_bind (wpAny_isInstance (T := "StopIteration") (b := true) ⟨o, ho, hc⟩ isSubtype_stop ?_)
  exact wpAny_pure (h _ F' N')
end
section
variable {w : World} {loose : List Str} {mean : ExcName → Option Value} {mg mb : Str → Option Value}
theorem ext_map {gd : Option (List Code)} {cn : Str} {cs : Scope} {a : Addr} {ccd : Value} {cl : List (Str × Addr)} {outer : List Env} {A₀ : Around} {base h₀ : Heap} {L : Addr} {m : Str → Option Value}
    {S M T I q nl : Addr} {vs : List Value} {n : Nat} {rs : List I3} {R : Result → Shared → Prop}
    (B : Below A₀ base outer h₀) (X : (Mine.hd0.heap_1 w.params).In h₀) (BO : Boot w h₀) (Tp : Top topProg loose mean mg mb h₀) (hk : cs.kind = .function) (h100 : rs.length ≤ 50) :
    ∀ (k i : Nat) (s : Shared) (acc : List Value) (c : Nat) (rest : List (Addr × Obj)), rs.length - i = k → i ≤ rs.length → Fr h₀ L s.heap m → News h₀ L s.heap ((S, PySem.W.listOf acc.toArray c) :: (I, liO nl i) :: rest) →
      (∀ p ∈ rest, p.1 ≠ I ∧ p.1 ≠ S) → S ≠ I → (M, mapO T q) ∈ rest → (T, oneO I) ∈ rest → (q, methodObj (.ref 89) (.ref 135)) ∈ rest → (nl, PySem.W.listOf vs.toArray n) ∈ rest → TupsAre rest vs rs → Blocks rest acc (rs.take i) →
      (∀ h' tk acc' c' rest', Fr h₀ L h' m → News h₀ L h' ((S, PySem.W.listOf acc'.toArray c') :: rest') → (∀ p ∈ rest, p ∈ rest') → (∀ p ∈ rest', p.1 ≠ S) → Blocks rest' acc' rs → R (.ok (.ret .none)) { s with heap := h', toks := tk }) →
      codeAny (model PySem.Challenge.rw_mr0378_01.row.prog w) (ktrTop 410 500 gd cn cs L a ccd cl outer) (.builtin "list.extend.loop" ⟨[.ref S, .ref M, .none], []⟩) R s := by
  intro k
  induction k with
  | zero =>
    intro i s acc c rest hki hi F N hap hSI hM hT hq hnl hTs hB hR
    have hin : i = rs.length := by omega
    subst hin
    refine codeAny_builtin PySem.F.entry_extend_loop ?_
    rw [Around.under_plainId PySem.F.plain_extend_loop _]
    show wpAny _ _ (pyNext (.ref M) >>= _) _ _ s
    refine wpAny_bind (map_end (A := Around.in1 _) (I := I) (l := nl) (i := rs.length) (items := vs.toArray) (n := n) (rest := (S, PySem.W.listOf acc.toArray c) :: rest) rfl F (news_sub N ?_) ?_ (.tail _ hM) (.tail _ hT) (.tail _ hnl) (by simp [hTs.1]) fun h' F' N' => ?_)
    · exact sub_cons (.tail _ (.head _)) (sub_cons (.head _) fun p hp => .tail _ (.tail _ hp))
    · exact ne_cons hSI fun p hp => (hap p hp).1
    · exact wpAny_pure (hR h' s.toks acc c rest F' N' (fun _ h => h) (fun p hp => (hap p hp).2) (by rw [List.take_length] at hB; exact hB))
  | succ k ih =>
    intro i s acc c rest hki hi F N hap hSI hM hT hq hnl hTs hB hR
    have hlt : i < rs.length := by omega
    obtain ⟨q', t, r, e1, e2, e3⟩ := hTs.2 i _ (List.getElem?_eq_getElem (hTs.1 ▸ hlt))
    refine codeAny_builtin PySem.F.entry_extend_loop ?_
    rw [Around.under_plainId PySem.F.plain_extend_loop _]
    show wpAny _ _ (pyNext (.ref M) >>= _) _ _ s
    refine wpAny_bind (map_next (A := Around.in1 _) (I := I) (l := nl) (i := i) (items := vs.toArray) (n := n) (v := .ref q') (f := .ref 89) (self := .ref 135) (rest := (S, PySem.W.listOf acc.toArray c) :: rest) F (news_sub N ?_) ?_ (.tail _ hM) (.tail _ hT) (.tail _ hq) (.tail _ hnl) ?_ fun h' F' N' => ?_)
    · exact sub_cons (.tail _ (.head _)) (sub_cons (.head _) fun p hp => .tail _ (.tail _ hp))
    · exact ne_cons hSI fun p hp => (hap p hp).1
    · rw [← e1]; simp [List.getElem?_eq_getElem (hTs.1 ▸ hlt : i < vs.length)]
    refine codeAny_up (mk gd cn cs a ccd cl outer A₀ base h₀ L m _ _ _ (fun _ _ => False) q' r t B F' X BO N' Tp hk (.tail _ (.tail _ e3)) rfl fun qm d h'' tk new F'' N'' hm => ?_) (Nat.le_of_ble_eq_true rfl) (Nat.le_of_ble_eq_true rfl)
    have hqS : qm ≠ S := news_ne N'' (List.mem_append_left _ hm) (List.mem_append_right _ (.tail _ (.head _))) (fun e => by cases e)
    have hqI : qm ≠ I := news_ne N'' (List.mem_append_left _ hm) (List.mem_append_right _ (.head _)) (fun e => by cases e)
    have inr : ∀ p ∈ rest, p ∈ but I (but S (new ++ rest)) := fun p hp => but_mem (but_mem (List.mem_append_right _ hp) (hap p hp).2) (hap p hp).1
    have N3 : News h₀ L h'' ((S, PySem.W.listOf acc.toArray c) :: (I, liO nl (i + 1)) :: but I (but S (new ++ rest))) := news_sub N'' (sub_cons (List.mem_append_right _ (.tail _ (.head _))) (sub_cons (List.mem_append_right _ (.head _)) fun p hp => by
      rcases List.mem_append.mp (but_sub p (but_sub p hp)) with hp | hp
      · exact List.mem_append_left _ hp
      · exact List.mem_append_right _ (.tail _ (.tail _ hp))))
    have hap' : ∀ p ∈ but I (but S (new ++ rest)), p.1 ≠ I ∧ p.1 ≠ S := fun p hp => ⟨but_ne p hp, but_ne p (but_sub p hp)⟩
    have hoS := N3.get (.head _)
    obtain ⟨c2, hc2⟩ : ∃ c2, (h''.update S (Obj.mapSeq (·.push (.ref qm)))).get? S = some (PySem.W.listOf (acc ++ [Value.ref qm]).toArray c2) := by
      have e := get?_update_seq hoS (·.push (.ref qm))
      simp only [List.push_toArray] at e
      exact ⟨_, e⟩
    obtain ⟨F4, N4⟩ := news_upd F'' N3 (.head (ne_cons hSI.symm fun p hp => (hap' p hp).2)) (Heap.SameBut.update ..) hc2
    have hacc : acc.length ≤ 50 := by have := hB.1; rw [List.length_take] at this; omega
    show wpAny _ _ (Builtin.List.listUpdate (.ref S) (·.push (.ref qm)) >>= _) _ _ _
    refine wpAny_bind (listUpdate_at (s := { s with heap := h'', toks := tk }) hoS rfl ?_ (by rw [List.size_toArray, sizeLine_eq]; omega) (by rw [Array.size_push, List.size_toArray, sizeLine_eq]; omega))
    refine wpAny_pure ⟨plainId_quiet PySem.F.plain_extend_loop _, ih (i + 1) _ (acc ++ [.ref qm]) c2 _ (by omega) hlt F4 N4 hap' hSI (inr _ hM) (inr _ hT) (inr _ hq) (inr _ hnl) (hTs.sub inr) ?_ fun h5 tk5 acc' c' rest' F5 N5 hs5 hn5 hB5 => ?_⟩
    · rw [List.take_add_one, e2]
      exact (hB.sub inr).snoc (but_mem (but_mem (List.mem_append_left _ hm) hqS) hqI)
    · exact hR h5 tk5 acc' c' rest' F5 N5 (fun p hp => hs5 p (inr p hp)) hn5 hB5
theorem n_listmap {gd : Option (List Code)} {cn : Str} {cs : Scope} {a : Addr} {ccd : Value} {cl : List (Str × Addr)} {outer : List Env} {A₀ : Around} {base h₀ : Heap} {L : Addr} {m : Str → Option Value}
    {M T I q nl : Addr} {vs : List Value} {n : Nat} {rs : List I3} {Q E : Value → Shared → Prop} {s : Shared} {rest : List (Addr × Obj)}
    (B : Below A₀ base outer h₀) (X : (Mine.hd0.heap_1 w.params).In h₀) (BO : Boot w h₀) (Tp : Top topProg loose mean mg mb h₀) (hk : cs.kind = .function) (h100 : rs.length ≤ 50)
    (F : Fr h₀ L s.heap m) (N : News h₀ L s.heap ((I, liO nl 0) :: rest)) (hap : ∀ p ∈ rest, p.1 ≠ I) (hM : (M, mapO T q) ∈ rest) (hT : (T, oneO I) ∈ rest) (hq : (q, methodObj (.ref 89) (.ref 135)) ∈ rest) (hnl : (nl, PySem.W.listOf vs.toArray n) ∈ rest) (hTs : TupsAre rest vs rs)
    (h : ∀ S h' tk acc' c' rest', Fr h₀ L h' m → News h₀ L h' ((S, PySem.W.listOf acc'.toArray c') :: rest') → (∀ p ∈ rest, p ∈ rest') → (∀ p ∈ rest', p.1 ≠ S) → Blocks rest' acc' rs → Q (.ref S) { s with heap := h', toks := tk }) :
    wpAny (model PySem.Challenge.rw_mr0378_01.row.prog w) (ktrTop 400 400 gd cn cs L a ccd cl outer) (call (.type "list") [.ref M]) Q E s := by
  refine callType_codes (Q₁ := fun obj s₁ => obj = .ref s.heap.objs.size ∧ s₁ = { s with heap := s.heap.push { cls := .type "list", data := .seq #[] } }) PySem.F.called_list (PySem.F.typeCall_list_1 _) PySem.F.entry_list_init
    (code_list_new _ ⟨rfl, rfl⟩) fun obj s₁ h₁ => ?_
  obtain ⟨rfl, rfl⟩ := h₁
  have hS : (s.heap.push { cls := .type "list", data := .seq #[] }).get? s.heap.objs.size = some { cls := .type "list", data := .seq #[] } := Heap.get?_push_size _ rfl
  generalize hSz : s.heap.objs.size = S at *
  have F1 : Fr h₀ L (s.heap.push { cls := .type "list", data := .seq #[] }) m := F.push _
  have N1 : News h₀ L (s.heap.push { cls := .type "list", data := .seq #[] }) ((S, PySem.W.listOf #[] 0) :: (I, liO nl 0) :: rest) := hSz ▸ N.push F _ rfl
  have hne : ∀ p ∈ (I, liO nl 0) :: rest, p.1 ≠ S := fun p hp e => by
    have := Heap.lt_size (N p hp).1
    rw [e, hSz] at this
    exact Nat.lt_irrefl _ this
  refine ⟨⟨_, hS, rfl⟩, PySem.F.args_list_init_2 _ _, ?_⟩
  show wpAny _ _ (do let old ← Builtin.List.listItems (.ref S); Builtin.List.listUpdate (.ref S) (fun _ => #[]); letGo old.toList.reverse; Builtin.List.listExtendWith (.ref S) (.ref M) .none) _ _ _
  refine wpAny_bind (listItems_at hS rfl ?_)
  refine wpAny_bind (listUpdate_at hS rfl ?_ (Nat.zero_le _) (Nat.zero_le _))
  obtain ⟨F2, N2⟩ := news_upd F1 N1 (.head hne) (Heap.SameBut.update ..) (get?_update_seq hS fun _ => #[])
  refine wpAny_bind (wpAny_letGo ?_)
  unfold Builtin.List.listExtendWith
  have hoM := N2.get (.tail _ (.tail _ hM))
  have hTy : ∀ {s' : Shared}, s'.heap.get? M = some (mapO T q) → s'.TypeIs (.ref M) "map" := fun e => ⟨_, e, rfl⟩
  refine wpAny_bind (wpAny_typeOf (hTy hoM) ?_)
  have hSM : S ≠ M := fun e => hne _ (.tail _ hM) e.symm
  have h1 : Builtin.List.listSameRef (.ref S) (.ref M) = false := by simp [Builtin.List.listSameRef, hSM]
  have h2 : (Value.type "map" == Value.type "list") = false := by decide
  have h3 : (Value.type "map" == Value.type "tuple") = false := by decide
  simp only [h1, h2, h3, Bool.or_false, Bool.false_eq_true, if_false]
  refine wpAny_bind (n_mapIter hoM ?_)
  refine wpAny_bind (wpAny_holding ?_)
  unfold Builtin.List.listLengthHint
  refine wpAny_bind (wpAny_specialOf (hTy hoM) nolen_map ?_)
  show wpAny _ _ (specialOf (Value.ref M) (Str.ofString "__length_hint__") >>= _) _ _ _
  refine wpAny_bind (wpAny_specialOf (hTy hoM) nohint_map ?_)
  refine wpAny_pure ?_
  show wpAny _ _ (rule "list.extend.makes-room" >>= fun _ => Builtin.List.listTouch (.ref S) >>= fun _ => again (.builtin "list.extend.loop" ⟨[.ref S, .ref M, .none], []⟩)) _ _ _
  refine wpAny_bind (wpAny_rule ?_)
  refine wpAny_bind ?_
  show wpAny _ _ (Builtin.List.listUpdate (.ref S) (·.push .none) >>= fun _ => Builtin.List.listUpdate (.ref S) (·.pop)) _ _ _
  refine wpAny_bind (listUpdate_at (N2.get (.head _)) rfl ?_ (Nat.zero_le _) (by show (1 : Nat) ≤ sizeLine + 1; omega))
  obtain ⟨F3, N3⟩ := news_upd F2 N2 (.head hne) (Heap.SameBut.update ..) (get?_update_seq (N2.get (.head _)) (·.push Value.none))
  refine listUpdate_at (N3.get (.head _)) rfl ?_ (by show (1 : Nat) ≤ sizeLine; rw [sizeLine_eq]; decide) (Nat.zero_le _)
  obtain ⟨F4, N4⟩ := news_upd F3 N3 (.head hne) (Heap.SameBut.update ..) (get?_update_seq (N3.get (.head _)) (·.pop))
  refine wpAny_pure ⟨plainId_quiet PySem.F.plain_extend_loop _, ?_⟩
  refine codeAny_up (ext_map B X BO Tp hk h100 rs.length 0 _ [] _ rest rfl (Nat.zero_le _) F4 N4 (fun p hp => ⟨hap p hp, hne p (.tail _ hp)⟩) (fun e => hne _ (.head _) e.symm) hM hT hq hnl hTs ⟨rfl, fun i v e => by simp at e⟩ fun h' tk acc' c' rest' F' N' hs' hn' hB' => ?_) (Nat.le_of_ble_eq_true rfl) (Nat.le_of_ble_eq_true rfl)
  exact ⟨rfl, h S h' tk acc' c' rest' F' N' hs' hn' hB'⟩
end
theorem third_front {h₀ h : Heap} {L : Addr} {a b c : Addr × Obj} {l : List (Addr × Obj)} (N : News h₀ L h (a :: b :: c :: l)) : News h₀ L h (c :: a :: b :: l) := news_sub N (sub_cons (.tail _ (.tail _ (.head _))) (sub_cons (.head _) (sub_cons (.tail _ (.head _)) fun _ hp => .tail _ (.tail _ (.tail _ hp)))))
theorem mergeE_0 {st : List I3} {i j k : Int} (h : k = 0) : mergeE (st, (i, j, k)) = st := if_pos h
theorem mergeE_1 {st : List I3} {i j k : Int} (h : k ≠ 0) : mergeE (st, (i, j, k)) = st ++ [(i, j, k)] := if_neg h
theorem mergeE_len {st : List I3} {i j k : Int} : (mergeE (st, (i, j, k))).length ≤ st.length + 1 := by
  unfold mergeE; split
  · exact Nat.le_succ _
  · simp
noncomputable def gmbF (ms ns : List Int) : List I3 := mergeE ((sortP (0, 0, 0) ltM (gq ms ns (2 * ms.length + 1) [(0, ms.length, 0, ns.length)] [])).foldl mergeT ([], (0, 0, 0))) ++ [((ms.length : Int), (ns.length : Int), 0)]
theorem Blocks.apart {news news' : List (Addr × Obj)} {vs : List Value} {rs : List I3} (h : Blocks news vs rs) (hs : ∀ q d r t, (q, matchO d r t) ∈ news → (q, matchO d r t) ∈ news') : Blocks news' vs rs :=
  ⟨h.1, fun i v e => let ⟨q, d, t, r, a, b, c⟩ := h.2 i v e; ⟨q, d, t, r, a, b, hs _ _ _ _ c⟩⟩
end
section --Cn
noncomputable def SmC (w : World) : Prop :=
  ∀ (gd : Option (List Code)) (cn : Str) (cs : Scope) (a : Addr) (ccd : Value) (cl : List (Str × Addr)) (outer : List Env) (A₀ : Around) (base h₀ : Heap) (L : Addr) (m : Str → Option Value) (news : List (Addr × Obj)) (s : Shared)
    (loose : List Str) (mean : ExcName → Option Value) (mg mb : Str → Option Value) (Q E : Value → Shared → Prop) (la lb : Addr) (xs ys : List Value) (ea eb : Nat) (ms ns : List Int),
    Below A₀ base outer h₀ → Fr h₀ L s.heap m → (Mine.hd0.heap_1 w.params).In h₀ → Boot w h₀ → News h₀ L s.heap news → Top topProg loose mean mg mb h₀ → cs.kind = .function →
    (la, PySem.W.listOf xs.toArray ea) ∈ news → (lb, PySem.W.listOf ys.toArray eb) ∈ news → IntsAre xs ms → IntsAre ys ns → ms.length ≤ 4 → ns.length ≤ 4 → ns.Nodup →
    (∀ (x : Addr) (D : SmD) (h' : Heap) (tk : Nat) (news' : List (Addr × Obj)), Fr h₀ L h' m → News h₀ L h' news' → (∀ p ∈ news, p ∈ news') → (∀ p ∈ news, p.1 ≠ D.d) → SmIn w news' x D .none .none ms ns → Q (.ref x) { s with heap := h', toks := tk }) →
    wpAny (model PySem.Challenge.rw_mr0378_01.row.prog w) (ktrTop 360 200 gd cn cs L a ccd cl outer) (call (.ref 242) [.none, .ref la, .ref lb]) Q E s
noncomputable def opsF (ms ns : List Int) : List Op := ((gmbF ms ns).foldl opsT ([], 0, 0)).1
noncomputable def GocC (w : World) : Prop :=
  ∀ (gd : Option (List Code)) (cn : Str) (cs : Scope) (a : Addr) (ccd : Value) (cl : List (Str × Addr)) (outer : List Env) (A₀ : Around) (base h₀ : Heap) (L : Addr) (m : Str → Option Value) (news : List (Addr × Obj)) (s : Shared)
    (loose : List Str) (mean : ExcName → Option Value) (mg mb : Str → Option Value) (Q E : Value → Shared → Prop) (x : Addr) (D : SmD) (ms ns : List Int),
    Below A₀ base outer h₀ → Fr h₀ L s.heap m → (Mine.hd0.heap_1 w.params).In h₀ → Boot w h₀ → News h₀ L s.heap news → Top topProg loose mean mg mb h₀ → cs.kind = .function → SmIn w news x D .none .none ms ns →
    (∀ (r : Addr) (h' : Heap) (tk : Nat) (news' : List (Addr × Obj)) (vs : List Value) (n : Nat), Fr h₀ L h' m → News h₀ L h' news' → (∀ p ∈ news, p.1 ≠ D.d → p ∈ news') → (∀ p ∈ news, p.1 ≠ D.d → p.1 ≠ r) → (r, PySem.W.listOf vs.toArray n) ∈ news' → OpsAre news' vs (opsF ms ns) → Q (.ref r) { s with heap := h', toks := tk }) →
    wpAny (model PySem.Challenge.rw_mr0378_01.row.prog w) (ktrTop 360 200 gd cn cs L a ccd cl outer) (call (.ref 210) [.ref x]) Q E s
end
section --Sl
open PySem PySem.W PySem.Calls PyProof.Rows PySem.W.X
noncomputable def kEs (P : Params) (md qn : Value) (fl : Value) (t : Fin 12 → Nat) (lS sa f1 f2 f3 f4 f5 f6 : Addr) : List DictEntry :=
  [⟨PyData.keyHash P "__module__", .str "__module__" (t 0), md⟩, ⟨PyData.keyHash P "__qualname__", .str "__qualname__" (t 1), qn⟩, ⟨PyData.keyHash P "__firstlineno__", .str "__firstlineno__" (t 2), fl⟩,
   ⟨PyData.keyHash P "__slots__", .str "__slots__" (t 3), .ref lS⟩, ⟨PyData.keyHash P "__init__", .str "__init__" (t 4), .ref f1⟩, ⟨PyData.keyHash P "__lt__", .str "__lt__" (t 5), .ref f2⟩,
   ⟨PyData.keyHash P "__gt__", .str "__gt__" (t 6), .ref f3⟩, ⟨PyData.keyHash P "__eq__", .str "__eq__" (t 7), .ref f4⟩, ⟨PyData.keyHash P "__le__", .str "__le__" (t 8), .ref f5⟩,
   ⟨PyData.keyHash P "__ge__", .str "__ge__" (t 9), .ref f6⟩, ⟨PyData.keyHash P "__hash__", .str "__hash__" (t 10), .none⟩, ⟨PyData.keyHash P "__static_attributes__", .str "__static_attributes__" (t 11), .ref sa⟩]
section
variable {w : World} {E : Value → Shared → Prop} {s : Shared} {h₀ : Heap} {L : Addr} {m : Str → Option Value} {news : List (Addr × Obj)} {l : List Env} {gd : Option (List Code)} {md qn fl : Value} {tt : Fin 12 → Nat} {lS sa f1 f2 f3 f4 f5 f6 : Addr} {t : Tok}
theorem n_slots {Q : Builtin.Slots.Plan → Shared → Prop} (F : Fr h₀ L s.heap m) (N : News h₀ L s.heap news) (X : (Mine.hd0.heap_1 w.params).In h₀) (B : Boot w h₀)
    (ho : (lS, (⟨.type "list", none, .seq #[.str (Str.ofString "obj") t] 0, #[]⟩ : Obj)) ∈ news)
    (h : ∀ h' tk, Fr h₀ L h' m → News h₀ L h' news → Q { names := [Str.ofString "obj"], dict := false, weak := false, inherited := [] } { s with heap := h', toks := tk }) :
    wpAny (model PySem.Challenge.rw_mr0378_01.row.prog w) (Amx l gd) (Builtin.Slots.read (Str.ofString "K") [.type "object"] (kEs w.params md qn fl tt lS sa f1 f2 f3 f4 f5 f6).toArray) Q E s := by
  refine r_load (a := lS) (by kernel_rfl) (N.get ho) ?_
  refine r_callW (c := .builtin "proto.collect" ⟨[.ref lS], []⟩) (by kernel_rfl) (n_collect F N X B ho fun q h' tk F' N' _ => ?_)
  refine r_load (a := q) (by kernel_rfl) (N'.get (.head _)) ?_
  exact r_pure (by kernel_rfl) (h h' tk F' fun p hp => N' p (.tail _ hp))
end
end
section --Mq
open PySem PySem.W PySem.Calls PyProof.Rows PySem.W.X
noncomputable def delObj : Bool := (Manifest.find? "object").elim false fun ty => ty.attrs.any (·.1 == "__del__")
theorem delObj_id : delObj = delObj := rfl
name_quick delObjQ for Mine.delObj by Mine.delObj_id
theorem delObj_is : delObj = false := by rw [PySem.W.Fast.delObjQ_eq]; kernel_rfl
noncomputable def gwObj : Sem Bool := Builtin.Slots.givesWeak (.type "object")
theorem gwObj_id : gwObj = gwObj := rfl
name_quick gwObjQ for Mine.gwObj by Mine.gwObj_id
theorem gwObj_is : gwObj = pure false := by rw [PySem.W.Fast.gwObjQ_eq]; kernel_rfl
noncomputable def mbObj : Sem (Option String) := Bind.madeBy (.type "object")
theorem mbObj_id : mbObj = mbObj := rfl
name_quick mbObjQ for Mine.mbObj by Mine.mbObj_id
theorem mbObj_is : mbObj = pure (some "object.__new__") := by rw [PySem.W.Fast.mbObjQ_eq]; kernel_rfl
noncomputable def gdObj : Sem Bool := Builtin.Slots.givesDict (.type "object")
theorem gdObj_id : gdObj = gdObj := rfl
name_quick gdObjQ for Mine.gdObj by Mine.gdObj_id
theorem gdObj_is : gdObj = pure false := by rw [PySem.W.Fast.gdObjQ_eq]; kernel_rfl

theorem n_eqP {α : Type} {M : Model} {A : Around} {E : Value → Shared → Prop} {s : Shared} {Q : α → Shared → Prop} {t : Sem α} {a : α} (e : t = pure a) (h : Q a s) : wpAny M A t Q E s := by rw [e]; exact wpAny_pure h
theorem n_gw {M : Model} {A : Around} {E : Value → Shared → Prop} {s : Shared} {Q : Bool → Shared → Prop} (h : Q false s) : wpAny M A (Builtin.Slots.givesWeak (.type "object")) Q E s := n_eqP gwObj_is h
theorem n_gd {M : Model} {A : Around} {E : Value → Shared → Prop} {s : Shared} {Q : Bool → Shared → Prop} (h : Q false s) : wpAny M A (Builtin.Slots.givesDict (.type "object")) Q E s := n_eqP gdObj_is h
theorem n_mb {M : Model} {A : Around} {E : Value → Shared → Prop} {s : Shared} {Q : Option String → Shared → Prop} (h : Q (some "object.__new__") s) : wpAny M A (Bind.madeBy (.type "object")) Q E s := n_eqP mbObj_is h
end
section --Rf
open PySem PySem.W PySem.Calls PyProof.Rows PySem.W.X
noncomputable def rmT (a : Addr) : Sem Unit := Bind.refreshMaker a
theorem rmT_id : rmT = rmT := rfl
name_quick rmQ for Mine.rmT by Mine.rmT_id
noncomputable def kE2 (P : Params) (md qn fl : Value) (t : _root_.Fin 12 → Nat) (lS sa f1 f2 f3 f4 f5 f6 : Addr) : List DictEntry := (kEs P md qn fl t lS sa f1 f2 f3 f4 f5 f6).eraseIdx 1
theorem n_refresh {prog : Program} {w : World} {A : Around} {E : Value → Shared → Prop} {s : Shared} {Q : Unit → Shared → Prop} {a ns : Addr} {P : Params} {md qn fl : Value} {tt : _root_.Fin 12 → Nat} {lS sa f1 f2 f3 f4 f5 f6 : Addr} {n : Nat}
    {nm qq : Str} {bs : List Value} {hdct : Bool} {sn : List Str} {sub : List Value} {s0 s1 s2 s3 : Option Value}
    (ho : s.heap.get? a = some ⟨.type "type", none, .cls { name := nm, bases := bs, mro := [.ref a, .type "object"], ns := ns, qualname := qq, hasDict := hdct, slotNames := sn, subclasses := sub }, #[s0, s1, s2, s3, some (.builtin "object.__new__")]⟩)
    (hn : s.heap.get? ns = some (dictOf (kE2 P md qn fl tt lS sa f1 f2 f3 f4 f5 f6) n)) (h : Q () s) : wpAny (model prog w) A (Bind.refreshMaker a) Q E s := by
  show wpAny (model prog w) A (rmT a) Q E s
  rw [PySem.W.Fast.rmQ_eq]
  refine r_load (a := a) (by kernel_rfl) ho ?_
  refine r_load (a := a) (by kernel_rfl) ho ?_
  refine r_load (a := a) (by kernel_rfl) ho ?_
  refine r_load (a := ns) (by kernel_rfl) hn ?_
  exact r_pure (by kernel_rfl) h
end
section --In
open PySem PySem.W PySem.Calls PyProof.Rows PySem.W.X
noncomputable def inT (a n : Addr) : Sem Unit := Builtin.Slots.install (.ref a) n [.type "object"] { names := [Str.ofString "obj"], dict := false, weak := false, inherited := [] }
theorem inT_id : inT = inT := rfl
name_quick inQ for Mine.inT by Mine.inT_id
noncomputable abbrev kObj (kc nk bT : Addr) (t tq : Tok) : Obj := ⟨.type "type", none, .cls { name := Str.ofString "K", bases := [.type "object"], mro := [.ref kc, .type "object"], ns := nk, qualname := Str.ofString "cmp_to_key.<locals>.K" }, #[some (.ref bT), none, some (.str (Str.ofString "K") t), some (.str (Str.ofString "cmp_to_key.<locals>.K") tq), some (.builtin "object.__new__")]⟩
noncomputable abbrev kObj2 (kc nk bT : Addr) (t tq : Tok) : Obj := ⟨.type "type", none, .cls { name := Str.ofString "K", bases := [.type "object"], mro := [.ref kc, .type "object"], ns := nk, qualname := Str.ofString "cmp_to_key.<locals>.K", hasDict := false, slotNames := [Str.ofString "obj"] }, #[some (.ref bT), none, some (.str (Str.ofString "K") t), some (.str (Str.ofString "cmp_to_key.<locals>.K") tq), some (.builtin "object.__new__")]⟩
theorem n_install {prog : Program} {w : World} {A : Around} {E : Value → Shared → Prop} {s : Shared} {Q : Unit → Shared → Prop} {kc nk bT : Addr} {t tq : Tok} {md qn fl : Value} {tt : _root_.Fin 12 → Nat} {lS sa f1 f2 f3 f4 f5 f6 : Addr} {n : Nat} {h₀ : Heap} {L : Addr} {m : Str → Option Value} {rest : List (Addr × Obj)}
    (F : Fr h₀ L s.heap m) (N : News h₀ L s.heap ((kc, kObj kc nk bT t tq) :: (nk, dictOf (kE2 w.params md qn fl tt lS sa f1 f2 f3 f4 f5 f6) n) :: rest)) (h1 : kc ≠ nk) (h2 : ∀ p ∈ rest, p.1 ≠ kc) (h3 : ∀ p ∈ rest, p.1 ≠ nk)
    (hQ : ∀ md' h' tk' t1 t2, Fr h₀ L h' m → News h₀ L h' ((md', ⟨.type "member_descriptor", none, .fields #[.str (Str.ofString "obj") t1, .ref kc, .builtin "proto.slot", .builtin "proto.slot#set", rawInt 0], #[]⟩) :: (kc, kObj2 kc nk bT t tq) :: (nk, dictOf (kE2 w.params md qn fl tt lS sa f1 f2 f3 f4 f5 f6 ++ [⟨PyData.keyHash w.params (Str.ofString "obj"), .str (Str.ofString "obj") t2, .ref md'⟩]) (n + 1)) :: rest) → kc < md' → nk < md' → (∀ p ∈ rest, p.1 < md') → Q () { s with heap := h', toks := tk' }) : wpAny (model prog w) A (inT kc nk) Q E s := by
  rw [PySem.W.Fast.inQ_eq]
  refine r_load (a := nk) (by kernel_rfl) (N.get (.tail _ (.head _))) ?_
  refine r_fresh (by kernel_rfl) ?_
  refine r_alloc (o := ⟨.type "member_descriptor", none, .fields #[.str (Str.ofString "obj") s.toks, .ref kc, .builtin "proto.slot", .builtin "proto.slot#set", rawInt 0], #[]⟩) (by kernel_rfl) F N rfl fun md' h' F N l1 => ?_
  refine r_load (a := nk) (by kernel_rfl) (N.get (.tail _ (.tail _ (.head _)))) ?_
  refine r_fresh (by kernel_rfl) ?_
  refine r_load (a := nk) (by kernel_rfl) (N.get (.tail _ (.tail _ (.head _)))) ?_
  refine r_update (d := nk) (o := dictOf (kE2 w.params md qn fl tt lS sa f1 f2 f3 f4 f5 f6) n) (o' := dictOf (kE2 w.params md qn fl tt lS sa f1 f2 f3 f4 f5 f6 ++ [⟨PyData.keyHash w.params (Str.ofString "obj"), .str (Str.ofString "obj") (s.toks + 1), .ref md'⟩]) (n + 1)) (by kernel_rfl) F N
    (.tail (Nat.ne_of_gt (l1 _ (.tail _ (.head _)))) (.tail h1 (.head h3))) (by kernel_rfl) rfl fun h' F N => ?_
  refine r_load (a := kc) (by kernel_rfl) (N.get (.tail _ (.head _))) ?_
  refine r_update (d := kc) (o := kObj kc nk bT t tq) (o' := kObj2 kc nk bT t tq) (by kernel_rfl) F N (.tail (Nat.ne_of_gt (l1 _ (.head _))) (.head (fun p hp => by rcases List.mem_cons.mp hp with rfl | hp; exact Ne.symm h1; exact h2 p hp))) (by kernel_rfl) rfl fun h' F N => ?_
  refine r_load (a := kc) (by kernel_rfl) (N.get (.tail _ (.head _))) ?_
  exact r_pure (by kernel_rfl) (hQ _ _ _ _ _ F N (l1 _ (.head _)) (l1 _ (.tail _ (.head _))) fun p hp => l1 p (.tail _ (.tail _ hp)))
end
section --Ki
open PySem PySem.W PySem.Spec PySem.Calls PyProof.Rows PySem.W.X PySem.W.XRun
local macro_rules | `(tactic| k_all) => `(tactic| assumption)
noncomputable abbrev kObj3 (kc nk bT : Addr) (t tq : Tok) : Obj := ⟨.type "type", none, .cls { name := Str.ofString "K", bases := [.type "object"], mro := [.ref kc, .type "object"], ns := nk, qualname := Str.ofString "cmp_to_key.<locals>.K", hasDict := false, slotNames := [Str.ofString "obj"] }, #[some (.ref bT), none, some (.str (Str.ofString "K") t), some (.str (Str.ofString "cmp_to_key.<locals>.K") tq), some (.builtin "object.__new__"), some (.bool false)]⟩
section
local macro_rules | `(tactic| x_close) => `(tactic| k_extra "wf00ae")
theorem x_super3 : ∀ {w : World} {l : List Env} {gd : Option (List Code)} {s : Shared} {c ns : Addr} {Q : Value → Shared → Prop} {E : Value → Shared → Prop} {sl : Array (Option Value)} (KX : (KX2 w.params).In s.heap)
    (ho : s.heap.get? c = some ⟨.type "type", none, .cls { name := Str.ofString "K", bases := [.type "object"], mro := [.ref c, .type "object"], ns := ns, qualname := Str.ofString "cmp_to_key.<locals>.K", hasDict := false, slotNames := [Str.ofString "obj"] }, sl⟩)
    (hQ : ∀ q h tk, Mem s.heap h [] [(q, ⟨.type "super", none, .fields #[.ref c, .ref c, .ref c], #[]⟩)] → Q (.ref q) ⟨h, s.gens, s.drawn, tk, s.os⟩),
    wpAny (model PySem.Challenge.rw_mr0378_01.row.prog w) (Amx l gd) (call (.type "super") [.ref c, .ref c]) Q E s := by
  w_top off
  k_fill
  intro w l gd s c ns Q E sl KX ho hQ
  x_run
end
theorem n_load2 {α : Type} {w : World} {M : Model} {A : Around} {E : Value → Shared → Prop} {s : Shared} {h₀ : Heap} {L : Addr} {m : Str → Option Value} {Q : α → Shared → Prop} {p : Option Value} {k : Obj → Sem α} (F : Fr h₀ L s.heap m) (X : (Mine.hd0.heap_1 w.params).In h₀)
    (h : wpAny M A (k (ob w.params 2)) Q E s) : wpAny M A (.load cStatics p k) Q E s := nd_load (F.keep _ _ (X 2 (ob w.params 2) (by kernel_rfl))) h
theorem n_nsLook {M : Model} {A : Around} {E : Value → Shared → Prop} {s : Shared} {Q : Option Value → Shared → Prop} {x : Str} {o : Obj} {r : Option Value} (e : nsLook x o = pure r) (h : Q r s) : wpAny M A (nsLook x o) Q E s := by rw [e]; exact wpAny_pure h
section
local macro_rules | `(tactic| x_close) => `(tactic| k_extra "wf00ae")
theorem x_cmget : ∀ {w : World} {l : List Env} {gd : Option (List Code)} {s : Shared} {c nk bT : Addr} {t tq : Tok} {Q : Value → Shared → Prop} {E : Value → Shared → Prop} (KX : (KX2 w.params).In s.heap)
    (ho : s.heap.get? c = some ⟨.type "type", none, .cls { name := Str.ofString "K", bases := [.type "object"], mro := [.ref c, .type "object"], ns := nk, qualname := Str.ofString "cmp_to_key.<locals>.K", hasDict := false, slotNames := [Str.ofString "obj"] }, #[some (.ref bT), none, some (.str (Str.ofString "K") t), some (.str (Str.ofString "cmp_to_key.<locals>.K") tq), some (.builtin "object.__new__"), some (.bool false)]⟩)
    (hQ : ∀ q h tk, Mem s.heap h [] [(q, ⟨.type "builtin_function_or_method", none, .fields #[.builtin "object.__init_subclass__", .ref c], #[]⟩)] → Q (.ref q) ⟨h, s.gens, s.drawn, tk, s.os⟩),
    wpAny (model PySem.Challenge.rw_mr0378_01.row.prog w) (Amx l gd) (call (.builtin "classmethod_descriptor.__get__") [.builtin "object.__init_subclass__", .none, .ref c]) Q E s := by
  k_fill
  intro w l gd s c nk bT t tq Q E KX ho hQ
  x_run
end
section
local macro_rules | `(tactic| x_close) => `(tactic| k_extra "w2c8c4")
theorem x_isub : ∀ {w : World} {l : List Env} {gd : Option (List Code)} {s : Shared} {q c nk bT : Addr} {t tq : Tok} {Q : Value → Shared → Prop} {E : Value → Shared → Prop} (KX : (KX2 w.params).In s.heap)
    (hq : s.heap.get? q = some ⟨.type "builtin_function_or_method", none, .fields #[.builtin "object.__init_subclass__", .ref c], #[]⟩)
    (ho : s.heap.get? c = some ⟨.type "type", none, .cls { name := Str.ofString "K", bases := [.type "object"], mro := [.ref c, .type "object"], ns := nk, qualname := Str.ofString "cmp_to_key.<locals>.K", hasDict := false, slotNames := [Str.ofString "obj"] }, #[some (.ref bT), none, some (.str (Str.ofString "K") t), some (.str (Str.ofString "cmp_to_key.<locals>.K") tq), some (.builtin "object.__new__"), some (.bool false)]⟩)
    (hQ : Q .none s),
    wpAny (model PySem.Challenge.rw_mr0378_01.row.prog w) (Amx l gd) (call (.ref q) [] []) Q E s := by
  k_fill
  intro w l gd s q c nk bT t tq Q E KX hq ho hQ
  x_run
end
theorem n_for1 {α β : Type} {M : Model} {A : Around} {E : Value → Shared → Prop} {s : Shared} {Q : β → Shared → Prop} {x : α} {l : List α} {b : β} {f : α → β → Sem (ForInStep β)} (e : l = [x])
    (h : wpAny M A (f x b) (fun r s' => match r with | .done b' => Q b' s' | .yield b' => Q b' s') E s) : wpAny M A (forIn l b f) Q E s := by
  subst e
  rw [List.forIn_cons]
  refine wpAny_bind (wpAny_mono h (fun r s' hr => ?_) fun _ _ x => x)
  cases r with
  | done b' => exact wpAny_pure hr
  | yield b' =>
    show wpAny M A (forIn [] b' f) Q E s'
    rw [List.forIn_nil]
    exact wpAny_pure hr
theorem mro_tail (kc : Addr) : List.drop 1 (List.dropWhile (fun x => x != Value.ref kc) [.ref kc, .type "object"]) = [.type "object"] := by
  rw [List.dropWhile_cons, if_neg (by simp)]; rfl
theorem own_is : classOwn (.type "object") (Str.ofString "__init_subclass__") = pure (some (.builtin "object.__init_subclass__")) := by kernel_rfl
theorem tl_cmg : typeLookup (.type "classmethod_descriptor") (Str.ofString "__get__") = pure (some (.builtin "classmethod_descriptor.__get__")) := by kernel_rfl
theorem ty_cmg : typeOf (.builtin "object.__init_subclass__") = pure (.type "classmethod_descriptor") := by kernel_rfl
theorem if_same {kc : Addr} {a b : Value} : (if (Value.ref kc == Value.ref kc) = true then a else b) = a := if_pos (by simp)
theorem tcast {α : Type} {M : Model} {A : Around} {Q : α → Shared → Prop} {E : Value → Shared → Prop} {s : Shared} {t t' : Sem α} (e : t = t') (h : wpAny M A t' Q E s) : wpAny M A t Q E s := e ▸ h
theorem n_superGet {w : World} {h₀ : Heap} {L : Addr} {m : Str → Option Value} {l : List Env} {gd : Option (List Code)} {Q : PySem.Fin → Shared → Prop} {E : Value → Shared → Prop} {s : Shared} {rest : List (Addr × Obj)} {q kc nk bT : Addr} {t tq tn : Tok}
    (F : Fr h₀ L s.heap m) (X : (Mine.hd0.heap_1 w.params).In h₀) (B : Boot w h₀)
    (N : News h₀ L s.heap ((q, ⟨.type "super", none, .fields #[.ref kc, .ref kc, .ref kc], #[]⟩) :: (kc, kObj3 kc nk bT t tq) :: rest))
    (hQ : ∀ q2 h' tk, Fr h₀ L h' m → News h₀ L h' ((q2, ⟨.type "builtin_function_or_method", none, .fields #[.builtin "object.__init_subclass__", .ref kc], #[]⟩) :: (q, ⟨.type "super", none, .fields #[.ref kc, .ref kc, .ref kc], #[]⟩) :: (kc, kObj3 kc nk bT t tq) :: rest) →
      (∀ p ∈ (q, (⟨.type "super", none, .fields #[.ref kc, .ref kc, .ref kc], #[]⟩ : Obj)) :: (kc, kObj3 kc nk bT t tq) :: rest, p.1 ≠ q2) → Q (.done (.ret (.ref q2))) { s with heap := h', toks := tk }) :
    wpAny (model PySem.Challenge.rw_mr0378_01.row.prog w) { handled := none, depth := 550, frames := some l, guards := gd, units := 1500 } (Builtin.«super.__getattribute__» ⟨[.ref q, .str (Str.ofString "__init_subclass__") tn], []⟩) Q E s := by
  unfold Builtin.«super.__getattribute__»
  repeat' ((fail_if_success (with_reducible show wpAny _ _ (forIn _ _ _) _ _ _)); first
    | ((with_reducible show wpAny _ _ (ite ((_ == sysModules) = true) _ _) _ _ _); refine n_iteB (by assumption) (by k_mem) B ?_)
    | (with_reducible refine wpAny_bind ?_) | (with_reducible refine nd_bind ?_) | (with_reducible refine wpAny_holding ?_) | (with_reducible refine wpAny_onRaise ?_) | (with_reducible refine wpAny_standAt ?_)
    | ((with_reducible show wpAny _ _ (Sem.load _ _ _) _ _ _); refine n_load (by assumption) (by k_mem) ?_)
    | ((with_reducible show wpAny _ _ (Sem.update _ _ _ _) _ _ _); refine n_update (by assumption) (by assumption) (by k_upd) rfl rfl ?_; intro h' F' N'; k_sweep)
    | ((with_reducible show wpAny _ _ (Sem.load cStatics _ _) _ _ _); refine n_load2 (by assumption) X ?_)
    | ((with_reducible show wpAny _ _ (nsLook _ _) _ _ _); refine n_nsLook (r := none) (by kernel_rfl) ?_)
    | (with_reducible refine nd_pure ?_) | (with_reducible refine wpAny_pure ?_)
    | (k_node)
    | (refine n_iteF (by kernel_rfl) ?_) | (refine n_iteT (by kernel_rfl) ?_))
  refine n_for1 (x := .type "object") (Eq.mp (by kernel_rfl) (mro_tail kc)) ?_
  refine wpAny_bind (n_eqP own_is ?_)
  dsimp only
  refine wpAny_bind (n_eqP ty_cmg ?_)
  refine wpAny_bind (n_eqP tl_cmg ?_)
  dsimp only
  repeat' ((fail_if_success (with_reducible show wpAny _ _ (call _ _) _ _ _)); first
    | (with_reducible refine wpAny_bind ?_) | (with_reducible refine nd_bind ?_) | (with_reducible refine wpAny_holding ?_) | (with_reducible refine wpAny_onRaise ?_) | (with_reducible refine wpAny_standAt ?_)
    | (with_reducible refine nd_pure ?_) | (with_reducible refine wpAny_pure ?_)
    | (k_node))
  refine tcast (t' := call (.builtin "classmethod_descriptor.__get__") [.builtin "object.__init_subclass__", .none, .ref kc]) ?e ?_
  case e =>
    show call _ [_, if (Value.ref kc == Value.ref kc) = true then Value.none else Value.ref kc, Value.ref kc] = _
    rw [if_same]
  refine wpAny_up (x_cmget (kx_in (X.keeps F.keep) fun p hp => F.keep _ _ (B p hp)) (N.get (.tail _ (.head _))) fun q2 h' tk D => ?_) (Nat.le_of_ble_eq_true rfl) (Nat.le_of_ble_eq_true rfl)
  obtain ⟨F', N'⟩ := mem_led D F N
  replace hQ := hQ q2 h' tk F' N' (mem_ne D N)
  clear F N F' N' D
  repeat' (first
    | exact hQ
    | (with_reducible refine wpAny_bind ?_) | (with_reducible refine nd_bind ?_) | (with_reducible refine wpAny_holding ?_) | (with_reducible refine wpAny_onRaise ?_) | (with_reducible refine wpAny_standAt ?_)
    | (with_reducible refine nd_pure ?_) | (with_reducible refine wpAny_pure ?_)
    | (k_node))

theorem n_getIS {w : World} {h₀ : Heap} {L : Addr} {m : Str → Option Value} {l : List Env} {gd : Option (List Code)} {Q E : Value → Shared → Prop} {s : Shared} {rest : List (Addr × Obj)} {q kc nk bT : Addr} {t tq : Tok}
    (F : Fr h₀ L s.heap m) (X : (Mine.hd0.heap_1 w.params).In h₀) (B : Boot w h₀)
    (N : News h₀ L s.heap ((q, ⟨.type "super", none, .fields #[.ref kc, .ref kc, .ref kc], #[]⟩) :: (kc, kObj3 kc nk bT t tq) :: rest))
    (hQ : ∀ q2 h' tk, Fr h₀ L h' m → News h₀ L h' ((q2, ⟨.type "builtin_function_or_method", none, .fields #[.builtin "object.__init_subclass__", .ref kc], #[]⟩) :: (q, ⟨.type "super", none, .fields #[.ref kc, .ref kc, .ref kc], #[]⟩) :: (kc, kObj3 kc nk bT t tq) :: rest) →
      (∀ p ∈ (q, (⟨.type "super", none, .fields #[.ref kc, .ref kc, .ref kc], #[]⟩ : Obj)) :: (kc, kObj3 kc nk bT t tq) :: rest, p.1 ≠ q2) → Q (.ref q2) { s with heap := h', toks := tk }) :
    wpAny (model PySem.Challenge.rw_mr0378_01.row.prog w) { handled := none, depth := 520, frames := some l, guards := gd, units := 1200 } (getAttr (.ref q) (Str.ofString "__init_subclass__")) Q E s := by
  have hlk := PySem.F.ks_slot_super_ga.lookup
  have hT : ∀ t', (⟨s.heap, s.gens, s.drawn, t', s.os⟩ : Shared).TypeIs (.ref q) "super" := fun _ => ⟨_, N.get (.head _), rfl⟩
  unfold getAttr getAttrBy
  refine wpAny_bind (wpAny_mkText (wpAny_holding (wpAny_bind (wpAny_typeOf (hT _) (wpAny_bind (wpAny_of_eq hlk ?_))))))
  show wpAny _ _ (getAttrByItsOwn (.ref q) (.str (Str.ofString "__init_subclass__") s.toks) (.type "super") (.builtin "super.__getattribute__") true false) _ _ _
  unfold getAttrByItsOwn hookBefore callGetattribute boundAndCalled
  refine wpAny_bind (wpAny_of_eq (show (if onTheHeap (.type "super") then typeLookup (.type "super") "__getattr__" else pure none) = pure none from rfl) ?_)
  refine wpAny_bind (wpAny_attempt (wpAny_holding ?_))
  show wpAny _ _ (bindSpecial (.builtin "super.__getattribute__") (.ref q) >>= _) _ _ _
  refine wpAny_bind (wpAny_of_eq (PySem.F.ks_slot_super_ga.bind _) ?_)
  refine wpAny_call_entry PySem.F.ks_slot_super_ga (hT _) PySem.F.ks_entry_super_ga ?_ (PySem.F.ks_gaArgs_super _ _)
  refine wpAny_up (n_superGet (s := ⟨s.heap, s.gens, s.drawn, s.toks + 1, s.os⟩) F X B N fun q2 h' tk F' N' l' => ⟨_, rfl, ?_⟩) (Nat.le_of_ble_eq_true rfl) (Nat.le_of_ble_eq_true rfl)
  exact wpAny_pure (hQ q2 h' tk F' N' l')
end
section --Kt
open PySem PySem.W PySem.Spec PySem.Calls PyProof.Rows PySem.W.X
local macro_rules | `(tactic| k_all) => `(tactic| assumption)
theorem entry_tnew : entryFor table "type.__new__" = some Builtin.«type.__new__» := entryFor_of_tree (by kernel_rfl)
theorem isid_obj : Builtin.Slots.isIdentifier (Str.ofString "obj") = some true := by kernel_rfl
theorem n_anyDel {M : Model} {A : Around} {Q : Bool → Shared → Prop} {E : Value → Shared → Prop} {s : Shared} {f : Value → Sem Bool} {a : Addr} (hf : f (.type "object") = pure false) (h : Q false s) :
    wpAny M A (List.anyM f (List.filter (fun x => x != Value.ref a) [Value.ref a, .type "object"])) Q E s := by
  have e : List.filter (fun x => x != Value.ref a) [Value.ref a, .type "object"] = [.type "object"] := by
    rw [List.filter_cons, if_neg (by simp), List.filter_cons, if_pos (by rfl)]; rfl
  rw [e, List.anyM_cons, hf]
  exact wpAny_bind (wpAny_pure (wpAny_pure h))
theorem tl_iter : typeLookup (.type "dict") (Str.ofString "__iter__") = pure (some (.builtin "dict.__iter__")) := by kernel_rfl
theorem note_is {a : Addr} : Builtin.noteSubclassOfBuiltin "object" a = pure () := by kernel_rfl
noncomputable def kE3 (P : Params) (md qn fl : Value) (t : _root_.Fin 12 → Nat) (lS sa f1 f2 f3 f4 f5 f6 dm : Addr) (t1 t2 : Tok) : List DictEntry := kE2 P md qn fl t lS sa f1 f2 f3 f4 f5 f6 ++ [⟨PyData.keyHash P "obj", .str "obj" t1, .ref dm⟩] ++ [⟨PyData.keyHash P "__doc__", .str "__doc__" t2, .none⟩]
theorem n_forSame {α β : Type} {M : Model} {A : Around} {E : Value → Shared → Prop} {s : Shared} {arr : Array α} {l : List α} {b : β} {f : α → β → Sem (ForInStep β)} (e : arr = l.toArray)
    (hf : ∀ x ∈ l, ∀ Q : ForInStep β → Shared → Prop, Q (.yield b) s → wpAny M A (f x b) Q E s) {Q : β → Shared → Prop} (h : Q b s) : wpAny M A (forIn arr b f) Q E s := by
  subst e
  rw [List.forIn_toArray]
  induction l with
  | nil => rw [List.forIn_nil]; exact wpAny_pure h
  | cons x l ih =>
    rw [List.forIn_cons]
    exact wpAny_bind (hf x (.head _) _ (ih fun y hy => hf y (.tail _ hy)))
noncomputable def strKey (e : DictEntry) : Bool := match e.key with | .str _ _ => true | _ => false
theorem strKey_of {e : DictEntry} (h : strKey e = true) : ∃ k t, e.key = .str k t := by
  unfold strKey at h
  split at h
  · rename_i k t q; exact ⟨k, t, q⟩
  · cases h
theorem kE3_keys {P : Params} {md qn fl : Value} {t : _root_.Fin 12 → Nat} {lS sa f1 f2 f3 f4 f5 f6 dm : Addr} {t1 t2 : Tok} : ∀ e ∈ kE3 P md qn fl t lS sa f1 f2 f3 f4 f5 f6 dm t1 t2, strKey e = true := by
  have h : (kE3 P md qn fl t lS sa f1 f2 f3 f4 f5 f6 dm t1 t2).all strKey = true := by rfl
  exact List.all_eq_true.mp h
inductive PV (h : Heap) : Value → Prop
  | str (x : Str) (t : Tok) : PV h (.str x t)
  | int (i : Int) (t : Tok) : PV h (.int i t)
  | none : PV h .none
  | ref {d : Addr} {o : Obj} {ty : String} (ho : h.get? d = some o) (hc : o.cls = .type ty) (ht : ty = "list" ∨ ty = "function" ∨ ty = "tuple" ∨ ty = "member_descriptor") : PV h (.ref d)
noncomputable def FnIn (l : List (Addr × Obj)) (ty : String) (f : Addr) : Prop := ∃ o, (f, o) ∈ l ∧ o.cls = .type ty
theorem kE3_vals {P : Params} {h : Heap} {md qn fl : Value} {t : _root_.Fin 12 → Nat} {lS sa f1 f2 f3 f4 f5 f6 dm : Addr} {t1 t2 : Tok} (hmd : PV h md) (hfl : PV h fl) (hl : PV h (.ref lS)) (h1 : PV h (.ref f1)) (h2 : PV h (.ref f2)) (h3 : PV h (.ref f3)) (h4 : PV h (.ref f4)) (h5 : PV h (.ref f5)) (h6 : PV h (.ref f6)) (hs : PV h (.ref sa)) (hd : PV h (.ref dm)) :
    ∀ e ∈ kE3 P md qn fl t lS sa f1 f2 f3 f4 f5 f6 dm t1 t2, PV h e.val := by
  have q : ∀ e ∈ [(⟨PyData.keyHash P "__module__", .str "__module__" (t 0), md⟩ : DictEntry), ⟨PyData.keyHash P "__firstlineno__", .str "__firstlineno__" (t 2), fl⟩,
   ⟨PyData.keyHash P "__slots__", .str "__slots__" (t 3), .ref lS⟩, ⟨PyData.keyHash P "__init__", .str "__init__" (t 4), .ref f1⟩, ⟨PyData.keyHash P "__lt__", .str "__lt__" (t 5), .ref f2⟩,
   ⟨PyData.keyHash P "__gt__", .str "__gt__" (t 6), .ref f3⟩, ⟨PyData.keyHash P "__eq__", .str "__eq__" (t 7), .ref f4⟩, ⟨PyData.keyHash P "__le__", .str "__le__" (t 8), .ref f5⟩,
   ⟨PyData.keyHash P "__ge__", .str "__ge__" (t 9), .ref f6⟩, ⟨PyData.keyHash P "__hash__", .str "__hash__" (t 10), .none⟩, ⟨PyData.keyHash P "__static_attributes__", .str "__static_attributes__" (t 11), .ref sa⟩,
   ⟨PyData.keyHash P "obj", .str "obj" t1, .ref dm⟩, ⟨PyData.keyHash P "__doc__", .str "__doc__" t2, .none⟩], PV h e.val := by
    simp only [List.forall_mem_cons]
    exact ⟨hmd, hfl, hl, h1, h2, h3, h4, h5, h6, .none, hs, hd, .none, fun _ hx => nomatch hx⟩
  exact q
theorem sn_str : typeLookup (.type "str") (Str.ofString "__set_name__") = pure none := by kernel_rfl
theorem sn_int : typeLookup (.type "int") (Str.ofString "__set_name__") = pure none := by kernel_rfl
theorem sn_none : typeLookup (.type "NoneType") (Str.ofString "__set_name__") = pure none := by kernel_rfl
theorem sn_list : typeLookup (.type "list") (Str.ofString "__set_name__") = pure none := by kernel_rfl
theorem sn_fn : typeLookup (.type "function") (Str.ofString "__set_name__") = pure none := by kernel_rfl
theorem sn_tup : typeLookup (.type "tuple") (Str.ofString "__set_name__") = pure none := by kernel_rfl
theorem sn_md : typeLookup (.type "member_descriptor") (Str.ofString "__set_name__") = pure none := by kernel_rfl
theorem n_setName {M : Model} {A : Around} {E : Value → Shared → Prop} {s : Shared} {Q : Option Value → Shared → Prop} {v : Value} (hv : PV s.heap v) (h : Q none s) : wpAny M A (specialOf v (Str.ofString "__set_name__")) Q E s := by
  unfold specialOf
  cases hv with
  | str x t => exact wpAny_bind (n_eqP (a := .type "str") rfl (n_eqP sn_str h))
  | int i t => exact wpAny_bind (n_eqP (a := .type "int") rfl (n_eqP sn_int h))
  | none => exact wpAny_bind (n_eqP (a := .type "NoneType") rfl (n_eqP sn_none h))
  | ref ho hc ht =>
    refine wpAny_bind (wpAny_bind (m := load _) (wpAny_load ho (wpAny_pure ?_)))
    rw [hc]
    rcases ht with rfl | rfl | rfl | rfl
    · exact n_eqP sn_list h
    · exact n_eqP sn_fn h
    · exact n_eqP sn_tup h
    · exact n_eqP sn_md h
theorem n_laid {k : Str} {t : Tok} {h : Heap} {v : Value} (hv : PV h v) : Builtin.laidUnderItsOwnName (.str k t) v = false := by cases hv <;> rfl
theorem mkType {w : World} {h₀ : Heap} {L : Addr} {m : Str → Option Value} {l : List Env} {gd : Option (List Code)} {R : Result → Shared → Prop} {s : Shared} {rest : List (Addr × Obj)} {md fl : Value} {tt : Fin 12 → Nat} {ns bT lS sa f1 f2 f3 f4 f5 f6 : Addr} {n : Nat} {t t' tq : Tok}
    (F : Fr h₀ L s.heap m) (X : (Mine.hd0.heap_1 w.params).In h₀) (B : Boot w h₀) (hmd : ∃ x t, md = .str x t) (hfl : ∃ i t, fl = .int i t) (hf1 : FnIn rest "function" f1) (hf2 : FnIn rest "function" f2) (hf3 : FnIn rest "function" f3) (hf4 : FnIn rest "function" f4) (hf5 : FnIn rest "function" f5) (hf6 : FnIn rest "function" f6) (hsa : FnIn rest "tuple" sa)
    (N : News h₀ L s.heap ((ns, dictOf (kEs w.params md (.str (Str.ofString "cmp_to_key.<locals>.K") tq) fl tt lS sa f1 f2 f3 f4 f5 f6) n) :: (bT, ⟨.type "tuple", none, .seq #[.type "object"] 0, #[]⟩) :: (lS, ⟨.type "list", none, .seq #[.str (Str.ofString "obj") t'] 0, #[]⟩) :: rest))
    (hQ : ∀ kc nk dm t1 t2 t3 h' tk, Fr h₀ L h' m → News h₀ L h' ((dm, ⟨.type "member_descriptor", none, .fields #[.str (Str.ofString "obj") t1, .ref kc, .builtin "proto.slot", .builtin "proto.slot#set", rawInt 0], #[]⟩) :: (kc, kObj3 kc nk bT t tq) ::
      (nk, dictOf (kE3 w.params md (.str (Str.ofString "cmp_to_key.<locals>.K") tq) fl tt lS sa f1 f2 f3 f4 f5 f6 dm t2 t3) 3) ::
      (ns, dictOf (kEs w.params md (.str (Str.ofString "cmp_to_key.<locals>.K") tq) fl tt lS sa f1 f2 f3 f4 f5 f6) n) :: (bT, ⟨.type "tuple", none, .seq #[.type "object"] 0, #[]⟩) :: (lS, ⟨.type "list", none, .seq #[.str (Str.ofString "obj") t'] 0, #[]⟩) :: rest) → (∀ p ∈ ((ns, dictOf (kEs w.params md (.str (Str.ofString "cmp_to_key.<locals>.K") tq) fl tt lS sa f1 f2 f3 f4 f5 f6) n) :: (bT, (⟨.type "tuple", none, .seq #[.type "object"] 0, #[]⟩ : Obj)) :: (lS, ⟨.type "list", none, .seq #[.str (Str.ofString "obj") t'] 0, #[]⟩) :: rest), p.1 ≠ kc ∧ p.1 ≠ nk ∧ p.1 ≠ dm) → R (.ok (.ret (.ref kc))) { s with heap := h', toks := tk }) :
    codeAny (model PySem.Challenge.rw_mr0378_01.row.prog w) { handled := none, depth := 500, frames := some l, guards := gd, units := 1000 } (.builtin "type.__new__" ⟨[.type "type", .str (Str.ofString "K") t, .ref bT, .ref ns], []⟩) R s := by
  revert w h₀ L m l gd R s rest md fl tt ns bT lS sa f1 f2 f3 f4 f5 f6 n t t' tq
  rintro w h₀ L m l gd R s rest md fl tt ns bT lS sa f1 f2 f3 f4 f5 f6 n t t' tq F X B hmd hfl hf1 hf2 hf3 hf4 hf5 hf6 hsa N hQ
  refine codeAny_builtin entry_tnew ?_
  unfold Builtin.«type.__new__»
  repeat' ((k_extra "g16"); first
    | ((with_reducible show wpAny _ _ (Builtin.Slots.read _ _ _) _ _ _); refine wpAny_up (n_slots (by assumption) (by assumption) X B (by k_mem) ?_) (Nat.le_of_ble_eq_true rfl) (Nat.le_of_ble_eq_true rfl); intro h' tk' F' N'; k_sweep)
    | ((with_reducible show wpAny _ _ (List.anyM _ (List.filter _ _)) _ _ _); refine n_anyDel (congrArg pure delObj_is) ?_)
    | ((with_reducible show wpAny _ _ (Builtin.Slots.givesWeak _) _ _ _); refine n_gw ?_)
    | ((with_reducible show wpAny _ _ (Builtin.Slots.givesDict _) _ _ _); refine n_gd ?_)
    | ((with_reducible show wpAny _ _ (Bind.madeBy _) _ _ _); refine n_mb ?_)
    | ((with_reducible show wpAny _ _ (ite ((_ == sysModules) = true) _ _) _ _ _); refine n_iteB (by assumption) (by k_mem) B ?_)
    | ((with_reducible show wpAny _ _ (specialOf _ _) _ _ _); refine n_spDict (by assumption) (by k_mem) tl_iter ?_)
    | (with_reducible refine wpAny_bind ?_) | (with_reducible refine nd_bind ?_) | (with_reducible refine wpAny_holding ?_) | (with_reducible refine wpAny_onRaise ?_) | (with_reducible refine wpAny_standAt ?_)
    | ((with_reducible show wpAny _ _ (Sem.load _ _ _) _ _ _); refine n_load (by assumption) (by k_mem) ?_)
    | ((with_reducible show wpAny _ _ (Sem.update _ _ _ _) _ _ _); refine n_update (by assumption) (by assumption) (by k_upd) rfl rfl ?_; intro h' F' N'; k_sweep)
    | (with_reducible refine nd_pure ?_) | (with_reducible refine wpAny_pure ?_)
    | (k_node)
    | (refine n_iteF (by kernel_rfl) ?_) | (refine n_iteT (by kernel_rfl) ?_))
  refine n_alloc (by assumption) (by assumption) (by rfl) ?_
  intro nk h' F' N' l1
  have hr3 : ∀ p ∈ (ns, dictOf (kEs w.params md (.str (Str.ofString "cmp_to_key.<locals>.K") tq) fl tt lS sa f1 f2 f3 f4 f5 f6) n) :: (bT, (⟨.type "tuple", none, .seq #[.type "object"] 0, #[]⟩ : Obj)) :: (lS, ⟨.type "list", none, .seq #[.str (Str.ofString "obj") t'] 0, #[]⟩) :: rest, p.1 ≠ nk := fun p hp => Nat.ne_of_lt (l1 p hp)
  have hrnk : ∀ p ∈ rest, p.1 ≠ nk := fun p hp => Nat.ne_of_lt (l1 p (by repeat (first | exact hp | apply List.Mem.tail)))
  k_lt l1
  k_sweep
  repeat' ((k_extra "g16"); first
    | ((with_reducible show wpAny _ _ (Builtin.Slots.read _ _ _) _ _ _); refine wpAny_up (n_slots (by assumption) (by assumption) X B (by k_mem) ?_) (Nat.le_of_ble_eq_true rfl) (Nat.le_of_ble_eq_true rfl); intro h' tk' F' N'; k_sweep)
    | ((with_reducible show wpAny _ _ (List.anyM _ (List.filter _ _)) _ _ _); refine n_anyDel (congrArg pure delObj_is) ?_)
    | ((with_reducible show wpAny _ _ (Builtin.Slots.givesWeak _) _ _ _); refine n_gw ?_)
    | ((with_reducible show wpAny _ _ (Builtin.Slots.givesDict _) _ _ _); refine n_gd ?_)
    | ((with_reducible show wpAny _ _ (Bind.madeBy _) _ _ _); refine n_mb ?_)
    | ((with_reducible show wpAny _ _ (ite ((_ == sysModules) = true) _ _) _ _ _); refine n_iteB (by assumption) (by k_mem) B ?_)
    | ((with_reducible show wpAny _ _ (specialOf _ _) _ _ _); refine n_spDict (by assumption) (by k_mem) tl_iter ?_)
    | (with_reducible refine wpAny_bind ?_) | (with_reducible refine nd_bind ?_) | (with_reducible refine wpAny_holding ?_) | (with_reducible refine wpAny_onRaise ?_) | (with_reducible refine wpAny_standAt ?_)
    | ((with_reducible show wpAny _ _ (Sem.load _ _ _) _ _ _); refine n_load (by assumption) (by k_mem) ?_)
    | ((with_reducible show wpAny _ _ (Sem.update _ _ _ _) _ _ _); refine n_update (by assumption) (by assumption) (by k_upd) rfl rfl ?_; intro h' F' N'; k_sweep)
    | (with_reducible refine nd_pure ?_) | (with_reducible refine wpAny_pure ?_)
    | (k_node)
    | (refine n_iteF (by kernel_rfl) ?_) | (refine n_iteT (by kernel_rfl) ?_))
  refine n_alloc (by assumption) (by assumption) (by rfl) ?_
  intro kc h' F' N' l1
  have hr2 : ∀ p ∈ (ns, dictOf (kEs w.params md (.str (Str.ofString "cmp_to_key.<locals>.K") tq) fl tt lS sa f1 f2 f3 f4 f5 f6) n) :: (bT, (⟨.type "tuple", none, .seq #[.type "object"] 0, #[]⟩ : Obj)) :: (lS, ⟨.type "list", none, .seq #[.str (Str.ofString "obj") t'] 0, #[]⟩) :: rest, p.1 ≠ kc := fun p hp => Nat.ne_of_lt (l1 p (.tail _ hp))
  have hnkc : nk ≠ kc := Nat.ne_of_lt (l1 _ (.head _))
  have hrkc : ∀ p ∈ rest, p.1 ≠ kc := fun p hp => Nat.ne_of_lt (l1 p (by repeat (first | exact hp | apply List.Mem.tail)))
  k_lt l1
  k_sweep
  repeat' ((k_extra "g16"); (fail_if_success (with_reducible show wpAny _ _ (Bind.refreshMaker _) _ _ _)); first
    | ((with_reducible show wpAny _ _ (Builtin.Slots.read _ _ _) _ _ _); refine wpAny_up (n_slots (by assumption) (by assumption) X B (by k_mem) ?_) (Nat.le_of_ble_eq_true rfl) (Nat.le_of_ble_eq_true rfl); intro h' tk' F' N'; k_sweep)
    | ((with_reducible show wpAny _ _ (List.anyM _ (List.filter _ _)) _ _ _); refine n_anyDel (congrArg pure delObj_is) ?_)
    | ((with_reducible show wpAny _ _ (Builtin.Slots.givesWeak _) _ _ _); refine n_gw ?_)
    | ((with_reducible show wpAny _ _ (Builtin.Slots.givesDict _) _ _ _); refine n_gd ?_)
    | ((with_reducible show wpAny _ _ (Bind.madeBy _) _ _ _); refine n_mb ?_)
    | ((with_reducible show wpAny _ _ (ite ((_ == sysModules) = true) _ _) _ _ _); refine n_iteB (by assumption) (by k_mem) B ?_)
    | ((with_reducible show wpAny _ _ (specialOf _ _) _ _ _); refine n_spDict (by assumption) (by k_mem) tl_iter ?_)
    | (with_reducible refine wpAny_bind ?_) | (with_reducible refine nd_bind ?_) | (with_reducible refine wpAny_holding ?_) | (with_reducible refine wpAny_onRaise ?_) | (with_reducible refine wpAny_standAt ?_)
    | ((with_reducible show wpAny _ _ (Sem.load _ _ _) _ _ _); refine n_load (by assumption) (by k_mem) ?_)
    | ((with_reducible show wpAny _ _ (Sem.update _ _ _ _) _ _ _); refine n_update (by assumption) (by assumption) (by k_upd) rfl rfl ?_; intro h' F' N'; k_sweep)
    | (with_reducible refine nd_pure ?_) | (with_reducible refine wpAny_pure ?_)
    | (k_node)
    | (refine n_iteF (by kernel_rfl) ?_) | (refine n_iteT (by kernel_rfl) ?_))
  rename Fr _ _ _ _ => FF
  rename News _ _ _ _ => NN
  have N2 : News h₀ L h' ((kc, ⟨.type "type", none, .cls { name := Str.ofString "K", bases := [.type "object"], mro := [.ref kc, .type "object"], ns := nk, qualname := Str.ofString "cmp_to_key.<locals>.K" }, #[some (.ref bT), none, some (.str (Str.ofString "K") t), some (.str (Str.ofString "cmp_to_key.<locals>.K") tq), some (.builtin "object.__new__")]⟩) ::
      (nk, dictOf (kE2 w.params md (.str (Str.ofString "cmp_to_key.<locals>.K") tq) fl tt lS sa f1 f2 f3 f4 f5 f6) 1) ::
      (ns, dictOf (kEs w.params md (.str (Str.ofString "cmp_to_key.<locals>.K") tq) fl tt lS sa f1 f2 f3 f4 f5 f6) n) :: (bT, ⟨.type "tuple", none, .seq #[.type "object"] 0, #[]⟩) :: (lS, ⟨.type "list", none, .seq #[.str (Str.ofString "obj") t'] 0, #[]⟩) :: rest) := Eq.mp (by kernel_rfl) NN
  refine n_refresh (N2.get (.head _)) (N2.get (.tail _ (.head _))) ?_
  clear NN
  refine wpAny_bind ?_
  refine n_install (kc := kc) (nk := nk) (bT := bT) (t := t) (tq := tq) FF N2 hnkc.symm hr2 hr3 ?_
  clear FF N2
  intro dm h3 tk3 t1 t2 F' N' m1 m2 m3
  have m1 : @LT.lt Nat _ kc dm := m1
  have m2 : @LT.lt Nat _ nk dm := m2
  have m4 : @LT.lt Nat _ ns dm := m3 _ (.head _)
  have m5 : @LT.lt Nat _ bT dm := m3 _ (.tail _ (.head _))
  have m6 : @LT.lt Nat _ lS dm := m3 _ (.tail _ (.tail _ (.head _)))
  have m7 : ∀ p ∈ rest, p.1 ≠ dm := fun p hp => Nat.ne_of_lt (m3 p (.tail _ (.tail _ (.tail _ hp))))
  refine wpAny_bind ?_
  refine n_gw ?_
  repeat' ((fail_if_success (with_reducible show wpAny _ _ (forIn _ _ _) _ _ _)); (fail_if_success (with_reducible show wpAny _ _ (noteSubclassOfBuiltin _ _) _ _ _)); first
    | ((with_reducible show wpAny _ _ (Builtin.Slots.read _ _ _) _ _ _); refine wpAny_up (n_slots (by assumption) (by assumption) X B (by k_mem) ?_) (Nat.le_of_ble_eq_true rfl) (Nat.le_of_ble_eq_true rfl); intro h' tk' F' N'; k_sweep)
    | ((with_reducible show wpAny _ _ (List.anyM _ (List.filter _ _)) _ _ _); refine n_anyDel (congrArg pure delObj_is) ?_)
    | ((with_reducible show wpAny _ _ (Builtin.Slots.givesWeak _) _ _ _); refine n_gw ?_)
    | ((with_reducible show wpAny _ _ (Builtin.Slots.givesDict _) _ _ _); refine n_gd ?_)
    | ((with_reducible show wpAny _ _ (Bind.madeBy _) _ _ _); refine n_mb ?_)
    | ((with_reducible show wpAny _ _ (ite ((_ == sysModules) = true) _ _) _ _ _); refine n_iteB (by assumption) (by k_mem) B ?_)
    | ((with_reducible show wpAny _ _ (specialOf _ _) _ _ _); refine n_spDict (by assumption) (by k_mem) tl_iter ?_)
    | (with_reducible refine wpAny_bind ?_) | (with_reducible refine nd_bind ?_) | (with_reducible refine wpAny_holding ?_) | (with_reducible refine wpAny_onRaise ?_) | (with_reducible refine wpAny_standAt ?_)
    | ((with_reducible show wpAny _ _ (Sem.load _ _ _) _ _ _); refine n_load (by assumption) (by k_mem) ?_)
    | ((with_reducible show wpAny _ _ (Sem.update _ _ _ _) _ _ _); refine n_update (by assumption) (by assumption) (by k_upd) rfl rfl ?_; intro h' F' N'; k_sweep)
    | (with_reducible refine nd_pure ?_) | (with_reducible refine wpAny_pure ?_)
    | (k_node)
    | (refine n_iteF (by kernel_rfl) ?_) | (refine n_iteT (by kernel_rfl) ?_))
  refine n_for1 (x := .type "object") (by rfl) ?_
  dsimp only
  refine wpAny_bind (n_eqP note_is ?_)
  refine wpAny_pure ?_
  dsimp only
  rename Fr _ _ _ _ => FF
  rename News _ _ _ _ => NN
  have N3 : News h₀ L h' ((dm, ⟨.type "member_descriptor", none, .fields #[.str (Str.ofString "obj") t1, .ref kc, .builtin "proto.slot", .builtin "proto.slot#set", rawInt 0], #[]⟩) :: (kc, kObj3 kc nk bT t tq) ::
      (nk, dictOf (kE3 w.params md (.str (Str.ofString "cmp_to_key.<locals>.K") tq) fl tt lS sa f1 f2 f3 f4 f5 f6 dm t2 tk3) 3) ::
      (ns, dictOf (kEs w.params md (.str (Str.ofString "cmp_to_key.<locals>.K") tq) fl tt lS sa f1 f2 f3 f4 f5 f6) n) :: (bT, ⟨.type "tuple", none, .seq #[.type "object"] 0, #[]⟩) :: (lS, ⟨.type "list", none, .seq #[.str (Str.ofString "obj") t'] 0, #[]⟩) :: rest) := Eq.mp (by kernel_rfl) NN
  clear NN
  have pv : ∀ {f : Addr} {ty : String}, FnIn rest ty f → (ty = "list" ∨ ty = "function" ∨ ty = "tuple" ∨ ty = "member_descriptor") → PV h' (.ref f) := fun ⟨o, hm, hc⟩ ht => .ref (N3.get (.tail _ (.tail _ (.tail _ (.tail _ (.tail _ (.tail _ hm))))))) hc ht
  have hvals := kE3_vals (P := w.params) (qn := .str (Str.ofString "cmp_to_key.<locals>.K") tq) (t := tt) (t1 := t2) (t2 := tk3) (h := h') (md := md) (fl := fl) (lS := lS) (dm := dm) (by obtain ⟨x, t, e⟩ := hmd; rw [e]; exact .str x t) (by obtain ⟨x, t, e⟩ := hfl; rw [e]; exact .int x t)
    (.ref (N3.get (.tail _ (.tail _ (.tail _ (.tail _ (.tail _ (.head _))))))) rfl (.inl rfl)) (pv hf1 (.inr (.inl rfl))) (pv hf2 (.inr (.inl rfl))) (pv hf3 (.inr (.inl rfl))) (pv hf4 (.inr (.inl rfl))) (pv hf5 (.inr (.inl rfl))) (pv hf6 (.inr (.inl rfl))) (pv hsa (.inr (.inr (.inl rfl)))) (.ref (N3.get (.head _)) rfl (.inr (.inr (.inr rfl))))
  refine wpAny_bind (wpAny_tryCatch (wpAny_holding (wpAny_bind (wpAny_dictEntries (N3.get (.tail _ (.tail _ (.head _)))) rfl (wpAny_bind ?_)))))
  refine n_forSame (l := kE3 w.params md (.str (Str.ofString "cmp_to_key.<locals>.K") tq) fl tt lS sa f1 f2 f3 f4 f5 f6 dm t2 tk3) rfl (fun e he Q hQ => ?_) ?_
  · obtain ⟨k, t9, hk⟩ := strKey_of (kE3_keys e he)
    rw [hk]
    k_extra "k19"
  rw [if_neg (by decide)]
  refine wpAny_bind (wpAny_dictEntries (N3.get (.tail _ (.tail _ (.head _)))) rfl (wpAny_bind ?_))
  refine n_forSame (l := kE3 w.params md (.str (Str.ofString "cmp_to_key.<locals>.K") tq) fl tt lS sa f1 f2 f3 f4 f5 f6 dm t2 tk3) rfl (fun e he Q hQ => ?_) ?_
  · obtain ⟨k, t9, hk⟩ := strKey_of (kE3_keys e he)
    have hv := hvals e he
    rw [hk, n_laid hv, if_neg (by decide)]
    refine wpAny_bind (n_setName hv ?_)
    k_extra "k19"
  refine wpAny_bind ?_
  refine wpAny_up (x_super3 (kx_in (X.keeps FF.keep) fun p hp => FF.keep _ _ (B p hp)) (N3.get (.tail _ (.head _))) fun q h4 tk4 D4 => ?_) (Nat.le_of_ble_eq_true rfl) (Nat.le_of_ble_eq_true rfl)
  obtain ⟨F4, N4⟩ := mem_led D4 FF N3
  have l4 := mem_ne D4 N3
  clear D4 FF N3 hvals pv
  refine wpAny_bind (wpAny_holding ?_)
  refine wpAny_up (n_getIS F4 X B (news_front (news_front N4 (.tail _ (.tail _ (.head _)))) (.tail _ (.head _))) fun q2 h5 tk5 F5 N5 l5 => ?_) (Nat.le_of_ble_eq_true rfl) (Nat.le_of_ble_eq_true rfl)
  refine wpAny_bind ?_
  refine wpAny_up (x_isub (kx_in (X.keeps F5.keep) fun p hp => F5.keep _ _ (B p hp)) (N5.get (.head _)) (N5.get (.tail _ (.tail _ (.head _)))) ?_) (Nat.le_of_ble_eq_true rfl) (Nat.le_of_ble_eq_true rfl)
  refine wpAny_pure (wpAny_pure ?_)
  exact hQ kc nk dm t1 t2 tk3 h5 tk5 F5 (news_sub N5 fun p hp => .tail _ (.tail _ (.tail _ (.tail _ hp)))) fun p hp => ⟨hr2 p hp, hr3 p hp, Nat.ne_of_lt (m3 p hp)⟩
end
section --Tc
open PySem PySem.W PySem.Spec PySem.Calls PyProof.Rows PySem.W.X
noncomputable def tcT (b n : Addr) (t : Tok) : Sem PySem.Fin := callAny (.type "type") ⟨[.str (Str.ofString "K") t, .ref b, .ref n], []⟩
noncomputable def tdT (b n : Addr) (t : Tok) : Sem PySem.Fin := Builtin.«type.__call__» ⟨[.type "type", .str (Str.ofString "K") t, .ref b, .ref n], []⟩
noncomputable def teT (b n : Addr) (t : Tok) : Sem Unit := checkBuiltinCall "type.__new__" ⟨[.type "type", .str (Str.ofString "K") t, .ref b, .ref n], []⟩
noncomputable def tfT (k b n : Addr) (t : Tok) : Sem Unit := checkBuiltinCall "type.__init__" ⟨[.ref k, .str (Str.ofString "K") t, .ref b, .ref n], []⟩
noncomputable def tgT (k b n : Addr) (t : Tok) : Sem PySem.Fin := Builtin.«type.__init__» ⟨[.ref k, .str (Str.ofString "K") t, .ref b, .ref n], []⟩
theorem tcT_id : tcT = tcT := rfl
theorem tdT_id : tdT = tdT := rfl
theorem teT_id : teT = teT := rfl
theorem tfT_id : tfT = tfT := rfl
theorem tgT_id : tgT = tgT := rfl
name_quick tcQ for Mine.tcT by Mine.tcT_id
name_quick tdQ for Mine.tdT by Mine.tdT_id
name_quick teQ for Mine.teT by Mine.teT_id
name_quick tfQ for Mine.tfT by Mine.tfT_id
name_quick tgQ for Mine.tgT by Mine.tgT_id
theorem entry_tcall : entryFor table "type.__call__" = some Builtin.«type.__call__» := entryFor_of_tree (by kernel_rfl)
theorem entry_tinit : entryFor table "type.__init__" = some Builtin.«type.__init__» := entryFor_of_tree (by kernel_rfl)
theorem n_mkcls {w : World} {h₀ : Heap} {L : Addr} {m : Str → Option Value} {l : List Env} {gd : Option (List Code)} {R : Result → Shared → Prop} {s : Shared} {rest : List (Addr × Obj)} {md fl : Value} {tt : _root_.Fin 12 → Nat} {ns bT lS sa f1 f2 f3 f4 f5 f6 : Addr} {n : Nat} {t t' tq : Tok}
    (F : Fr h₀ L s.heap m) (X : (Mine.hd0.heap_1 w.params).In h₀) (B : Boot w h₀) (hmd : ∃ x t, md = .str x t) (hfl : ∃ i t, fl = .int i t) (hf1 : FnIn rest "function" f1) (hf2 : FnIn rest "function" f2) (hf3 : FnIn rest "function" f3) (hf4 : FnIn rest "function" f4) (hf5 : FnIn rest "function" f5) (hf6 : FnIn rest "function" f6) (hsa : FnIn rest "tuple" sa)
    (N : News h₀ L s.heap ((ns, dictOf (kEs w.params md (.str (Str.ofString "cmp_to_key.<locals>.K") tq) fl tt lS sa f1 f2 f3 f4 f5 f6) n) :: (bT, ⟨.type "tuple", none, .seq #[.type "object"] 0, #[]⟩) :: (lS, ⟨.type "list", none, .seq #[.str (Str.ofString "obj") t'] 0, #[]⟩) :: rest))
    (hQ : ∀ kc nk dm t1 t2 t3 h' tk, Fr h₀ L h' m → News h₀ L h' ((dm, ⟨.type "member_descriptor", none, .fields #[.str (Str.ofString "obj") t1, .ref kc, .builtin "proto.slot", .builtin "proto.slot#set", rawInt 0], #[]⟩) :: (kc, kObj3 kc nk bT t tq) ::
      (nk, dictOf (kE3 w.params md (.str (Str.ofString "cmp_to_key.<locals>.K") tq) fl tt lS sa f1 f2 f3 f4 f5 f6 dm t2 t3) 3) ::
      (ns, dictOf (kEs w.params md (.str (Str.ofString "cmp_to_key.<locals>.K") tq) fl tt lS sa f1 f2 f3 f4 f5 f6) n) :: (bT, ⟨.type "tuple", none, .seq #[.type "object"] 0, #[]⟩) :: (lS, ⟨.type "list", none, .seq #[.str (Str.ofString "obj") t'] 0, #[]⟩) :: rest) → (∀ p ∈ ((ns, dictOf (kEs w.params md (.str (Str.ofString "cmp_to_key.<locals>.K") tq) fl tt lS sa f1 f2 f3 f4 f5 f6) n) :: (bT, (⟨.type "tuple", none, .seq #[.type "object"] 0, #[]⟩ : Obj)) :: (lS, ⟨.type "list", none, .seq #[.str (Str.ofString "obj") t'] 0, #[]⟩) :: rest), p.1 ≠ kc ∧ p.1 ≠ nk ∧ p.1 ≠ dm) → R (.ok (.ret (.ref kc))) { s with heap := h', toks := tk }) :
    codeAny (model PySem.Challenge.rw_mr0378_01.row.prog w) { handled := none, depth := 450, frames := some l, guards := gd, units := 900 } (.call (.type "type") ⟨[.str (Str.ofString "K") t, .ref bT, .ref ns], []⟩) R s := by
  refine codeAny_of_tree ?_
  show wpAny _ _ (tcT bT ns t) _ _ _
  rw [PySem.W.Fast.tcQ_eq]
  refine r_pure (a := .again (.builtin "type.__call__" ⟨[.type "type", .str (Str.ofString "K") t, .ref bT, .ref ns], []⟩)) (by kernel_rfl) ⟨by kernel_rfl, codeAny_builtin entry_tcall ?_⟩
  show wpAny _ _ (tdT bT ns t) _ _ _
  rw [PySem.W.Fast.tdQ_eq]
  refine r_call (c := .call (.builtin "type.__new__") ⟨[.type "type", .str (Str.ofString "K") t, .ref bT, .ref ns], []⟩) (by kernel_rfl) (codeAny_call_builtin_code (by kernel_rfl) ?_)
  show wpAny _ _ (teT bT ns t) _ _ _
  rw [PySem.W.Fast.teQ_eq]
  refine r_pure (a := ()) (by kernel_rfl) ?_
  refine codeAny_up (mkType F X B hmd hfl hf1 hf2 hf3 hf4 hf5 hf6 hsa N fun kc nk dm t1 t2 t3 h' tk F' N' hx => ?_) (Nat.le_of_ble_eq_true rfl) (Nat.le_of_ble_eq_true rfl)
  refine r_load (a := kc) (by kernel_rfl) (N'.get (.tail _ (.head _))) ?_
  refine r_load (a := kc) (by kernel_rfl) (N'.get (.tail _ (.head _))) ?_
  refine r_call (c := .call (.builtin "type.__init__") ⟨[.ref kc, .str (Str.ofString "K") t, .ref bT, .ref ns], []⟩) (by kernel_rfl) (codeAny_call_builtin_code (by kernel_rfl) ?_)
  show wpAny _ _ (tfT kc bT ns t) _ _ _
  rw [PySem.W.Fast.tfQ_eq]
  refine r_load (a := kc) (by kernel_rfl) (N'.get (.tail _ (.head _))) ?_
  refine r_pure (a := ()) (by kernel_rfl) (codeAny_builtin entry_tinit ?_)
  show wpAny _ _ (tgT kc bT ns t) _ _ _
  rw [PySem.W.Fast.tgQ_eq]
  refine r_pure (a := .done (.ret .none)) (by kernel_rfl) ?_
  dsimp only
  refine r_pure (a := .done (.ret (.ref kc))) (by kernel_rfl) ?_
  exact hQ kc nk dm t1 t2 t3 h' tk F' N' hx
end
section --Kc
open PySem PySem.W PySem.Spec PySem.Calls PyProof.Rows PySem.W.X
noncomputable abbrev dmO (kc : Addr) (t1 : Tok) : Obj := ⟨.type "member_descriptor", none, .fields #[.str (Str.ofString "obj") t1, .ref kc, .builtin "proto.slot", .builtin "proto.slot#set", rawInt 0], #[]⟩
noncomputable def knA (k : Addr) (v : Value) : Sem PySem.Fin := callAny (.ref k) ⟨[v], []⟩
theorem knA_id : knA = knA := rfl
name_quick knAQ for Mine.knA by Mine.knA_id
noncomputable def knB (k : Addr) (v : Value) : Sem Unit := checkBuiltinCall "object.__new__" ⟨[.ref k, v], []⟩
theorem knB_id : knB = knB := rfl
name_quick knBQ for Mine.knB by Mine.knB_id
noncomputable def knC (k : Addr) (v : Value) : Sem PySem.Fin := Builtin.«object.__new__» ⟨[.ref k, v], []⟩
theorem knC_id : knC = knC := rfl
name_quick knCQ for Mine.knC by Mine.knC_id
noncomputable def knD (q : Addr) : Sem Value := getAttr (.ref q) (Str.ofString "obj") true
theorem knD_id : knD = knD := rfl
name_quick knDQ for Mine.knD by Mine.knD_id
noncomputable def knE (q : Addr) (v : Value) : Sem Unit := setAttr (.ref q) (Str.ofString "obj") v
theorem knE_id : knE = knE := rfl
name_quick knEQ for Mine.knE by Mine.knE_id
noncomputable def knF (q : Addr) (t : Tok) : Sem PySem.Fin := Builtin.«proto.getattr_hooked» ⟨[.ref q, .str (Str.ofString "obj") t], []⟩
theorem knF_id : knF = knF := rfl
name_quick knFQ for Mine.knF by Mine.knF_id
noncomputable def knG (q : Addr) (t : Tok) (v : Value) : Sem Unit := checkBuiltinCall "object.__setattr__" ⟨[.ref q, .str (Str.ofString "obj") t, v], []⟩
theorem knG_id : knG = knG := rfl
name_quick knGQ for Mine.knG by Mine.knG_id
noncomputable def knH (q : Addr) (t : Tok) (v : Value) : Sem PySem.Fin := Builtin.«object.__setattr__» ⟨[.ref q, .str (Str.ofString "obj") t, v], []⟩
theorem knH_id : knH = knH := rfl
name_quick knHQ for Mine.knH by Mine.knH_id
noncomputable def knI (dm q kc : Addr) : Sem Unit := checkBuiltinCall "member_descriptor.__get__" ⟨[.ref dm, .ref q, .ref kc], []⟩
theorem knI_id : knI = knI := rfl
name_quick knIQ for Mine.knI by Mine.knI_id
noncomputable def knJ (dm q kc : Addr) : Sem PySem.Fin := Builtin.«member_descriptor.__get__» ⟨[.ref dm, .ref q, .ref kc], []⟩
theorem knJ_id : knJ = knJ := rfl
name_quick knJQ for Mine.knJ by Mine.knJ_id
noncomputable def knK (dm q : Addr) (v : Value) : Sem Unit := checkBuiltinCall "member_descriptor.__set__" ⟨[.ref dm, .ref q, v], []⟩
theorem knK_id : knK = knK := rfl
name_quick knKQ for Mine.knK by Mine.knK_id
noncomputable def knM (dm q : Addr) (v : Value) : Sem PySem.Fin := Builtin.«member_descriptor.__set__» ⟨[.ref dm, .ref q, v], []⟩
theorem knM_id : knM = knM := rfl
name_quick knMQ for Mine.knM by Mine.knM_id
noncomputable def knN (q dm : Addr) : Sem PySem.Fin := Builtin.«proto.slot» ⟨[.ref q, .ref dm], []⟩
theorem knN_id : knN = knN := rfl
name_quick knNQ for Mine.knN by Mine.knN_id
noncomputable def knO (q dm : Addr) (v : Value) : Sem PySem.Fin := Builtin.«proto.slot#set» ⟨[.ref q, v, .ref dm], []⟩
theorem knO_id : knO = knO := rfl
name_quick knOQ for Mine.knO by Mine.knO_id
theorem entry_gh : entryFor table "proto.getattr_hooked" = some Builtin.«proto.getattr_hooked» := entryFor_of_tree (by kernel_rfl)
theorem entry_sa : entryFor table "object.__setattr__" = some Builtin.«object.__setattr__» := entryFor_of_tree (by kernel_rfl)
theorem entry_onew : entryFor table "object.__new__" = some Builtin.«object.__new__» := entryFor_of_tree (by kernel_rfl)
theorem entry_mdg : entryFor table "member_descriptor.__get__" = some Builtin.«member_descriptor.__get__» := entryFor_of_tree (by kernel_rfl)
theorem entry_mds : entryFor table "member_descriptor.__set__" = some Builtin.«member_descriptor.__set__» := entryFor_of_tree (by kernel_rfl)
theorem entry_psl : entryFor table "proto.slot" = some Builtin.«proto.slot» := entryFor_of_tree (by kernel_rfl)
theorem entry_pss : entryFor table "proto.slot#set" = some Builtin.«proto.slot#set» := entryFor_of_tree (by kernel_rfl)
noncomputable abbrev instO (kc d : Addr) (v : Value) : Obj := ⟨.ref kc, some d, .plain, #[some v]⟩
noncomputable abbrev instO0 (kc d : Addr) : Obj := ⟨.ref kc, some d, .plain, #[]⟩
theorem mro_has (kc : Addr) : List.contains [Value.ref kc, .type "object"] (Value.ref kc) = true := by simp
section
local macro_rules | `(tactic| walk_at "peel9") => `(tactic| k_extra "w84d1f")
variable {prog : Program} {w : World} {A : Around} {s : Shared} {h₀ : Heap} {L : Addr} {m : Str → Option Value} {news : List (Addr × Obj)} {kc nk bT dm q d : Addr} {t tq t1 : Tok} {v : Value} {E : Value → Shared → Prop}
theorem n_isInst {o : Obj} {Q : Bool → Shared → Prop} (N : News h₀ L s.heap news) (hq : (q, o) ∈ news) (hk : (kc, kObj3 kc nk bT t tq) ∈ news) (ho : o.cls = .ref kc) (h : Q true s) : wpAny (model prog w) A (isInstance (.ref q) (.ref kc)) Q E s := by
  unfold isInstance
  refine wpAny_bind (wpAny_bind (m := load q) (wpAny_load (N.get hq) (wpAny_pure ?_)))
  rw [ho]
  have hd := hk
  unfold isSubtype
  repeat' ((fail_if_success (with_reducible show wpAny _ _ (Pure.pure (List.contains _ _)) _ _ _)); first
    | (with_reducible refine wpAny_bind ?_) | (with_reducible refine nd_bind ?_)
    | ((with_reducible show wpAny _ _ (Sem.load _ _ _) _ _ _); refine n_load N hk ?_)
    | (with_reducible refine nd_pure ?_) | (with_reducible refine wpAny_pure ?_)
    | k_node)
  refine n_eqP (a := true) (congrArg pure (mro_has kc)) h
theorem n_mdGet {Q : PySem.Fin → Shared → Prop} (N : News h₀ L s.heap news) (hk : (kc, kObj3 kc nk bT t tq) ∈ news) (hd : (dm, dmO kc t1) ∈ news) (hq : (q, instO kc d v) ∈ news)
    (h : Q (.again (.builtin "proto.slot" ⟨[.ref q, .ref dm], []⟩)) s) : wpAny (model prog w) A (Builtin.«member_descriptor.__get__» ⟨[.ref dm, .ref q, .ref kc], []⟩) Q E s := by
  unfold Builtin.«member_descriptor.__get__» Builtin.Getset_descriptor.descrGet Builtin.Getset_descriptor.descrGetter Builtin.Getset_descriptor.descrCheckInstance
  walk_at "peel9"
  exact h
theorem n_mdSet {Q : PySem.Fin → Shared → Prop} (N : News h₀ L s.heap news) (hk : (kc, kObj3 kc nk bT t tq) ∈ news) (hd : (dm, dmO kc t1) ∈ news) (hq : (q, instO0 kc d) ∈ news)
    (h : Q (.again (.builtin "proto.slot#set" ⟨[.ref q, v, .ref dm], []⟩)) s) : wpAny (model prog w) A (Builtin.«member_descriptor.__set__» ⟨[.ref dm, .ref q, v], []⟩) Q E s := by
  unfold Builtin.«member_descriptor.__set__» Builtin.Getset_descriptor.descrSet Builtin.Getset_descriptor.descrStoreThrough Builtin.Getset_descriptor.descrCheckInstance
  walk_at "peel9"
  exact h
end
section
variable {prog : Program} {w : World} {A : Around} {s : Shared} {h₀ : Heap} {L : Addr} {m : Str → Option Value} {news news' : List (Addr × Obj)} {kc nk bT dm lS sa f1 f2 f3 f4 f5 f6 q d : Addr} {t tq t1 t2 t3 : Tok} {md fl qn v : Value} {tt : _root_.Fin 12 → Nat}
theorem n_getD {E : Value → Shared → Prop} {Q : Value → Shared → Prop} (F : Fr h₀ L s.heap m) (X : (Mine.hd0.heap_1 w.params).In h₀) (N : News h₀ L s.heap news) (hk : (kc, kObj3 kc nk bT t tq) ∈ news) (hn : (nk, dictOf (kE3 w.params md qn fl tt lS sa f1 f2 f3 f4 f5 f6 dm t2 t3) 3) ∈ news) (hd : (dm, dmO kc t1) ∈ news) {x : Int} {tx : Tok} (hq : (q, instO kc d (.int x tx)) ∈ news) (hQ : ∀ tk, Q (.int x tx) { s with toks := tk }) : wpAny (model prog w) A (knD q) Q E s := by
  rw [PySem.W.Fast.knDQ_eq]
  with_reducible refine r_fresh (by kernel_rfl) ?_
  with_reducible refine r_load (a := q) (by kernel_rfl) (N.get hq) ?_
  with_reducible refine r_load (a := kc) (by kernel_rfl) (N.get hk) ?_
  with_reducible refine r_load (a := kc) (by kernel_rfl) (N.get hk) ?_
  with_reducible refine r_load (a := nk) (by kernel_rfl) (N.get hn) ?_
  with_reducible refine r_call (c := .builtin "proto.getattr_hooked" ⟨[.ref q, .str (Str.ofString "obj") s.toks], []⟩) (by kernel_rfl) (codeAny_builtin entry_gh ?_)
  show wpAny _ _ (knF q s.toks) _ _ _
  rw [PySem.W.Fast.knFQ_eq]
  with_reducible refine r_load (a := q) (by kernel_rfl) (N.get hq) ?_
  with_reducible refine r_load (a := kc) (by kernel_rfl) (N.get hk) ?_
  with_reducible refine r_load (a := kc) (by kernel_rfl) (N.get hk) ?_
  with_reducible refine r_load (a := nk) (by kernel_rfl) (N.get hn) ?_
  with_reducible refine r_load (a := dm) (by kernel_rfl) (N.get hd) ?_
  with_reducible refine r_load (a := dm) (by kernel_rfl) (N.get hd) ?_
  with_reducible refine r_load (a := kc) (by kernel_rfl) (N.get hk) ?_
  with_reducible refine r_load (a := kc) (by kernel_rfl) (N.get hk) ?_
  with_reducible refine r_load (a := nk) (by kernel_rfl) (N.get hn) ?_
  with_reducible refine r_call (c := .call (.builtin "member_descriptor.__get__") ⟨[.ref dm, .ref q, .ref kc], []⟩) (by kernel_rfl) (codeAny_call_builtin_code (by kernel_rfl) ?_)
  show wpAny _ _ (knI dm q kc) _ _ _
  rw [PySem.W.Fast.knIQ_eq]
  with_reducible refine r_load (a := dm) (by kernel_rfl) (N.get hd) ?_
  with_reducible refine r_pure (a := ()) (by kernel_rfl) ?_
  refine (codeAny_builtin entry_mdg ?_)
  refine n_mdGet N hk hd hq ⟨by kernel_rfl, codeAny_builtin entry_psl ?_⟩
  show wpAny _ _ (knN q dm) _ _ _
  rw [PySem.W.Fast.knNQ_eq]
  with_reducible refine r_load (a := dm) (by kernel_rfl) (N.get hd) ?_
  with_reducible refine r_load (a := dm) (by kernel_rfl) (N.get hd) ?_
  with_reducible refine r_load (a := q) (by kernel_rfl) (N.get hq) ?_
  with_reducible refine r_load (a := kc) (by kernel_rfl) (N.get hk) ?_
  with_reducible refine r_load (a := q) (by kernel_rfl) (N.get hq) ?_
  with_reducible refine r_pure (a := .done (.ret (.int x tx))) (by kernel_rfl) ?_
  dsimp only
  skip
  with_reducible refine r_pure (a := .done (.ret (.int x tx))) (by kernel_rfl) ?_
  dsimp only
  skip
  with_reducible refine r_pure (a := .int x tx) (by kernel_rfl) ?_
  exact (hQ _)
theorem n_setE {E : Value → Shared → Prop} {Q : Unit → Shared → Prop} (F : Fr h₀ L s.heap m) (X : (Mine.hd0.heap_1 w.params).In h₀) (N : News h₀ L s.heap news) (hk : (kc, kObj3 kc nk bT t tq) ∈ news) (hn : (nk, dictOf (kE3 w.params md qn fl tt lS sa f1 f2 f3 f4 f5 f6 dm t2 t3) 3) ∈ news) (hd : (dm, dmO kc t1) ∈ news) (hq : (q, instO0 kc d) ∈ news) (U : Upd q (instO0 kc d) (instO kc d v) news news') (hQ : ∀ h' tk, Fr h₀ L h' m → News h₀ L h' news' → Q () { s with heap := h', toks := tk }) : wpAny (model prog w) A (knE q v) Q E s := by
  rw [PySem.W.Fast.knEQ_eq]
  with_reducible refine r_fresh (by kernel_rfl) ?_
  with_reducible refine r_load (a := q) (by kernel_rfl) (N.get hq) ?_
  with_reducible refine r_load (a := kc) (by kernel_rfl) (N.get hk) ?_
  with_reducible refine r_load (a := kc) (by kernel_rfl) (N.get hk) ?_
  with_reducible refine r_load (a := nk) (by kernel_rfl) (N.get hn) ?_
  with_reducible refine r_call (c := .call (.builtin "object.__setattr__") ⟨[.ref q, .str (Str.ofString "obj") s.toks, v], []⟩) (by kernel_rfl) (codeAny_call_builtin_code (by kernel_rfl) ?_)
  show wpAny _ _ (knG q s.toks v) _ _ _
  rw [PySem.W.Fast.knGQ_eq]
  with_reducible refine r_load (a := q) (by kernel_rfl) (N.get hq) ?_
  with_reducible refine r_load (a := kc) (by kernel_rfl) (N.get hk) ?_
  with_reducible refine r_pure (a := ()) (by kernel_rfl) ?_
  refine (codeAny_builtin entry_sa ?_)
  show wpAny _ _ (knH q s.toks v) _ _ _
  rw [PySem.W.Fast.knHQ_eq]
  with_reducible refine r_load (a := q) (by kernel_rfl) (N.get hq) ?_
  with_reducible refine r_load (a := kc) (by kernel_rfl) (N.get hk) ?_
  with_reducible refine r_load (a := q) (by kernel_rfl) (N.get hq) ?_
  with_reducible refine r_load (a := kc) (by kernel_rfl) (N.get hk) ?_
  with_reducible refine r_load (a := kc) (by kernel_rfl) (N.get hk) ?_
  with_reducible refine r_load (a := nk) (by kernel_rfl) (N.get hn) ?_
  with_reducible refine r_load (a := dm) (by kernel_rfl) (N.get hd) ?_
  with_reducible refine r_load (a := dm) (by kernel_rfl) (N.get hd) ?_
  with_reducible refine r_call (c := .call (.builtin "member_descriptor.__set__") ⟨[.ref dm, .ref q, v], []⟩) (by kernel_rfl) (codeAny_call_builtin_code (by kernel_rfl) ?_)
  show wpAny _ _ (knK dm q v) _ _ _
  rw [PySem.W.Fast.knKQ_eq]
  with_reducible refine r_load (a := dm) (by kernel_rfl) (N.get hd) ?_
  with_reducible refine r_pure (a := ()) (by kernel_rfl) ?_
  refine (codeAny_builtin entry_mds ?_)
  refine n_mdSet N hk hd hq ⟨by kernel_rfl, codeAny_builtin entry_pss ?_⟩
  show wpAny _ _ (knO q dm v) _ _ _
  rw [PySem.W.Fast.knOQ_eq]
  with_reducible refine r_load (a := dm) (by kernel_rfl) (N.get hd) ?_
  with_reducible refine r_load (a := dm) (by kernel_rfl) (N.get hd) ?_
  with_reducible refine r_load (a := q) (by kernel_rfl) (N.get hq) ?_
  with_reducible refine r_load (a := kc) (by kernel_rfl) (N.get hk) ?_
  with_reducible refine r_update (d := q) (o := instO0 kc d) (o' := instO kc d v) (by kernel_rfl) F N U (by kernel_rfl) rfl fun h' F' N' => ?_
  skip
  with_reducible refine r_pure (a := .done (.ret .none)) (by kernel_rfl) ?_
  dsimp only
  skip
  with_reducible refine r_pure (a := .done (.ret .none)) (by kernel_rfl) ?_
  dsimp only
  skip
  with_reducible refine r_pure (a := ()) (by kernel_rfl) ?_
  exact (hQ _ _ F' N')
end
end
section --Kd
open PySem PySem.W PySem.Spec PySem.Calls PyProof.Rows PySem.W.X
noncomputable def knP (k : Addr) : Sem (Option String) := Bind.madeBy (.ref k)
theorem knP_id : knP = knP := rfl
name_quick knPQ for Mine.knP by Mine.knP_id
noncomputable def knQ (q : Addr) (v : Value) : Sem (Option Value) := callSpecial? (.ref q) (Str.ofString "__init__") [v] []
theorem knQ_id : knQ = knQ := rfl
name_quick knQQ for Mine.knQ by Mine.knQ_id
noncomputable def knR (k : Addr) (v : Value) : Sem Unit := checkBuiltinCall "type.__call__" ⟨[.ref k, v], []⟩
theorem knR_id : knR = knR := rfl
name_quick knRQ for Mine.knR by Mine.knR_id
section
variable {prog : Program} {w : World} {A : Around} {s : Shared} {h₀ : Heap} {L : Addr} {m : Str → Option Value} {news : List (Addr × Obj)} {kc nk bT dm lS sa f1 f2 f3 f4 f5 f6 q d : Addr} {t tq t1 t2 t3 : Tok} {md fl qn v : Value} {tt : _root_.Fin 12 → Nat} {fd1 : FuncData}
theorem n_madeK {E : Value → Shared → Prop} {Q : Option String → Shared → Prop} (F : Fr h₀ L s.heap m) (X : (Mine.hd0.heap_1 w.params).In h₀) (N : News h₀ L s.heap news) (hk : (kc, kObj3 kc nk bT t tq) ∈ news) (hn : (nk, dictOf (kE3 w.params md qn fl tt lS sa f1 f2 f3 f4 f5 f6 dm t2 t3) 3) ∈ news)
    (h : Q (some "object.__new__") s) : wpAny (model prog w) A (Bind.madeBy (.ref kc)) Q E s := by
  show wpAny _ _ (knP kc) _ _ _
  rw [PySem.W.Fast.knPQ_eq]
  with_reducible refine r_load (a := kc) (by kernel_rfl) (N.get hk) ?_
  with_reducible refine r_load (a := kc) (by kernel_rfl) (N.get hk) ?_
  with_reducible exact r_pure (by kernel_rfl) h
theorem n_initK {E : Value → Shared → Prop} {Q : Option Value → Shared → Prop} (F : Fr h₀ L s.heap m) (X : (Mine.hd0.heap_1 w.params).In h₀) (N : News h₀ L s.heap news) (hk : (kc, kObj3 kc nk bT t tq) ∈ news) (hn : (nk, dictOf (kE3 w.params md qn fl tt lS sa f1 f2 f3 f4 f5 f6 dm t2 t3) 3) ∈ news) (hf1 : (f1, (⟨.type "function", none, .func fd1, #[]⟩ : Obj)) ∈ news) (hq : (q, instO0 kc d) ∈ news)
    {P : Shared → Prop} (h : ∀ R : Result → Shared → Prop, (∀ s', P s' → R (.ok (.ret .none)) s') → codeAny (model prog w) (A.mark none) (.call (.ref f1) ⟨[.ref q, v], []⟩) R s) (hQ : ∀ s', P s' → Q (some .none) s') : wpAny (model prog w) A (callSpecial? (.ref q) (Str.ofString "__init__") [v] []) Q E s := by
  show wpAny _ _ (knQ q v) _ _ _
  rw [PySem.W.Fast.knQQ_eq]
  with_reducible refine r_load (a := q) (by kernel_rfl) (N.get hq) ?_
  with_reducible refine r_load (a := kc) (by kernel_rfl) (N.get hk) ?_
  with_reducible refine r_load (a := kc) (by kernel_rfl) (N.get hk) ?_
  with_reducible refine r_load (a := nk) (by kernel_rfl) (N.get hn) ?_
  with_reducible refine r_load (a := f1) (by kernel_rfl) (N.get hf1) ?_
  with_reducible refine r_call (c := .call (.ref f1) ⟨[.ref q, v], []⟩) (by kernel_rfl) (h _ fun s' hs => ?_)
  with_reducible refine r_pure (a := some .none) (by kernel_rfl) ?_
  exact (hQ s' hs)
theorem n_newK {R : Result → Shared → Prop} (F : Fr h₀ L s.heap m) (X : (Mine.hd0.heap_1 w.params).In h₀) (N : News h₀ L s.heap news) (hk : (kc, kObj3 kc nk bT t tq) ∈ news) (hn : (nk, dictOf (kE3 w.params md qn fl tt lS sa f1 f2 f3 f4 f5 f6 dm t2 t3) 3) ∈ news) (hf1 : (f1, (⟨.type "function", none, .func fd1, #[]⟩ : Obj)) ∈ news)
    (h : ∀ d q h', Fr h₀ L h' m → News h₀ L h' ((q, instO0 kc d) :: (d, dictOf [] 0) :: news) → (∀ p ∈ (d, dictOf [] 0) :: news, p.1 < q) → (∀ p ∈ news, p.1 < d) → R (.ok (.ret (.ref q))) { s with heap := h' }) : codeAny (model prog w) A (.call (.builtin "object.__new__") ⟨[.ref kc, v], []⟩) R s := by
  refine codeAny_call_builtin_code (by kernel_rfl) ?_
  show wpAny _ _ (knB kc v) _ _ _
  rw [PySem.W.Fast.knBQ_eq]
  with_reducible refine r_load (a := kc) (by kernel_rfl) (N.get hk) ?_
  with_reducible refine r_load (a := kc) (by kernel_rfl) (N.get hk) ?_
  with_reducible refine r_load (a := kc) (by kernel_rfl) (N.get hk) ?_
  with_reducible refine r_load (a := kc) (by kernel_rfl) (N.get hk) ?_
  with_reducible refine r_load (a := kc) (by kernel_rfl) (N.get hk) ?_
  with_reducible refine r_load (a := kc) (by kernel_rfl) (N.get hk) ?_
  with_reducible refine r_load (a := kc) (by kernel_rfl) (N.get hk) ?_
  with_reducible refine r_pure (a := ()) (by kernel_rfl) ?_
  refine (codeAny_builtin entry_onew ?_)
  show wpAny _ _ (knC kc v) _ _ _
  rw [PySem.W.Fast.knCQ_eq]
  with_reducible refine r_load (a := kc) (by kernel_rfl) (N.get hk) ?_
  with_reducible refine r_load (a := kc) (by kernel_rfl) (N.get hk) ?_
  with_reducible refine r_load (a := kc) (by kernel_rfl) (N.get hk) ?_
  with_reducible refine r_load (a := kc) (by kernel_rfl) (N.get hk) ?_
  with_reducible refine r_load (a := kc) (by kernel_rfl) (N.get hk) ?_
  with_reducible refine r_load (a := kc) (by kernel_rfl) (N.get hk) ?_
  with_reducible refine r_load (a := kc) (by kernel_rfl) (N.get hk) ?_
  with_reducible refine r_load (a := kc) (by kernel_rfl) (N.get hk) ?_
  with_reducible refine r_load (a := kc) (by kernel_rfl) (N.get hk) ?_
  with_reducible refine r_load (a := kc) (by kernel_rfl) (N.get hk) ?_
  with_reducible refine r_load (a := nk) (by kernel_rfl) (N.get hn) ?_
  with_reducible refine r_load (a := kc) (by kernel_rfl) (N.get hk) ?_
  with_reducible refine r_alloc (o := dictOf [] 0) (by kernel_rfl) F N rfl fun d h1 F1 N1 l1 => ?_
  with_reducible refine r_alloc (o := instO0 kc d) (by kernel_rfl) F1 N1 rfl fun q h2 F2 N2 l2 => ?_
  with_reducible refine r_load (a := kc) (by kernel_rfl) (N2.get (List.Mem.tail _ (List.Mem.tail _ hk))) ?_
  with_reducible refine r_pure (a := .done (.ret (.ref q))) (by kernel_rfl) ?_
  exact h d q h2 F2 N2 l2 l1
theorem n_ckK {E : Value → Shared → Prop} {Q : Unit → Shared → Prop} (F : Fr h₀ L s.heap m) (X : (Mine.hd0.heap_1 w.params).In h₀) (N : News h₀ L s.heap news) (hk : (kc, kObj3 kc nk bT t tq) ∈ news) (h : Q () s) : wpAny (model prog w) A (checkBuiltinCall "type.__call__" ⟨[.ref kc, v], []⟩) Q E s := by
  show wpAny _ _ (knR kc v) _ _ _
  rw [PySem.W.Fast.knRQ_eq]
  with_reducible refine r_load (a := kc) (by kernel_rfl) (N.get hk) ?_
  with_reducible exact r_pure (by kernel_rfl) h
theorem n_callA {E : Value → Shared → Prop} {Q : PySem.Fin → Shared → Prop} (F : Fr h₀ L s.heap m) (X : (Mine.hd0.heap_1 w.params).In h₀) (N : News h₀ L s.heap news) (hk : (kc, kObj3 kc nk bT t tq) ∈ news) (h : Q (.again (.call (.builtin "type.__call__") ⟨[.ref kc, v], []⟩)) s) : wpAny (model prog w) A (callAny (.ref kc) ⟨[v], []⟩) Q E s := by
  show wpAny _ _ (knA kc v) _ _ _
  rw [PySem.W.Fast.knAQ_eq]
  with_reducible refine r_load (a := kc) (by kernel_rfl) (N.get hk) ?_
  with_reducible refine r_load (a := kc) (by kernel_rfl) (N.get hk) ?_
  with_reducible exact r_pure (by kernel_rfl) h
theorem n_kcall {R : Result → Shared → Prop} (F : Fr h₀ L s.heap m) (X : (Mine.hd0.heap_1 w.params).In h₀) (N : News h₀ L s.heap news) (hk : (kc, kObj3 kc nk bT t tq) ∈ news) (hn : (nk, dictOf (kE3 w.params md qn fl tt lS sa f1 f2 f3 f4 f5 f6 dm t2 t3) 3) ∈ news) (hf1 : (f1, (⟨.type "function", none, .func fd1, #[]⟩ : Obj)) ∈ news)
    (h : ∀ d q h', Fr h₀ L h' m → News h₀ L h' ((q, instO0 kc d) :: (d, dictOf [] 0) :: news) → (∀ p ∈ (d, dictOf [] 0) :: news, p.1 < q) → (∀ p ∈ news, p.1 < d) →
      ∃ P : Shared → Prop, (∀ R : Result → Shared → Prop, (∀ s', P s' → R (.ok (.ret .none)) s') → codeAny (model prog w) ((A.under (Code.builtin "type.__call__" ⟨[.ref kc, v], []⟩)).mark none) (.call (.ref f1) ⟨[.ref q, v], []⟩) R { s with heap := h' }) ∧ ∀ s', P s' → R (.ok (.ret (.ref q))) s') :
    codeAny (model prog w) A (.call (.ref kc) ⟨[v], []⟩) R s := by
  refine codeAny_of_tree ?_
  refine n_callA F X N hk ⟨by kernel_rfl, codeAny_call_builtin_code (by kernel_rfl) (n_ckK F X N hk (codeAny_builtin entry_tcall ?_))⟩
  unfold Builtin.«type.__call__»
  have hd := hk
  have hq := hk
  repeat' ((fail_if_success (with_reducible show wpAny _ _ (Bind.madeBy _) _ _ _)); first
    | (with_reducible refine wpAny_bind ?_) | (with_reducible refine nd_bind ?_) | (with_reducible refine wpAny_holding ?_) | (with_reducible refine wpAny_onRaise ?_) | (with_reducible refine wpAny_standAt ?_)
    | ((with_reducible show wpAny _ _ (Sem.load _ _ _) _ _ _); refine n_load N hk ?_)
    | (with_reducible refine nd_pure ?_) | (with_reducible refine wpAny_pure ?_)
    | k_node)
  refine n_madeK F X N hk hn ?_
  repeat' ((fail_if_success (with_reducible show wpAny _ _ (call _ _ _) _ _ _)); first
    | (with_reducible refine wpAny_bind ?_) | (with_reducible refine nd_bind ?_) | (with_reducible refine wpAny_holding ?_) | (with_reducible refine wpAny_onRaise ?_) | (with_reducible refine wpAny_standAt ?_)
    | (with_reducible refine nd_pure ?_) | (with_reducible refine wpAny_pure ?_)
    | k_node)
  refine wpAny_call (n_newK F X N hk hn hf1 fun d q h' F' N' l1 l2 => ?_)
  obtain ⟨P, hc, hP⟩ := h d q h' F' N' l1 l2
  clear hq hd
  have hk' : (kc, kObj3 kc nk bT t tq) ∈ (q, instO0 kc d) :: (d, dictOf [] 0) :: news := .tail _ (.tail _ hk)
  have hn' : (nk, dictOf (kE3 w.params md qn fl tt lS sa f1 f2 f3 f4 f5 f6 dm t2 t3) 3) ∈ (q, instO0 kc d) :: (d, dictOf [] 0) :: news := .tail _ (.tail _ hn)
  dsimp only
  refine wpAny_bind ?_
  refine n_isInst (s := { s with heap := h' }) (o := instO0 kc d) N' (.head _) hk' rfl ?_
  refine n_iteF rfl ?_
  refine wpAny_bind (wpAny_holding ?_)
  refine n_initK (s := { s with heap := h' }) (d := d) F' X N' hk' hn' (.tail _ (.tail _ hf1)) (.head _) hc fun s' hs => ?_
  dsimp only
  refine n_iteF rfl ?_
  exact wpAny_pure (hP s' hs)
end
end
section --Ke
open PySem PySem.W PySem.Spec PySem.Calls PyProof.Rows PySem.W.X
noncomputable def knU (q : Addr) : Sem (Option Value) := specialOf (.ref q) (Str.ofString "__lt__")
noncomputable def knV (f q : Addr) : Sem (Value × List Value) := bindSpecial (.ref f) (.ref q)
theorem knU_id : knU = knU := rfl
theorem knV_id : knV = knV := rfl
name_quick knUQ for Mine.knU by Mine.knU_id
name_quick knVQ for Mine.knV by Mine.knV_id
section
variable {prog : Program} {w : World} {A : Around} {s : Shared} {h₀ : Heap} {L : Addr} {m : Str → Option Value} {news : List (Addr × Obj)} {kc nk bT dm lS sa f1 f2 f3 f4 f5 f6 q d r : Addr} {t tq t1 t2 t3 : Tok} {md fl qn v : Value} {tt : _root_.Fin 12 → Nat} {fd2 : FuncData}
theorem n_spLt {E : Value → Shared → Prop} {Q : Option Value → Shared → Prop} (N : News h₀ L s.heap news) (hk : (kc, kObj3 kc nk bT t tq) ∈ news) (hn : (nk, dictOf (kE3 w.params md qn fl tt lS sa f1 f2 f3 f4 f5 f6 dm t2 t3) 3) ∈ news) (hq : (q, instO kc d v) ∈ news) (h : Q (some (.ref f2)) s) : wpAny (model prog w) A (specialOf (.ref q) (Str.ofString "__lt__")) Q E s := by
  show wpAny _ _ (knU q) _ _ _
  rw [PySem.W.Fast.knUQ_eq]
  refine r_load (a := q) (by kernel_rfl) (N.get hq) ?_
  refine r_load (a := kc) (by kernel_rfl) (N.get hk) ?_
  refine r_load (a := kc) (by kernel_rfl) (N.get hk) ?_
  refine r_load (a := nk) (by kernel_rfl) (N.get hn) ?_
  exact r_pure (by kernel_rfl) h
theorem n_bsF {E : Value → Shared → Prop} {Q : Value × List Value → Shared → Prop} (N : News h₀ L s.heap news) (hf2 : (f2, (⟨.type "function", none, .func fd2, #[]⟩ : Obj)) ∈ news) (h : Q (.ref f2, [.ref q]) s) : wpAny (model prog w) A (bindSpecial (.ref f2) (.ref q)) Q E s := by
  show wpAny _ _ (knV f2 q) _ _ _
  rw [PySem.W.Fast.knVQ_eq]
  refine r_load (a := f2) (by kernel_rfl) (N.get hf2) ?_
  exact r_pure (by kernel_rfl) h
theorem n_ltB {E : Value → Shared → Prop} {Q : Option Value → Shared → Prop} (N : News h₀ L s.heap news) (hk : (kc, kObj3 kc nk bT t tq) ∈ news) (hn : (nk, dictOf (kE3 w.params md qn fl tt lS sa f1 f2 f3 f4 f5 f6 dm t2 t3) 3) ∈ news) (hf2 : (f2, (⟨.type "function", none, .func fd2, #[]⟩ : Obj)) ∈ news) (hq : (q, instO kc d v) ∈ news)
    (h : wpAny (model prog w) A (call (.ref f2) [.ref q, .ref r]) (fun v => Q (some v)) E s) : wpAny (model prog w) A (callSpecialIfBound? (.ref q) (Str.ofString "__lt__") [.ref r]) Q E s := by
  simp only [callSpecialIfBound?, bindSpecialIfBound?]
  refine wpAny_holding (wpAny_bind (wpAny_bind (n_spLt N hk hn hq ?_)))
  refine wpAny_bind (wpAny_askSetting (wpAny_ite ?_))
  have fin : wpAny (model prog w) A (call (.ref f2) ([.ref q] ++ [.ref r]) >>= fun v => pure (some v)) Q E s := wpAny_bind (wpAny_mono h (fun v s' h' => wpAny_pure h') fun _ _ h' => h')
  split
  · exact wpAny_bind (n_bsF N hf2 (wpAny_pure (by exact fin)))
  · exact wpAny_tryCatch (wpAny_bind (n_bsF N hf2 (wpAny_pure (by exact fin))))
theorem n_ltask {E : Value → Shared → Prop} {Q : Bool → Shared → Prop} (hu : A.units < cLine) (N : News h₀ L s.heap news) (hk : (kc, kObj3 kc nk bT t tq) ∈ news) (hn : (nk, dictOf (kE3 w.params md qn fl tt lS sa f1 f2 f3 f4 f5 f6 dm t2 t3) 3) ∈ news) (hf2 : (f2, (⟨.type "function", none, .func fd2, #[]⟩ : Obj)) ∈ news) (hq : (q, instO kc d v) ∈ news)
    (h : wpAny (model prog w) A (call (.ref f2) [.ref q, .ref r]) (PySem.W.BoolBack Q) E s) : wpAny (model prog w) A (keyLt' oneType' (.ref q) (.ref r)) Q E s := by
  rw [keyLt'_oneType, oneLt'_eq]
  simp only [if_true]
  refine wpAny_bind (wpAny_cRoomFor hu ?_)
  refine wpAny_bind (n_ltB N hk hn hf2 hq (wpAny_mono h (fun v s' hv => ?_) fun _ _ e => e))
  cases v <;> first | exact hv.elim | skip
  exact wpAny_truthy_bool hv
end
end
section --Pz
open PySem PySem.W PySem.Calls PyProof.Rows PySem.W.X PySem.W.XRun
local macro_rules | `(tactic| x_close) => `(tactic| k_extra "wf00ae")
theorem x_prepZ : ∀ {w : World} {l : List Env} {gd : Option (List Code)} {s : Shared} {t : Tok} {Q : Value → Shared → Prop} {E : Value → Shared → Prop} (KX : (KX2 w.params).In s.heap)
    (hQ : ∀ q h tk, Mem s.heap h [] [(q, ⟨.type "builtin_function_or_method", none, .fields #[.builtin "type.__prepare__", .type "type"], #[]⟩)] → Q (.ref q) ⟨h, s.gens, s.drawn, tk, s.os⟩),
    wpAny (model PySem.Challenge.rw_mr0378_01.row.prog w) (Amx l gd) (call (.builtin "type.__getattribute__") [.type "type", .str (Str.ofString "__prepare__") t]) Q E s := by
  w_top off
  k_fill
  intro w l gd s t Q E KX hQ
  x_run
end
section --Kg
open PySem PySem.W PySem.Spec PySem.Calls PyProof.Rows PySem.W.X
structure Here (w : World) (loose : List Str) (mean : ExcName → Option Value) (mg mb : Str → Option Value) (cs : Scope) (outer : List Env) (A₀ : Around) (base h₀ : Heap) (L : Addr) (m : Str → Option Value) (news : List (Addr × Obj)) (h : Heap) : Prop where
  B : Below A₀ base outer h₀
  F : Fr h₀ L h m
  X : (Mine.hd0.heap_1 w.params).In h₀
  BO : Boot w h₀
  N : News h₀ L h news
  T : Top topProg loose mean mg mb h₀
  hk : cs.kind = .function
noncomputable def CmpC (w : World) (loose : List Str) (mean : ExcName → Option Value) (mg mb : Str → Option Value) (f : Addr) (L1 : List (Addr × Obj)) (cmp : Int → Int → Int) : Prop :=
  ∀ (gd : Option (List Code)) (cn : Str) (cs : Scope) (a : Addr) (ccd : Value) (cl : List (Str × Addr)) (outer : List Env) (A₀ : Around) (base h₀ : Heap) (L : Addr) (m : Str → Option Value) (news : List (Addr × Obj)) (s : Shared) (Q E : Value → Shared → Prop) (x y : Int) (tx ty : Tok),
    Here w loose mean mg mb cs outer A₀ base h₀ L m news s.heap → (∀ p ∈ L1, p ∈ news) → 0 ≤ x → x ≤ 6 → 0 ≤ y → y ≤ 6 →
    (∀ h' tk tv, Fr h₀ L h' m → News h₀ L h' news → Q (.int (cmp x y) tv) { s with heap := h', toks := tk }) →
    wpAny (model PySem.Challenge.rw_mr0378_01.row.prog w) (ktrTop 410 700 gd cn cs L a ccd cl outer) (call (.ref f) [.int x tx, .int y ty]) Q E s
noncomputable def KiC (w : World) (loose : List Str) (mean : ExcName → Option Value) (mg mb : Str → Option Value) (kc : Addr) (L0 : List (Addr × Obj)) : Prop :=
  ∀ (gd : Option (List Code)) (cn : Str) (cs : Scope) (a : Addr) (ccd : Value) (cl : List (Str × Addr)) (outer : List Env) (A₀ : Around) (base h₀ : Heap) (L : Addr) (m : Str → Option Value) (news : List (Addr × Obj)) (s : Shared) (Q E : Value → Shared → Prop) (v : Value),
    Here w loose mean mg mb cs outer A₀ base h₀ L m news s.heap → (∀ p ∈ L0, p ∈ news) →
    (∀ q d h' tk, Fr h₀ L h' m → News h₀ L h' ((q, instO kc d v) :: (d, dictOf [] 0) :: news) → (∀ p ∈ (d, dictOf [] 0) :: news, p.1 < q) → (∀ p ∈ news, p.1 < d) → Q (.ref q) { s with heap := h', toks := tk }) →
    wpAny (model PySem.Challenge.rw_mr0378_01.row.prog w) (ktrTop 405 600 gd cn cs L a ccd cl outer) (call (.ref kc) [v]) Q E s
noncomputable def KltC (w : World) (loose : List Str) (mean : ExcName → Option Value) (mg mb : Str → Option Value) (kc f : Addr) (L0 : List (Addr × Obj)) : Prop :=
  ∀ (gd : Option (List Code)) (cn : Str) (cs : Scope) (a : Addr) (ccd : Value) (cl : List (Str × Addr)) (outer : List Env) (A₀ : Around) (base h₀ : Heap) (L : Addr) (m : Str → Option Value) (news : List (Addr × Obj)) (s : Shared) (Q : Bool → Shared → Prop) (E : Value → Shared → Prop) (q r d d' : Addr) (x y : Int) (tx ty : Tok) (L1 : List (Addr × Obj)) (cmp : Int → Int → Int),
    Here w loose mean mg mb cs outer A₀ base h₀ L m news s.heap → (∀ p ∈ L0, p ∈ news) → CmpC w loose mean mg mb f L1 cmp → (∀ p ∈ L1, p ∈ news) → (∃ oc od fd sl, (f, (⟨oc, od, .func fd, sl⟩ : Obj)) ∈ L1) → 0 ≤ x → x ≤ 6 → 0 ≤ y → y ≤ 6 → (q, instO kc d (.int x tx)) ∈ news → (r, instO kc d' (.int y ty)) ∈ news →
    (∀ h' tk, Fr h₀ L h' m → News h₀ L h' news → Q (decide (cmp x y < 0)) { s with heap := h', toks := tk }) →
    wpAny (model PySem.Challenge.rw_mr0378_01.row.prog w) (ktrTop 405 600 gd cn cs L a ccd cl outer) (keyLt' oneType' (.ref q) (.ref r)) Q E s
theorem news_app {h₀ h : Heap} {L : Addr} {l l' : List (Addr × Obj)} (N : News h₀ L h l) (hs : ∀ p ∈ l', p ∈ l) : News h₀ L h (l' ++ l) := fun p hp => (List.mem_append.mp hp).elim (fun k => N p (hs p k)) (N p)
end
section --La
noncomputable def lawParts : List Stmt × Scope := match PySem.Challenge.pw_mr0378_01.main.body.getD 14 (Stmt.Pass default) with
  | .FunctionDef _ _ body _ _ _ scope _ _ _ => (body, scope)
  | _ => ([], default)
noncomputable def lawStmt (n : Nat) : Stmt := lawParts.1.getD n (Stmt.Pass default)
noncomputable def lawScope : Scope := lawParts.2
noncomputable abbrev lawEnv (L a ck cr cm : Addr) : Env := envX (Str.ofString "law") lawScope L a (.ref 285) [(Str.ofString "mult", cm), (Str.ofString "row", cr), (Str.ofString "key", ck)]
noncomputable def addP (l : List Int) (x : Int) : List Int := if l.contains x = true then l else l ++ [x]
noncomputable def rowsT (st : List Int × List Int × List Int) (i : Nat) (x : Int) : List Int × List Int × List Int :=
  if i % 3 = 0 then (addP st.1 (x % 7), st.2.1, st.2.2) else if i % 3 = 1 then (st.1, addP st.2.1 (x % 7), st.2.2) else (st.1, st.2.1, addP st.2.2 (x % 7))
noncomputable def rowsF (ks : List Int) : Nat → List Int × List Int × List Int
  | 0 => ([], [], [])
  | n + 1 => rowsT (rowsF ks n) n (ks.getD n 0)
theorem addP_len {l : List Int} {x : Int} : (addP l x).length ≤ l.length + 1 := by
  unfold addP
  split
  · omega
  · simp
theorem rowsF_len (ks : List Int) : ∀ n, (rowsF ks n).1.length ≤ n ∧ (rowsF ks n).2.1.length ≤ n ∧ (rowsF ks n).2.2.length ≤ n
  | 0 => ⟨Nat.le_refl _, Nat.le_refl _, Nat.le_refl _⟩
  | n + 1 => by
    obtain ⟨a, b, c⟩ := rowsF_len ks n
    have e1 := addP_len (l := (rowsF ks n).1) (x := ks.getD n 0 % 7)
    have e2 := addP_len (l := (rowsF ks n).2.1) (x := ks.getD n 0 % 7)
    have e3 := addP_len (l := (rowsF ks n).2.2) (x := ks.getD n 0 % 7)
    show (rowsT (rowsF ks n) n _).1.length ≤ _ ∧ (rowsT (rowsF ks n) n _).2.1.length ≤ _ ∧ (rowsT (rowsF ks n) n _).2.2.length ≤ _
    unfold rowsT
    split
    · exact ⟨by dsimp only; omega, by dsimp only; omega, by dsimp only; omega⟩
    · split
      · exact ⟨by dsimp only; omega, by dsimp only; omega, by dsimp only; omega⟩
      · exact ⟨by dsimp only; omega, by dsimp only; omega, by dsimp only; omega⟩
theorem ints_snoc {vs : List Value} {ms : List Int} (h : IntsAre vs ms) (n : Int) (t : Tok) : IntsAre (vs ++ [.int n t]) (ms ++ [n]) := by
  induction h with
  | nil => exact .cons n t .nil
  | cons a u _ ih => exact .cons a u ih
noncomputable abbrev objO {h₀ h : Heap} {L a : Addr} {o : Obj} {l : List (Addr × Obj)} (_ : News h₀ L h ((a, o) :: l)) : Obj := o
end
section --Jl
noncomputable abbrev firstO {h₀ h : Heap} {L a : Addr} {o : Obj} {l : List (Addr × Obj)} (_ : News h₀ L h ((a, o) :: l)) : Obj := o
noncomputable abbrev firstA {h₀ h : Heap} {L a : Addr} {o : Obj} {l : List (Addr × Obj)} (_ : News h₀ L h ((a, o) :: l)) : Addr := a
noncomputable def JL (g : Heap) (L1 l : Addr) (x : Str) (m8 : Str → Option Value) (fx : List (Addr × Obj)) (P : List Value → List (Addr × Obj) → Prop) (s : Shared) (f : Flow) (s' : Shared) : Prop :=
  f = .next ∧ ∃ (h' : Heap) (tk : Nat) (vs : List Value) (n : Nat) (rest : List (Addr × Obj)) (m' : Str → Option Value), s' = { s with heap := h', toks := tk } ∧ Fr g L1 h' m' ∧ (∀ z, z ≠ x → m' z = m8 z) ∧ News g L1 h' ((l, PySem.W.listOf vs.toArray n) :: (fx ++ rest)) ∧ P vs rest
theorem fr_name {g h : Heap} {L : Addr} {x : Str} {m' m8 : Str → Option Value} (F : Fr g L h m') (H : ∀ z, z ≠ x → m' z = m8 z) : Fr g L h (fun y => if y = x then m' y else m8 y) := by
  have : (fun y => if y = x then m' y else m8 y) = m' := by
    funext y
    split
    · rfl
    · rename_i h; exact (H y h).symm
  rw [this]; exact F
theorem jl {M : Model} {A : Around} {E : Value → Shared → Prop} {s : Shared} {Q : Flow → Shared → Prop} {t : Sem Flow} {g : Heap} {L1 l : Addr} {m8 : Str → Option Value} (x : Str) {fx : List (Addr × Obj)} {P : List Value → List (Addr × Obj) → Prop} (_F : Fr g L1 s.heap m8)
    (h1 : wpAny M A t (JL g L1 l x m8 fx P s) E s)
    (h2 : ∀ (h' : Heap) (tk : Nat) (vs : List Value) (n : Nat) (rest : List (Addr × Obj)) (u : Str → Option Value), Fr g L1 h' (fun y => if y = x then u y else m8 y) → News g L1 h' ((l, PySem.W.listOf vs.toArray n) :: (fx ++ rest)) → P vs rest → Q .next { s with heap := h', toks := tk }) :
    wpAny M A t Q E s :=
  wpAny_mono h1 (fun f s' hj => by obtain ⟨hf, h', tk, vs, n, rest, m', hs, hj⟩ := hj; subst hf; subst hs; exact h2 h' tk vs n rest m' (fr_name hj.1 hj.2.1) hj.2.2.1 hj.2.2.2) fun _ _ x => x
theorem execs_two {M : Model} {A : Around} {E : Value → Shared → Prop} {env : Env} {s : Shared} {Q : Flow → Shared → Prop} {a b : Stmt} {rest : List Stmt} (h : wpAny M A (execs [a, b] env) (fun f s' => match f with | .next => wpAny M A (execs rest env) Q E s' | f => Q f s') E s) :
    wpAny M A (execs (a :: b :: rest) env) Q E s := by
  intro Γ p hΓ
  have h1 := h Γ p hΓ
  rw [execs_cons, Sem.wp_bind'] at h1 ⊢
  refine Sem.wp_mono _ Γ _ (fun f p' s' h' => ?_) (fun _ _ _ h' => h') _ _ h1
  cases f with
  | next =>
    dsimp only at h' ⊢
    rw [execs_cons, Sem.wp_bind'] at h' ⊢
    refine Sem.wp_mono _ Γ _ (fun f p' s' h' => ?_) (fun _ _ _ h' => h') _ _ h'
    cases f with
    | next => exact h' Γ p' hΓ
    | ret v => exact h'
    | brk => exact h'
    | cont => exact h'
  | ret v => exact h'
  | brk => exact h'
  | cont => exact h'
theorem jl_mem {g : Heap} {L1 l : Addr} {x : Str} {m8 m' : Str → Option Value} {fx : List (Addr × Obj)} {P : List Value → List (Addr × Obj) → Prop} {s : Shared} {h' : Heap} {tk n : Nat} {news' : List (Addr × Obj)} {vs : List Value} {rest : List (Addr × Obj)}
    (F : Fr g L1 h' m') (hm : ∀ z, z ≠ x → m' z = m8 z) (N : News g L1 h' news') (hl : (l, PySem.W.listOf vs.toArray n) ∈ news') (hf : ∀ p ∈ fx, p ∈ news') (hr : ∀ p ∈ rest, p ∈ news') (hP : P vs rest) :
    JL g L1 l x m8 fx P s .next { s with heap := h', toks := tk } := ⟨rfl, h', tk, vs, n, rest, m', rfl, F, hm, news_sub N fun p hp => by
      rcases List.mem_cons.mp hp with rfl | hp
      · exact hl
      · exact (List.mem_append.mp hp).elim (hf p) (hr p), hP⟩
theorem jm_ite {z n : Str} {v r b : Option Value} (h : z ≠ n) (H : r = b) : r = (if z = n then v else b) := H.trans (if_neg h).symm
end
section --Lz
section
variable {prog : Program} {w : World} {A : Around} {E : Value → Shared → Prop} {s : Shared} {h₀ : Heap} {body : List Stmt} {Q : Flow → Shared → Prop} {cn : Str} {cs : Scope} {L a cc : Addr} {ccd : Value} {cl : List (Str × Addr)}
theorem cell_loop {σ : Type} {xi xc : Str} {pk pv pt : Pos} {x1 : Nat} {I : Addr} {fp wr : List Addr} {n : Nat} {Pt : Nat → Array Value → Prop} {St : Nat → Heap → Prop} {Mid : Nat → Addr → Heap → Prop} {P2 : Nat → Value → Value → Prop} {m₀ : Str → Option Value}
    (W : WalksT prog w A I fp wr n Pt St Mid) (h2 : ∀ i vals, Pt i vals → ∃ v0 v1, vals = #[v0, v1] ∧ P2 i v0 v1) (oc : σ → Obj) (rest : σ → List (Addr × Obj)) (ps : σ → List (Str × Value)) (stored : List Str) (P : Nat → σ → Prop) (c₀ : σ)
    (hh : A.handled = none) (hxi : (envX cn cs L a ccd cl).kindOf xi = some .cell) (hlook : cl.lookup xi = some cc) (hkf : cs.kind = .function) (hccw : cc ∉ fp) (hoc : ∀ i c, P i c → (∃ ov, (oc c).data = .cell ov) ∧ ∀ p ∈ rest c, p.1 ≠ cc) (hxc : (envX cn cs L a ccd cl).kindOf xc = some .local)
    (hLf : L ∉ fp) (hex : ∀ i h, St i h → ∀ b ∈ wr, ∃ o, h.get? b = some o) (hwr : ∀ b ∈ wr, h₀.get? b = none) (hnw : ∀ p ∈ ((cc, oc c₀) :: rest c₀), p.1 ∉ wr) (hst : St 0 s.heap)
    (F : Fr h₀ L s.heap m₀) (N : News h₀ L s.heap (((cc, oc c₀) :: rest c₀))) (hk : ∀ p ∈ ps c₀, m₀ p.1 = some p.2) (hP : P 0 c₀)
    (turn : ∀ (c : σ) (i : Nat) v0 v1 (u : Str → Option Value) h tk own o1, i < n → P2 i v0 v1 → P i c → (∀ p ∈ (cc, oc c) :: rest c, p.1 ∉ wr) → (∀ p ∈ own, p.1 ∈ fp) → (∀ b ∈ wr, ∃ o, (b, o) ∈ own) → o1.data = .cell (some v0) →
      Fr h₀ L h (fun y => if y = xc then some v1 else kstB (fun z => if stored.contains z then u z else m₀ z) (ps c) y) → News h₀ L h (own ++ (cc, o1) :: rest c) →
      wpAny (model prog w) A (execs body (envX cn cs L a ccd cl)) (PTurnP h₀ L (xc :: stored) m₀ (fun c => (cc, oc c) :: rest c) ps (P (i + 1)) wr own { s with heap := h, toks := tk } Q) E { s with heap := h, toks := tk })
    (done : ∀ (c : σ) (u : Str → Option Value) h tk, P n c → Fr h₀ L h (kstB (fun z => if (xc :: stored).contains z then u z else m₀ z) (ps c)) → News h₀ L h ((cc, oc c) :: rest c) → Q .next { s with heap := h, toks := tk })
    (hps : ∀ c, ∀ p ∈ ps c, p.1 ≠ xc)
    (hE : PassesOwn (model prog w) A (envX cn cs L a ccd cl) E := by passes_own) :
    codeAny (model prog w) A (.forLoop (.Tuple [.Name xi pk, .Name xc pv] x1 pt) (.ref I) body [] (envX cn cs L a ccd cl)) (fun r s' => match r with | .ok f => Q f s' | .error e => cameBackBy (model prog w) A (envX cn cs L a ccd cl) E e s') s := by
  have hLw : L ∉ wr := fun h => hLf (W.sub _ h)
  refine codeAny_forLoop_any (LpI h₀ L (xc :: stored) m₀ (fun c => (cc, oc c) :: rest c) ps P wr St n s) ?_ (n + 1) ⟨s.heap, s.toks, m₀, 0, c₀, rfl, hst, F, N, hnw, hk, fun _ _ _ => rfl, hP, Nat.zero_le _, rfl⟩
  rintro k s' ⟨H, tk, m', i, c, rfl, hst', F', N', ha', hk', hr', hJ, hi, rfl⟩
  have next := lp_next hLw hwr F' N' ha'
  by_cases hlt : i < n
  · refine W.item i _ _ _ hlt hst' fun T vals h₁ tk₁ hPt _ hT hMid hk₁ => ?_
    obtain ⟨v0, v1, rfl, hP2⟩ := h2 i vals hPt
    refine W.go _ x1 pt i T _ _ _ hMid fun h₂ hst₂ hk₂ => ?_
    have ht₂ : h₂.IsTuple T #[v0, v1] := hT.at fun o e => hk₂ T o (W.apart i T h₁ hMid) e
    refine wpAny_assign_Tuple hh ht₂ rfl rfl fun h₃ hx₃ => ?_
    replace hx₃ : Heap.ExtBut h₂.objs.size h₂ h₃ := hx₃
    have up₃ : ∀ b o, h₂.get? b = some o → h₃.get? b = some o := fun b o x => hx₃ b o (Nat.ne_of_lt (Heap.lt_size x)) x
    obtain ⟨F₃, N₃⟩ := next h₃ fun b o hb x => up₃ b o (hk₂ b o hb (hk₁ b o hb x))
    have hne : ∀ p ∈ rest c, p.1 ≠ cc := (hoc i c hJ).2
    obtain ⟨ov, hov⟩ := (hoc i c hJ).1
    have nc := N₃ (cc, oc c) (.head _)
    show wpAny _ A (do holding [v1] (assign (.Name xi pk) (envX cn cs L a ccd cl) v0); do holding [] (assign (.Name xc pv) (envX cn cs L a ccd cl) v1); pure ()) _ _ _
    refine wpAny_bind (wpAny_holding (wpAny_assign_Name (wpAny_storeName_cell hkf hxi hlook ⟨_, nc.1, hov⟩ fun h₄ hv₄ hs₄ => ?_)))
    obtain ⟨o1, ho1, hd1⟩ := hv₄
    replace hs₄ : Heap.SameBut cc h₃ h₄ := hs₄
    have F₄ : Fr h₀ L h₄ m' := ⟨F₃.ns.sameBut hs₄ (Ne.symm nc.2.1), fun b ob e => (hs₄.2 b (fun q => by rw [q, nc.2.2] at e; cases e)).trans (F₃.keep b ob e), F₃.above⟩
    have N₄ : News h₀ L h₄ ((cc, o1) :: rest c) := fun p hp => by
      rcases List.mem_cons.mp hp with rfl | hp
      · exact ⟨ho1, nc.2⟩
      · exact ⟨(hs₄.2 _ (hne p hp)).trans (N₃ p (.tail _ hp)).1, (N₃ p (.tail _ hp)).2⟩
    refine wpAny_bind (wpAny_holding (wpAny_assign_Name (wpAny_storeName_local hxc F₄.ns (fun h₅ hn₅ hs₅ => wpAny_pure ?_) (by show (cs.kind == .class || (cs.kind == .module && L != mainGlobals)) = false; rw [hkf]; rfl))))
    replace hs₅ : Heap.SameBut L h₄ h₅ := hs₅
    have F₅ := F₄.set hn₅ hs₅
    have N₅ : News h₀ L h₅ ((cc, o1) :: rest c) := N₄.set hs₅
    have hst₅ : St (i + 1) h₅ := W.frame _ _ _ hst₂ fun b hb o e => hs₅.extBut b o (fun q => hLf (q ▸ hb)) (hs₄.extBut b o (fun q => hccw (q ▸ hb)) (up₃ b o e))
    replace F₅ := fr_em1 hk' hr' F₅
    refine wpAny_passesOwn hE (wpAny_mono (turn c i v0 v1 m' h₅ _ (ownOf h₀ fp h₅) o1 hlt hP2 hJ ha' ownOf_sub (fun b hb => let ⟨o, ho⟩ := hex _ _ hst₅ b hb; ⟨o, mem_ownOf (W.sub _ hb) (hwr b hb) ho⟩) hd1 F₅ ((news_ownOf hLf).append N₅)) (fun f s₃ r => ?_) fun _ _ e => e)
    cases f with
    | ret v => exact r
    | brk => exact r
    | next => exact lp_fin W hlt hst₅ F₅ r
    | cont => exact lp_fin W hlt hst₅ F₅ r
  · have hin : i = n := om_eq hi hlt
    subst hin
    refine W.done _ _ _ hst' fun h₁ tk₁ hk₁ => wpAny_execs_nil ?_
    obtain ⟨F₁, N₁⟩ := next h₁ hk₁
    exact done c m' h₁ tk₁ hJ (ksw_fr hk' hr' F₁) N₁
theorem zip_loop {σ : Type} {xi xc : Str} {pk pv pt : Pos} {x1 : Nat} {l1 l2 : Addr} {it1 it2 : Array Value} {nn1 nn2 : Nat} {m₀ : Str → Option Value}
    (oc : σ → Obj) (rest : σ → List (Addr × Obj)) (ps : σ → List (Str × Value)) (stored : List Str) (P : Nat → σ → Prop) (c₀ : σ)
    (hh : A.handled = none) (hxi : (envX cn cs L a ccd cl).kindOf xi = some .cell) (hlook : cl.lookup xi = some cc) (hkf : cs.kind = .function) (hoc : ∀ i c, P i c → (∃ ov, (oc c).data = .cell ov) ∧ ∀ p ∈ rest c, p.1 ≠ cc) (hxc : (envX cn cs L a ccd cl).kindOf xc = some .local)
    (hl1 : (l1, PySem.W.listOf it1 nn1) ∈ rest c₀) (hl2 : (l2, PySem.W.listOf it2 nn2) ∈ rest c₀) (F : Fr h₀ L s.heap m₀) (N : News h₀ L s.heap ((cc, oc c₀) :: rest c₀)) (hk : ∀ p ∈ ps c₀, m₀ p.1 = some p.2) (hP : P 0 c₀) (hps : ∀ c, ∀ p ∈ ps c, p.1 ≠ xc)
    (turn : ∀ (c : σ) (i : Nat) v0 v1 (u : Str → Option Value) h tk own o1 wr, it1[i]? = some v0 → it2[i]? = some v1 → P i c → (∀ p ∈ (cc, oc c) :: rest c, p.1 ∉ wr) → (∀ p ∈ own, p.1 = l1 ∨ p.1 = l2 ∨ ∀ q ∈ (cc, oc c₀) :: rest c₀, p.1 ≠ q.1) → o1.data = .cell (some v0) →
      Fr h₀ L h (fun y => if y = xc then some v1 else kstB (fun z => if stored.contains z then u z else m₀ z) (ps c) y) → News h₀ L h (own ++ (cc, o1) :: rest c) →
      wpAny (model prog w) A (execs body (envX cn cs L a ccd cl)) (PTurnP h₀ L (xc :: stored) m₀ (fun c => (cc, oc c) :: rest c) ps (P (i + 1)) wr own { s with heap := h, toks := tk } Q) E { s with heap := h, toks := tk })
    (done : ∀ (c : σ) (u : Str → Option Value) h tk, P (min it1.size it2.size) c → Fr h₀ L h (kstB (fun z => if (xc :: stored).contains z then u z else m₀ z) (ps c)) → News h₀ L h ((cc, oc c) :: rest c) → Q .next { s with heap := h, toks := tk })
    (hE : PassesOwn (model prog w) A (envX cn cs L a ccd cl) E := by passes_own) :
    wpAny (model prog w) A (call (.type "zip") [.ref l1, .ref l2]) (fun x s₁ => wpAny (model prog w) A (pyIter x) (fun it s₂ => codeAny (model prog w) A (.forLoop (.Tuple [.Name xi pk, .Name xc pv] x1 pt) it body [] (envX cn cs L a ccd cl)) (fun r s' => match r with | .ok f => Q f s' | .error e => cameBackBy (model prog w) A (envX cn cs L a ccd cl) E e s') s₂) E s₁) E s := by
  have hls1 : s.heap.IsList l1 it1 := News.isList N (.tail _ hl1)
  have hls2 : s.heap.IsList l2 it2 := News.isList N (.tail _ hl2)
  have hlt : ∀ p ∈ (cc, oc c₀) :: rest c₀, @LT.lt Nat _ p.1 s.heap.objs.size := fun p hp => Heap.lt_size (N p hp).1
  have hLt : @LT.lt Nat _ L s.heap.objs.size := F.ns.lt
  have q1 := hlt _ (.tail _ hl1)
  have q2 := hlt _ (.tail _ hl2)
  have q3 := hlt _ (.head _)
  dsimp only at q1 q2 q3
  refine call_zip_2 hls1 hls2 fun h' z1 z2 z3 z4 z5 hsz hkp => ?_
  refine wpAny_pyIter_zip z1 ?_
  have hnew : ∀ b : Addr, @LE.le Nat _ s.heap.objs.size b → h₀.get? b = none := fun b hb => by
    cases hq : h₀.get? b with
    | none => rfl
    | some o =>
      have hb2 : @LT.lt Nat _ b s.heap.objs.size := Heap.lt_size (F.keep b o hq)
      exact absurd hb2 (by omega)
  have D : ZipApart (s.heap.objs.size + 4) (s.heap.objs.size + 2) (s.heap.objs.size + 3) s.heap.objs.size (s.heap.objs.size + 1) l1 l2 := by
    constructor <;> (simp only [Addr, ne_eq] at *; omega)
  refine cell_loop (s := { s with heap := h' }) (WalksT.zip2 hh (s.heap.objs.size + 4) (s.heap.objs.size + 2) (s.heap.objs.size + 3) s.heap.objs.size (s.heap.objs.size + 1) l1 l2 D it1 it2)
    (P2 := fun i v0 v1 => it1[i]? = some v0 ∧ it2[i]? = some v1) (fun i vals ⟨x, y, hx, hy, e⟩ => ⟨_, _, e, hx, hy⟩) oc rest ps stored P c₀ hh hxi hlook hkf ?hccw hoc hxc ?hLf ?hex ?hwr ?hnw ⟨z1, z2, ⟨_, _, z3⟩, z4, z5, hls1.at fun o e => hkp _ _ e, hls2.at fun o e => hkp _ _ e⟩ ?F ?N hk hP ?turn done hps hE
  case hccw =>
    intro hm
    simp only [List.mem_cons, List.not_mem_nil, or_false] at hm
    have u1 : l1 ≠ cc := (hoc 0 c₀ hP).2 _ hl1
    have u2 : l2 ≠ cc := (hoc 0 c₀ hP).2 _ hl2
    rcases hm with h | h | h | h | h | h | h
    iterate 5 (· have h : @Eq Nat cc _ := h
                 omega)
    · exact u1 h.symm
    · exact u2 h.symm
  case hLf =>
    intro hm
    simp only [List.mem_cons, List.not_mem_nil, or_false] at hm
    rcases hm with h | h | h | h | h | h | h
    iterate 5 (· have h : @Eq Nat L _ := h
                 omega)
    · exact (N _ (.tail _ hl1)).2.1 h.symm
    · exact (N _ (.tail _ hl2)).2.1 h.symm
  case hex =>
    rintro i h ⟨g1, g2, ⟨x, y, g3⟩, ⟨_, g4, _⟩, ⟨_, g5, _⟩, _⟩ b hb
    simp only [List.mem_cons, List.not_mem_nil, or_false] at hb
    rcases hb with rfl | rfl | rfl | rfl
    · exact ⟨_, g1⟩
    · exact ⟨_, g3⟩
    · exact ⟨_, g4⟩
    · exact ⟨_, g5⟩
  case hwr =>
    intro b hb
    simp only [List.mem_cons, List.not_mem_nil, or_false] at hb
    rcases hb with rfl | rfl | rfl | rfl <;> (refine hnew _ ?_; omega)
  case hnw =>
    intro p hp hm
    have hb := hlt p hp
    simp only [List.mem_cons, List.not_mem_nil, or_false] at hm
    rcases hm with h | h | h | h
    iterate 4 (· have h : @Eq Nat p.1 _ := h
                 omega)
  case F => exact ⟨F.ns.at' fun o e => hkp _ _ e, fun b o e => hkp _ _ (F.keep b o e), F.above⟩
  case N => exact fun p hp => ⟨hkp _ _ (N p hp).1, (N p hp).2⟩
  case turn =>
    rintro c i v0 v1 u h tk own o1 hi ⟨hx, hy⟩ hP' hw hof hex' ho1 F' N'
    refine turn c i v0 v1 u h tk own o1 _ hx hy hP' hw (fun p hp => ?_) ho1 F' N'
    have hm := hof p hp
    simp only [List.mem_cons, List.not_mem_nil, or_false] at hm
    rcases hm with h | h | h | h | h | h | h
    iterate 5 (· exact .inr (.inr fun q hq e => by
                   have hb := hlt q hq
                   have h : @Eq Nat p.1 _ := h
                   have e : @Eq Nat p.1 q.1 := e
                   omega))
    · exact .inl h
    · exact .inr (.inl h)
end
end
section --Lv
section
variable {prog : Program} {w : World} {A : Around} {E : Value → Shared → Prop} {s : Shared} {h₀ : Heap}

theorem turn_two0 (elt t0 t1 i0 i1 ct : Expr) (scope : Scope) (pos : Pos) (it acc : Value) (env : Env) :
    compTurn (.ListComp elt [⟨t0, i0, [], 0⟩, ⟨t1, i1, [ct], 0⟩] scope pos) 0 it acc env = (standAt i0.pos >>= fun _ => pyNext it >>= fun r => match r with
      | none => pure (.done .next)
      | some v => letOwnedTupleGo t0 it v >>= fun _ => assign t0 env v >>= fun _ => eval i1 env >>= fun x => standAt i1.pos >>= fun _ => foldedSetIterable i1 env x >>= fun x =>
        holding [x] (pyIter x) >>= fun it1 => runOwn (.compStart (.ListComp elt [⟨t0, i0, [], 0⟩, ⟨t1, i1, [ct], 0⟩] scope pos) 1 it1 acc env) env >>= fun _ =>
          again (.compLoop (.ListComp elt [⟨t0, i0, [], 0⟩, ⟨t1, i1, [ct], 0⟩] scope pos) 0 it acc env)) := by rfl

theorem turn_two1 (elt t0 t1 i0 i1 ct : Expr) (scope : Scope) (pos : Pos) (it acc : Value) (env : Env) :
    compTurn (.ListComp elt [⟨t0, i0, [], 0⟩, ⟨t1, i1, [ct], 0⟩] scope pos) 1 it acc env = (standAt i1.pos >>= fun _ => pyNext it >>= fun r => match r with
      | none => pure (.done .next)
      | some v => do
        letOwnedTupleGo t1 it v
        assign t1 env v
        let mut ok := true
        for c in [ct] do
          if ok then ok ← isTrue c env (eval c env)
        if ok then
          (do let _ ← call (.builtin "list.append") [acc, ← eval elt env])
        again (.compLoop (.ListComp elt [⟨t0, i0, [], 0⟩, ⟨t1, i1, [ct], 0⟩] scope pos) 1 it acc env)) := by rfl

theorem ints_look {vs : List Value} {ms : List Int} (h : IntsAre vs ms) {j : Nat} {u : Value} (e : vs[j]? = some u) : ∃ k t, u = .int k t ∧ ms[j]? = some k ∧ k ∈ ms := by
  induction h generalizing j with
  | nil => exact absurd e (by simp)
  | cons n t h ih =>
    cases j with
    | zero => exact ⟨n, t, (Option.some.inj e).symm, rfl, .head _⟩
    | succ j =>
      obtain ⟨k, t, h1, h2, h3⟩ := ih e
      exact ⟨k, t, h1, h2, .tail _ h3⟩
theorem loop_two0 {R : Result → Shared → Prop} {elt t0 t1 i0 i1 ct : Expr} {scope : Scope} {pos : Pos} {it acc : Value} {env : Env} (I : Nat → Shared → Prop)
    (turn : ∀ n s (E' : Value → Shared → Prop), I n s → wpAny (model prog w) A (pyNext it) (fun r s₁ => match r with
      | none => R (.ok .next) s₁
      | some v => wpAny (model prog w) A (assign t0 env v) (fun _ s₂ => wpAny (model prog w) A (eval i1 env) (fun x s₃ => wpAny (model prog w) A (pyIter x) (fun it1 s₄ =>
          ∀ E1 : Value → Shared → Prop, codeAny (model prog w) A (.compStart (.ListComp elt [⟨t0, i0, [], 0⟩, ⟨t1, i1, [ct], 0⟩] scope pos) 1 it1 acc env) (fun r s₅ => match r with | .ok _ => ∃ m, m < n ∧ I m s₅ | .error e => E1 e s₅) s₄) E' s₃) E' s₂) E' s₁) E' s)
    (n : Nat) (h : I n s) (ht : ∀ v, letOwnedTupleGo t0 it v = pure () := by intro _; rfl) (hs : ∀ x, foldedSetIterable i1 env x = pure x := by intro _; rfl) :
    codeAny (model prog w) A (.compLoop (.ListComp elt [⟨t0, i0, [], 0⟩, ⟨t1, i1, [ct], 0⟩] scope pos) 0 it acc env) R s := by
  refine codeAny_loop rfl I (fun n s hI => ?_) n h
  show wpAny _ A ((compTurn (.ListComp elt [⟨t0, i0, [], 0⟩, ⟨t1, i1, [ct], 0⟩] scope pos) 0 it acc env).onRaise (fun x => do noteFrame x env; theTreesLotGoes x)) _ _ s
  refine wpAny_noted ?_
  rw [turn_two0]
  refine wpAny_bind (wpAny_standAt (wpAny_bind (wpAny_mono (turn n s _ hI) (fun r s₁ h₁ => ?_) fun _ _ h' => h')))
  cases r with
  | none => exact wpAny_pure h₁
  | some v =>
    refine wpAny_bind (wpAny_of_eq (ht v) ?_)
    refine wpAny_bind (wpAny_mono h₁ (fun _ s₂ h₂ => wpAny_bind (wpAny_mono h₂ (fun x s₃ h₃ => wpAny_bind (wpAny_standAt (wpAny_bind (wpAny_of_eq (hs x) (wpAny_bind (wpAny_holding (wpAny_mono h₃ (fun it1 s₄ h₄ => ?_) fun _ _ h' => h'))))))) fun _ _ h' => h')) fun _ _ h' => h')
    refine wpAny_bind (wpAny_runOwn (codeAny_mono (h₄ (cameBackBy (model prog w) A env (notedBy (model prog w) A env fun e s' => R (.error e) s'))) fun r s₅ h₅ => ?_))
    cases r with
    | ok f => exact wpAny_pure ⟨rfl, h₅⟩
    | error e => exact h₅

theorem loop_two1 {R : Result → Shared → Prop} {elt t0 t1 i0 i1 ct : Expr} {scope : Scope} {pos : Pos} {it acc : Value} {env : Env} (I : Nat → Shared → Prop)
    (turn : ∀ n s (E' : Value → Shared → Prop), I n s → wpAny (model prog w) A (pyNext it) (fun r s₁ => match r with
      | none => R (.ok .next) s₁
      | some v => wpAny (model prog w) A (assign t1 env v) (fun _ s₂ =>
          wpAny (model prog w) A (isTrue ct env (eval ct env)) (fun ok s₃ =>
            if ok = true then wpAny (model prog w) A (eval elt env) (fun x s₄ =>
              wpAny (model prog w) A (call (.builtin "list.append") [acc, x]) (fun _ s₅ => ∃ m, m < n ∧ I m s₅) E' s₄) E' s₃
            else ∃ m, m < n ∧ I m s₃) E' s₂) E' s₁) E' s)
    (n : Nat) (h : I n s) (ht : ∀ v, letOwnedTupleGo t1 it v = pure () := by intro _; rfl) :
    codeAny (model prog w) A (.compLoop (.ListComp elt [⟨t0, i0, [], 0⟩, ⟨t1, i1, [ct], 0⟩] scope pos) 1 it acc env) R s := by
  refine codeAny_loop rfl I (fun n s hI => ?_) n h
  show wpAny _ A ((compTurn (.ListComp elt [⟨t0, i0, [], 0⟩, ⟨t1, i1, [ct], 0⟩] scope pos) 1 it acc env).onRaise (fun x => do noteFrame x env; theTreesLotGoes x)) _ _ s
  refine wpAny_noted ?_
  rw [turn_two1]
  refine wpAny_bind (wpAny_standAt (wpAny_bind (wpAny_mono (turn n s _ hI) (fun r s₁ h₁ => ?_) fun _ _ h' => h')))
  cases r with
  | none => exact wpAny_pure h₁
  | some v =>
    refine wpAny_bind (wpAny_of_eq (ht v) ?_)
    refine wpAny_bind (wpAny_mono h₁ (fun _ s₂ h₂ => wpAny_bind (wpAny_mono (wpAny_tests_one h₂) (fun ok s₃ h₃ => ?_) fun _ _ h' => h')) fun _ _ h' => h')
    cases ok with
    | false => exact wpAny_pure ⟨rfl, h₃⟩
    | true =>
      exact wpAny_bind (wpAny_bind (wpAny_mono h₃ (fun x s₄ h₄ => wpAny_bind (wpAny_mono h₄ (fun _ s₅ h₅ => wpAny_pure (wpAny_pure ⟨rfl, h₅⟩)) fun _ _ h' => h')) fun _ _ h' => h'))

theorem start_two1 {R : Result → Shared → Prop} {elt t0 t1 i0 i1 ct scope pos it acc env}
    (h0 : codeAny (model prog w) A (.compLoop (.ListComp elt [⟨t0, i0, [], 0⟩, ⟨t1, i1, [ct], 0⟩] scope pos) 1 it acc env) R s)
    (h : ∀ E', wpAny (model prog w) A (pyIter it) (fun it' s' => codeAny (model prog w) A (.compLoop (.ListComp elt [⟨t0, i0, [], 0⟩, ⟨t1, i1, [ct], 0⟩] scope pos) 1 it' acc env) R s') E' s) :
    codeAny (model prog w) A (.compStart (.ListComp elt [⟨t0, i0, [], 0⟩, ⟨t1, i1, [ct], 0⟩] scope pos) 1 it acc env) R s := by
  refine codeAny_of_tree ?_
  show wpAny _ _ ((compStart (.ListComp elt [⟨t0, i0, [], 0⟩, ⟨t1, i1, [ct], 0⟩] scope pos) 1 it acc env).onRaise (fun x => do noteFrame x env; standAt theWindowsPlace)) _ _ s
  refine wpAny_notedAt ?_
  unfold compStart
  show wpAny _ _ (ask >>= _) _ _ s
  refine wpAny_bind (wpAny_askSetting (wpAny_ite ?_))
  split
  · first
      | exact wpAny_bind (wpAny_pure (wpAny_pure (And.intro rfl h0)))
      | exact wpAny_pure (And.intro rfl h0)
  · first
      | exact wpAny_bind (wpAny_rule (wpAny_bind (wpAny_standAt (wpAny_bind (wpAny_mono (h _) (fun it' s' h' => wpAny_pure (And.intro rfl h')) fun _ _ x => x)))))
      | (refine wpAny_bind (wpAny_rule ?_); show wpAny _ _ (standAt i1.pos >>= _) _ _ s; exact wpAny_bind (wpAny_standAt (wpAny_bind (wpAny_mono (h _) (fun it' s' h' => wpAny_pure (And.intro rfl h')) fun _ _ x => x))))

noncomputable def CoO (s : Shared) (h₀ : Heap) (L : Addr) (m : Str → Option Value) (news : List (Addr × Obj)) (C D I : Addr) (n : Nat) (ms : List Int) (p : Nat → Int → Bool) (k : Nat) (s' : Shared) : Prop :=
  ∃ h' tk i ys m', s' = { s with heap := h', toks := tk } ∧ i ≤ n ∧ k = n + 1 - i ∧ ys.length ≤ i * 60 ∧ IsRangeIter h' I (0 + ((i : Nat) : Int) * 1) ((n : Int) - (i : Nat)) 1 ∧ Fr h₀ L h' m ∧ h'.Ns C m' ∧ News h₀ L h' ((D, LCg.lst ys) :: news) ∧
        IntsAre ys ((List.range i).flatMap fun i => ms.filter (p i))
noncomputable def CoI (s : Shared) (h₀ : Heap) (L : Addr) (m : Str → Option Value) (news : List (Addr × Obj)) (C D I J ax : Addr) (its : List Value) (n i : Nat) (x : Str) (v : Value) (ms : List Int) (p : Nat → Int → Bool) (k : Nat) (s' : Shared) : Prop :=
  ∃ h' tk j ys m', s' = { s with heap := h', toks := tk } ∧ j ≤ its.toArray.size ∧ k = its.toArray.size + 1 - j ∧ ys.length ≤ i * 60 + j ∧ (h'.IsListIter J ax j ∧ h'.IsList ax its.toArray) ∧ IsRangeIter h' I (0 + ((i + 1 : Nat) : Int) * 1) ((n : Int) - ((i + 1 : Nat) : Int)) 1 ∧
            Fr h₀ L h' m ∧ h'.Ns C m' ∧ m' x = some v ∧ News h₀ L h' ((D, LCg.lst ys) :: news) ∧ IntsAre ys (((List.range i).flatMap fun i => ms.filter (p i)) ++ (ms.take j).filter (p i))
open LCg in
theorem comp2 {elt ct i0 i1 : Expr} {x y : Str} {px py : Pos} {scope : Scope} {cl : List (Str × Addr)} {pos : Pos} {env : Env} {L : Addr} {m : Str → Option Value} {news : List (Addr × Obj)} {Q : Value → Shared → Prop} {ax : Addr} {n na : Nat}
    {its : List Value} {ms : List Int} (p : Nat → Int → Bool)
    (F₀ : Fr h₀ L s.heap m) (N₀ : News h₀ L s.heap news) (hh : A.handled = none) (hclos : closureFor scope env = pure cl) (hcell : ∀ y ∈ scope.names, y.2 ≠ .cell) (hkind : scope.kind = .function)
    (hnames : ∀ y ∈ scope.names, y.2 = .local → scope.names.lookup y.1 = some .local) (hx : scope.names.lookup x = some .local) (hy : scope.names.lookup y = some .local) (hxy : x ≠ y)
    (hm : (ax, PySem.W.listOf its.toArray na) ∈ news) (hints : IntsAre its ms) (hl : its.length ≤ 60) (hn : n ≤ 60)
    (h0 : wpAny (model prog w) A (eval i0 env) (fun xv s₁ => ∃ r t u v g tk, xv = .ref r ∧ s₁ = { s with heap := g, toks := tk } ∧ Fr h₀ L g m ∧ News h₀ L g news ∧ IsRange g r 0 (n : Int) 1 t u v ∧ Builtin.Range.small 0 (n : Int) 1 = true ∧ Builtin.Range.rangeSize 0 (n : Int) 1 = ((n : Nat) : Int)) E s)
    (h1 : ∀ C oC m₂ h tk (E' : Value → Shared → Prop), NsObj oC m₂ → Fr h₀ L h m → News h₀ L h ((C, oC) :: news) → (∀ p ∈ news, p.1 ≠ C) →
      wpAny (model prog w) A (eval i1 (compEnvC scope cl C env)) (fun xv s' => xv = .ref ax ∧ ∃ tk', s' = { s with heap := h, toks := tk' }) E' { s with heap := h, toks := tk })
    (h2 : ∀ C oC m₂ h tk (E' : Value → Shared → Prop) (i : Nat) (k : Int) (t u : Tok), i < n → k ∈ ms → NsObj oC m₂ → m₂ x = some (.int (i : Int) t) → m₂ y = some (.int k u) → Fr h₀ L h m → News h₀ L h ((C, oC) :: news) → (∀ p ∈ news, p.1 ≠ C) →
      wpAny (model prog w) A (isTrue ct (compEnvC scope cl C env) (eval ct (compEnvC scope cl C env))) (fun ok s' => ok = p i k ∧ ∃ tk', s' = { s with heap := h, toks := tk' }) E' { s with heap := h, toks := tk })
    (h3 : ∀ C oC m₂ h tk (E' : Value → Shared → Prop) (k : Int) (u : Tok), NsObj oC m₂ → m₂ y = some (.int k u) → Fr h₀ L h m → News h₀ L h ((C, oC) :: news) → (∀ p ∈ news, p.1 ≠ C) →
      wpAny (model prog w) A (eval elt (compEnvC scope cl C env)) (fun v s' => (∃ u', v = .int k u') ∧ ∃ tk', s' = { s with heap := h, toks := tk' }) E' { s with heap := h, toks := tk })
    (hQ : ∀ D h tk ys, Fr h₀ L h m → News h₀ L h ((D, lst ys) :: news) → (∀ p ∈ news, p.1 ≠ D) → IntsAre ys ((List.range n).flatMap fun i => ms.filter (p i)) → Q (.ref D) { s with heap := h, toks := tk })
    (hs : ∀ x, foldedSetIterable i0 env x = pure x := by intro _; rfl) (hs1 : ∀ env x, foldedSetIterable i1 env x = pure x := by intro _ _; rfl) :
    wpAny (model prog w) A (eval (.ListComp elt [⟨.Name x px, i0, [], 0⟩, ⟨.Name y py, i1, [ct], 0⟩] scope pos) env) Q E s := by
  rw [eval_ListComp]
  refine wpAny_comprehension_free (use := none) rfl hs hclos hkind hnames (wpAny_mono h0 (fun xv s₁ h₁ => ?_) fun _ _ e => e)
  obtain ⟨r, t, u, v, g, tk₀, rfl, rfl, F, N, hr, hsm, hrs⟩ := h₁
  refine wpAny_pyIter_range hr hsm ?_
  rw [hrs]
  have hI₀ : h₀.get? g.objs.size = none := next_is_new F
  have up0 : ∀ b o, g.get? b = some o → (g.push { cls := .type "range_iterator", data := .fields #[rawInt 0, rawInt (n : Int), rawInt 1] }).get? b = some o := fun b o e => Heap.get?_push_of_some _ e
  have hIt0 : (g.push { cls := .type "range_iterator", data := .fields #[rawInt 0, rawInt (n : Int), rawInt 1] }).get? g.objs.size = some { cls := .type "range_iterator", data := .fields #[rawInt 0, rawInt (n : Int), rawInt 1] } := Heap.get?_push_size _ rfl
  have hIL : L ≠ g.objs.size := Nat.ne_of_lt F.ns.lt
  have hIN : ∀ p ∈ news, p.1 ≠ g.objs.size := fun p hp => Nat.ne_of_lt (Heap.lt_size (N p hp).1)
  have F1 := F.keeps up0
  have N1 := N.grown up0
  clear hr hsm hrs h0 F₀ N₀
  have hgs : (g.push { cls := .type "range_iterator", data := .fields #[rawInt 0, rawInt (n : Int), rawInt 1] }).objs.size = g.objs.size + 1 := Heap.size_push ..
  have hIlt : g.objs.size < (g.push { cls := .type "range_iterator", data := .fields #[rawInt 0, rawInt (n : Int), rawInt 1] }).objs.size := by rw [hgs]; exact Nat.lt_succ_self _
  have fresh₁ : ∀ a, (g.push { cls := .type "range_iterator", data := .fields #[rawInt 0, rawInt (n : Int), rawInt 1] }).objs.size ≤ a → h₀.get? a = none := fun a ha => by
    cases e : h₀.get? a with
    | none => rfl
    | some o' => exact absurd (Heap.lt_size (F1.keep a o' e)) (Nat.not_lt.mpr ha)
  clear up0
  generalize hGI : g.objs.size = I at *
  generalize hG1 : g.push { cls := .type "range_iterator", data := .fields #[rawInt 0, rawInt (n : Int), rawInt 1] } = G1 at *
  clear hGI hG1 hgs F N
  dsimp only at *
  refine wpAny_newObj_type (wpAny_newFunctionEnv hcell (by intro y hy; simp at hy) (fun h₁ hns₁ hsb₁ => ?_) hkind)
  dsimp only at hns₁ hsb₁ ⊢
  have hD1 : (G1.push { cls := .type "list", dict := none, data := .seq ([] : List Value).toArray }).get? G1.objs.size = some (lst []) := Heap.get?_push_size _ rfl
  have upD : ∀ b o, G1.get? b = some o → (G1.push { cls := .type "list", dict := none, data := .seq ([] : List Value).toArray }).get? b = some o := fun b o e => Heap.get?_push_of_some _ e
  have hC : (G1.push { cls := .type "list", dict := none, data := .seq ([] : List Value).toArray }).objs.size = G1.objs.size + 1 := Heap.size_push ..
  generalize hH2 : G1.push { cls := .type "list", dict := none, data := .seq ([] : List Value).toArray } = H2 at *
  have hDC : G1.objs.size ≠ H2.objs.size := by rw [hC]; exact Nat.ne_of_lt (Nat.lt_succ_self _)
  have below : ∀ b, b < G1.objs.size → b ≠ H2.objs.size ∧ b ≠ G1.objs.size := fun b hb => ⟨by rw [hC]; exact Nat.ne_of_lt (Nat.lt_succ_of_lt hb), Nat.ne_of_lt hb⟩
  have old : ∀ b o, G1.get? b = some o → h₁.get? b = some o := fun b o e => hsb₁.extBut b o (below b (Heap.lt_size e)).1 (Heap.get?_push_of_some _ (upD b o e))
  have hacc : h₁.get? G1.objs.size = some (lst []) := hsb₁.extBut _ _ hDC (Heap.get?_push_of_some _ hD1)
  have hD₀ : h₀.get? G1.objs.size = none := fresh₁ _ (Nat.le_refl _)
  have hC₀ : h₀.get? H2.objs.size = none := fresh₁ _ (by rw [hC]; exact Nat.le_succ _)
  have hLlt : L < G1.objs.size := F1.ns.lt
  have hDL : G1.objs.size ≠ L := Ne.symm (below L hLlt).2
  have hCL : H2.objs.size ≠ L := Ne.symm (below L hLlt).1
  have hCI : I ≠ H2.objs.size := (below I hIlt).1
  have hDI : I ≠ G1.objs.size := (below I hIlt).2
  have offC : ∀ p ∈ news, p.1 ≠ H2.objs.size := fun p hp => (below _ (Heap.lt_size (N1 p hp).1)).1
  have offD : ∀ p ∈ news, p.1 ≠ G1.objs.size := fun p hp => (below _ (Heap.lt_size (N1 p hp).1)).2
  have hIt1 : h₁.get? I = some { cls := .type "range_iterator", data := .fields #[rawInt 0, rawInt (n : Int), rawInt 1] } := old _ _ hIt0
  have F2 : Fr h₀ L h₁ m := F1.keeps old
  have N2 : News h₀ L h₁ ((G1.objs.size, lst []) :: news) := fun p hp => by
    rcases List.mem_cons.mp hp with rfl | hp
    · exact ⟨hacc, hDL, hD₀⟩
    · exact ⟨old _ _ (N1 p hp).1, (N1 p hp).2⟩
  generalize hGD : G1.objs.size = D at *
  generalize hGC : H2.objs.size = C at *
  clear hGD hGC hH2 old below fresh₁ hsb₁ upD hD1 hacc F1 N1 hIt0 hIlt hLlt hC
  have W := range_walks (prog := prog) (w := w) (A := A) (I := I) hh 0 n
  have done : ∀ (S : Shared) (h' : Heap) (tk : Nat) (ys : List Value) (m' : Str → Option Value), S = { s with heap := h', toks := tk } → Fr h₀ L h' m → h'.Ns C m' → News h₀ L h' ((D, lst ys) :: news) → IntsAre ys ((List.range n).flatMap fun i => ms.filter (p i)) →
      compPost (model prog w) A E none Q (.ref D) C (.ok .next) S := by as_aux_lemma =>
    rintro S h' tk ys m' rfl F' hN' N' hI'
    refine ⟨m', hN', fun h'' hs'' => hQ D h'' tk ys (F'.change hs'' hCL hC₀) (fun p hp => ?_) offD hI'⟩
    refine ⟨hs''.extBut _ _ ?_ (N' p hp).1, (N' p hp).2⟩
    rcases List.mem_cons.mp hp with rfl | hp
    · exact hDC
    · exact offC p hp
  have loop : ∀ s₃ : Shared, (∃ tk, s₃ = { s with heap := h₁, toks := tk }) →
      codeAny (model prog w) A (.compLoop (.ListComp elt [⟨.Name x px, i0, [], 0⟩, ⟨.Name y py, i1, [ct], 0⟩] scope pos) 0 (.ref I) (.ref D) (compEnvC scope cl C env))
        (compPost (model prog w) A E none Q (.ref D) C) s₃ := by as_aux_lemma =>
    rintro s₃ ⟨tk, rfl⟩
    refine loop_two0
      (CoO s h₀ L m news C D I n ms p) ?_ (n + 1)
      ⟨h₁, tk, 0, [], _, rfl, Nat.zero_le _, rfl, Nat.zero_le _, (by show _ = _; rw [hIt1]; simp), F2, hns₁, N2, .nil⟩ (hs := hs1 _)
    rintro k s' E' ⟨h', tk, i, ys, m', rfl, hi, rfl, hyl, hst', F', hn', N', hI'⟩
    by_cases hlt : i < n
    · refine W.item i _ _ _ hlt hst' fun v h₂ tk₂ hPv hst₂ hk₂ => ?_
      refine wpAny_assign_Name (wpAny_storeName_local (lookup_relabel_local hx) (hn'.at' fun o e => hk₂ _ o (by simpa using Ne.symm hCI) e) (fun h₃ hn₃ hs₃ => ?_) (by simp [compEnvC, relabel, hkind]))
      have hst₃ : IsRangeIter h₃ I (0 + ((i + 1 : Nat) : Int) * 1) ((n : Int) - ((i + 1 : Nat) : Int)) 1 := W.frame _ _ _ hst₂ fun b hb o e => hs₃.extBut b o (fun q => hCI (by rw [← List.mem_singleton.mp hb]; exact q)) e
      have F3 : Fr h₀ L h₃ m := (LCg.fr_but F' hk₂ hIL hI₀).change hs₃ hCL hC₀
      have N3 : News h₀ L h₃ ((D, lst ys) :: news) := by
        have N3 := LCg.news_but N' hk₂ fun p hp => by
          rcases List.mem_cons.mp hp with rfl | hp
          · exact Ne.symm hDI
          · exact hIN p hp
        intro p hp
        refine ⟨hs₃.extBut _ _ ?_ (N3 p hp).1, (N3 p hp).2⟩
        rcases List.mem_cons.mp hp with rfl | hp
        · exact hDC
        · exact offC p hp
      obtain ⟨oC, heC, hoC⟩ := ns_obj hn₃
      have NC : News h₀ L h₃ ((C, oC) :: news) := fun p hp => by
        rcases List.mem_cons.mp hp with rfl | hp
        · exact ⟨heC, hCL, hC₀⟩
        · exact N3 p (.tail _ hp)
      have hmx : (fun z => if z = x then some v else m' z) x = some v := by simp
      clear hst₂ hk₂ hst' F' N' hs₃ hn' heC
      obtain ⟨m₃, hm₃⟩ : ∃ m₃, m₃ = fun z => if z = x then some v else m' z := ⟨_, rfl⟩
      rw [← hm₃] at hoC hn₃
      replace hmx : m₃ x = some v := by rw [hm₃]; exact if_pos rfl
      clear hm₃
      refine wpAny_mono (h1 C oC _ h₃ _ E' hoC F3 NC offC) (fun xv s₄ h₄ => ?_) fun _ _ e => e
      obtain ⟨rfl, tk₄, rfl⟩ := h₄
      have hl3 : h₃.IsList ax its.toArray := ⟨_, (N3 _ (.tail _ hm)).1, rfl, _, rfl⟩
      refine wpAny_pyIter_list hl3 ?_
      intro E1
      dsimp only
      have hJ₀ : h₀.get? h₃.objs.size = none := next_is_new F3
      have upJ : ∀ b o, h₃.get? b = some o → (h₃.push { cls := .type "list_iterator", data := .fields #[.ref ax, .int 0 0] }).get? b = some o := fun b o e => Heap.get?_push_of_some _ e
      have hJ : (h₃.push { cls := .type "list_iterator", data := .fields #[.ref ax, .int 0 0] }).IsListIter h₃.objs.size ax 0 := ⟨_, Heap.get?_push_size _ rfl, rfl, rfl⟩
      have hJL : L ≠ h₃.objs.size := Nat.ne_of_lt F3.ns.lt
      have hJC : C ≠ h₃.objs.size := Nat.ne_of_lt hn₃.lt
      have hJD : D ≠ h₃.objs.size := Nat.ne_of_lt (Heap.lt_size (N3 _ (.head _)).1)
      have hJI : I ≠ h₃.objs.size := Nat.ne_of_lt (Heap.lt_size hst₃)
      have hJN : ∀ p ∈ news, p.1 ≠ h₃.objs.size := fun p hp => Nat.ne_of_lt (Heap.lt_size (N3 p (.tail _ hp)).1)
      have F4 := F3.keeps upJ
      have N4 := N3.grown upJ
      have hn4 := hn₃.at' fun o e => upJ _ o e
      have hst4 := W.frame _ _ _ hst₃ fun b hb o e => upJ b o e
      have hl4 : (h₃.push { cls := .type "list_iterator", data := .fields #[.ref ax, .int 0 0] }).IsList ax its.toArray := ⟨_, (N4 _ (.tail _ hm)).1, rfl, _, rfl⟩
      have hAJ : ax ≠ h₃.objs.size := hJN _ hm
      have hAC : ax ≠ C := offC _ hm
      have hAD : ax ≠ D := offD _ hm
      clear upJ F3 N3 hn₃ hst₃ hl3 NC hoC
      generalize h₃.push { cls := .type "list_iterator", data := .fields #[.ref ax, .int 0 0] } = h₅ at *
      generalize h₃.objs.size = J at *
      clear h₃
      have W1 := Walks.list (prog := prog) (w := w) (A := A) hh J ax hAJ its.toArray
      have inner : ∀ s₃ : Shared, (∃ tk, s₃ = { s with heap := h₅, toks := tk }) →
          codeAny (model prog w) A (.compLoop (.ListComp elt [⟨.Name x px, i0, [], 0⟩, ⟨.Name y py, i1, [ct], 0⟩] scope pos) 1 (.ref J) (.ref D) (compEnvC scope cl C env))
            (fun r s₅ => match r with | .ok _ => (∃ m_1, m_1 < n + 1 - i ∧ CoO s h₀ L m news C D I n ms p m_1 s₅) | .error e => E1 e s₅) s₃ := by as_aux_lemma =>
        rintro s₃ ⟨tk', rfl⟩
        refine loop_two1
          (CoI s h₀ L m news C D I J ax its n i x v ms p) ?_ (its.toArray.size + 1)
          ⟨h₅, tk', 0, ys, _, rfl, Nat.zero_le _, rfl, hyl, ⟨hJ, hl4⟩, hst4, F4, hn4, hmx, N4, by simpa using hI'⟩
        rintro k s' E'' ⟨h', tk, j, ys, m', rfl, hj, rfl, hyl, hsj, hst', F', hn', hmx', N', hI'⟩
        by_cases hjl : j < its.toArray.size
        · refine W1.item j _ _ _ hjl hsj fun u h₂ tk₂ hPu hsj₂ hk₂ => ?_
          refine wpAny_assign_Name (wpAny_storeName_local (lookup_relabel_local hy) (hn'.at' fun o e => hk₂ _ o (by simpa using hJC) e) (fun h₃ hn₃ hs₃ => ?_) (by simp [compEnvC, relabel, hkind]))
          obtain ⟨k, tu, rfl, hmk, hkm⟩ := ints_look hints (j := j) (u := u) (by simpa using hPu)
          obtain ⟨tv, rfl⟩ := hPv
          have F3 : Fr h₀ L h₃ m := (LCg.fr_but F' hk₂ hJL hJ₀).change hs₃ hCL hC₀
          have N3 : News h₀ L h₃ ((D, lst ys) :: news) := by
            have N3 := LCg.news_but N' hk₂ fun p hp => by
              rcases List.mem_cons.mp hp with rfl | hp
              · exact hJD
              · exact hJN p hp
            intro p hp
            refine ⟨hs₃.extBut _ _ ?_ (N3 p hp).1, (N3 p hp).2⟩
            rcases List.mem_cons.mp hp with rfl | hp
            · exact hDC
            · exact offC p hp
          have hsj3 := W1.frame _ _ _ hsj₂ fun b hb o e => hs₃.extBut b o (fun q => by
            have q : b = C := q
            rcases List.mem_cons.mp hb with rfl | hb
            · exact hJC q.symm
            · exact hAC ((List.mem_singleton.mp hb).symm.trans q)) e
          have hst3 := W.frame _ _ _ hst' fun b hb o e => hs₃.extBut b o (fun q => hCI (by rw [← List.mem_singleton.mp hb]; exact q)) (hk₂ b o (by rw [List.mem_singleton.mp hb]; simpa using hJI) e)
          obtain ⟨oC, heC, hoC⟩ := ns_obj hn₃
          have NC : News h₀ L h₃ ((C, oC) :: news) := fun p hp => by
            rcases List.mem_cons.mp hp with rfl | hp
            · exact ⟨heC, hCL, hC₀⟩
            · exact N3 p (.tail _ hp)
          obtain ⟨m₃, hm₃⟩ : ∃ m₃, m₃ = fun z => if z = y then some (Value.int k tu) else m' z := ⟨_, rfl⟩
          rw [← hm₃] at hoC hn₃
          have hmy : m₃ y = some (Value.int k tu) := by rw [hm₃]; exact if_pos rfl
          have hmx3 : m₃ x = some (Value.int (i : Int) tv) := by rw [hm₃]; exact (if_neg hxy).trans (hmx'.trans (by rw [Int.zero_add]))
          clear hm₃ hk₂ hsj₂ hsj hst' F' N' hs₃ hn'
          refine wpAny_mono (h2 C oC m₃ h₃ _ E'' i k tv tu hlt hkm hoC hmx3 hmy F3 NC offC) (fun ok s₄ h₄ => ?_) fun _ _ e => e
          obtain ⟨rfl, tk₄, rfl⟩ := h₄
          have etake : (ms.take (j + 1)).filter (p i) = (ms.take j).filter (p i) ++ (if p i k = true then [k] else []) := take_succ_filter (p i) ms j k hmk
          cases hp : p i k with
          | true =>
            rw [if_pos rfl]
            rw [hp, if_pos rfl] at etake
            refine wpAny_mono (h3 C oC m₃ h₃ _ E'' k tu hoC hmy F3 NC offC) (fun v s₄ h₄ => ?_) fun _ _ e => e
            obtain ⟨⟨u', rfl⟩, tk₅, rfl⟩ := h₄
            have zD := (N3 _ (.head _)).1
            refine append_at (hsz := by show ys.toArray.size ≤ sizeLine; rw [List.size_toArray, sizeLine_eq]; have : i * 60 + j ≤ 60 * 60 + 60 := Nat.add_le_add (Nat.mul_le_mul_right _ (by omega)) (by rw [List.size_toArray] at hjl; omega); omega) zD fun h₅ hs₅ hD₅ => ?_
            refine ⟨its.toArray.size + 1 - (j + 1), by omega, h₅, tk₅, j + 1, ys ++ [.int k u'], m₃, rfl, hjl, rfl, by rw [List.length_append, List.length_singleton]; omega, ?_, ?_, F3.change hs₅ hDL hD₀, hn₃.sameBut hs₅ (Ne.symm hDC), hmx3.trans (by rw [Int.zero_add]), ?_, ?_⟩
            · exact W1.frame _ _ _ hsj3 fun b hb o e => hs₅.extBut b o (fun q => by
                have q : b = D := q
                rcases List.mem_cons.mp hb with rfl | hb
                · exact hJD q.symm
                · exact hAD ((List.mem_singleton.mp hb).symm.trans q)) e
            · exact W.frame _ _ _ hst3 fun b hb o e => hs₅.extBut b o (fun q => hDI (by rw [← List.mem_singleton.mp hb]; exact q)) e
            · intro p hp
              rcases List.mem_cons.mp hp with rfl | hp
              · exact ⟨hD₅.trans (congrArg some (lst_snoc ys _)), hDL, hD₀⟩
              · exact ⟨hs₅.extBut _ _ (offD p hp) (N3 p (.tail _ hp)).1, (N3 p (.tail _ hp)).2⟩
            · rw [etake, ← List.append_assoc]
              exact Mine.ints_snoc hI' _ _
          | false =>
            rw [if_neg (by decide)]
            rw [hp, if_neg (by decide), List.append_nil] at etake
            refine ⟨its.toArray.size + 1 - (j + 1), by omega, h₃, tk₄, j + 1, ys, m₃, rfl, hjl, rfl, by omega, hsj3, hst3, F3, hn₃, hmx3.trans (by rw [Int.zero_add]), N3, ?_⟩
            rw [etake]; exact hI'
        · obtain rfl : j = its.toArray.size := Nat.le_antisymm hj (Nat.not_lt.mp hjl)
          refine W1.done _ _ _ hsj fun h₂ tk₂ hk₂ => ?_
          have N3 := LCg.news_but N' hk₂ fun p hp => by
            rcases List.mem_cons.mp hp with rfl | hp
            · exact hJD
            · exact hJN p hp
          refine ⟨n + 1 - (i + 1), by omega, h₂, tk₂, i + 1, ys, m', rfl, hlt, rfl, ?_, W.frame _ _ _ hst' fun b hb o e => hk₂ b o (by rw [List.mem_singleton.mp hb]; simpa using hJI) e, LCg.fr_but F' hk₂ hJL hJ₀, hn'.at' fun o e => hk₂ _ o (by simpa using hJC) e, N3, ?_⟩
          · rw [List.size_toArray] at hyl; omega
          · have e1 : ms.take its.toArray.size = ms := by rw [List.size_toArray, hints.length]; exact List.take_length
            rw [e1] at hI'
            rw [List.range_succ, List.flatMap_append]
            simpa using hI'
      exact start_two1 (inner _ ⟨_, rfl⟩) fun E2 => W1.self 0 _ _ _ ⟨hJ, hl4⟩ (inner _ ⟨_, rfl⟩)
    · obtain rfl : i = n := Nat.le_antisymm hi (Nat.not_lt.mp hlt)
      refine W.done _ _ _ hst' fun h₂ tk₂ hk₂ => ?_
      have N3 := LCg.news_but N' hk₂ fun p hp => by
          rcases List.mem_cons.mp hp with rfl | hp
          · exact Ne.symm hDI
          · exact hIN p hp
      exact done _ h₂ tk₂ ys m' rfl (LCg.fr_but F' hk₂ hIL hI₀) (hn'.at' fun o e => hk₂ _ o (by simpa using Ne.symm hCI) e) N3 hI'
  exact codeAny_compStart_list (loop _ ⟨_, rfl⟩) (W.self 0 _ _ _ (by show _ = _; rw [hIt1]; simp) (loop _ ⟨_, rfl⟩))
end
end
section --Lu
noncomputable def lawTurn (n : Nat) : Stmt := (match lawStmt 7 with | .For _ _ b _ _ => b | _ => []).getD n (Stmt.Pass default)
end
section --Lr
theorem walks_from {prog : Program} {w : World} {A : Around} {I : Addr} {fp wr : List Addr} {n : Nat} {P : Nat → Value → Prop} {St : Nat → Heap → Prop} (W : Walks prog w A I fp wr n P St) (k : Nat) (hk : k ≤ n) :
    Walks prog w A I fp wr (n - k) (fun i v => P (k + i) v) (fun i h => St (k + i) h) where
  sub := W.sub
  frame := fun i => W.frame (k + i)
  item := fun i s Q E hi st hQ => W.item (k + i) s Q E (by omega) st hQ
  done := fun s Q E st hQ => W.done s Q E (by have e : k + (n - k) = n := by omega
                                              rw [← e]; exact st) hQ
  self := fun i => W.self (k + i)
section
variable {prog : Program} {w : World} {A : Around} {E : Value → Shared → Prop} {s : Shared} {env : Env} {h₀ : Heap} {x : Str} {body : List Stmt} {Q : Flow → Shared → Prop}
theorem li_loop {σ : Type} {I l : Addr} {items : Array Value} {nn k0 : Nat} {m₀ : Str → Option Value} (Led : σ → List (Addr × Obj)) (ps : σ → List (Str × Value)) (stored : List Str) (P : Nat → σ → Prop) (c₀ : σ)
    (hh : A.handled = none) (hl : ∀ c : σ, (l, PySem.W.listOf items nn) ∈ Led c) (hk0 : k0 ≤ items.size) (F : Fr h₀ env.locals s.heap m₀) (N : News h₀ env.locals s.heap ((I, liO l k0) :: Led c₀)) (hne : ∀ p ∈ Led c₀, p.1 ≠ I) (hk : ∀ p ∈ ps c₀, m₀ p.1 = some p.2) (hp : P k0 c₀)
    (turn : ∀ (c : σ) (i : Nat) v (u : Str → Option Value) h tk oi, items[i]? = some v → P i c → (∀ p ∈ Led c, p.1 ≠ I) → oi.cls = .type "list_iterator" →
      Fr h₀ env.locals h (fun y => if y = x then some v else kstB (fun z => if stored.contains z then u z else m₀ z) (ps c) y) → News h₀ env.locals h ((I, oi) :: Led c) →
      wpAny (model prog w) A (execs body env) (TurnP h₀ env.locals x stored m₀ Led ps (P (i + 1)) I oi { s with heap := h, toks := tk } Q) E { s with heap := h, toks := tk })
    (done : ∀ (c : σ) (u : Str → Option Value) h tk, P items.size c → Fr h₀ env.locals h (fun y => if y = x then u y else kstB (fun z => if stored.contains z then u z else m₀ z) (ps c) y) → News h₀ env.locals h (Led c) → Q .next { s with heap := h, toks := tk }) :
    wpAny (model prog w) A (pyIter (.ref I)) (fun it s₂ => LoopAtV prog w A h₀ env x body Q E it s₂) E s := by
  have nI := N _ (.head _)
  have hls : s.heap.IsList l items := News.isList N (.tail _ (hl c₀))
  have hne' : l ≠ I := hne _ (hl c₀)
  refine wpAny_pyIter_listiter ⟨_, nI.1, rfl, rfl⟩ ?_
  have Wk := walks_from (Walks.list (prog := prog) (w := w) hh I l hne' items) k0 hk0
  let J : Nat → (Str → Option Value) → List (Addr × Obj) → Prop := fun i m nx => ∃ c : σ, nx = Led c ∧ Hm (ps c) x stored m₀ m ∧ P (k0 + i) c
  refine ⟨_, _, _, items.size - k0, _, _, m₀, Led c₀, J, rfl, Wk, ?_, ?_, ?_, ⟨⟨_, nI.1, rfl, rfl⟩, hls⟩, F, (fun p hp => N p (.tail _ hp)), ⟨c₀, rfl, ⟨hk, fun _ _ _ _ => rfl⟩, hp⟩, ?_, ?_⟩
  · intro hm
    rcases List.mem_cons.mp hm with e | hm
    · exact nI.2.1 e.symm
    · exact (N _ (.tail _ (hl c₀))).2.1 (List.mem_singleton.mp hm).symm
  · intro b hb
    rw [List.mem_singleton.mp hb]
    exact nI.2.2
  · intro p hp hI
    exact hne p hp (List.mem_singleton.mp hI)
  · rintro i v m₁ nx s₁ own ⟨hh', tk', rfl⟩ hin hP ⟨c, rfl, H, hp'⟩ hoff hown hget hall st F₁ N₁
    have hI : h₀.get? I = none := nI.2.2
    obtain ⟨oi, ho, hoc, _⟩ := id st.1
    have hmem : (I, oi) ∈ own := hall _ (.head _) hI _ ho
    have hne2 : ∀ p ∈ Led c, p.1 ≠ I := fun p hp q => hoff p hp (by rw [q]; exact .head _)
    refine wpAny_mono (turn c (k0 + i) v m₁ hh' tk' oi hP hp' hne2 hoc (H.fr F₁) (fun p hp => ?_)) (fun f s₂ p => ?_) fun _ _ e => e
    · rcases List.mem_cons.mp hp with rfl | hp
      · exact N₁ _ (List.mem_append_left _ hmem)
      · exact N₁ _ (List.mem_append_right _ hp)
    have hlg : hh'.get? l = some (PySem.W.listOf items nn) := (N₁ _ (List.mem_append_right _ (hl c))).1
    have fin : TurnE h₀ env.locals x stored m₀ Led ps (P (k0 + i + 1)) I oi { s with heap := hh', toks := tk' } s₂ → LoopStepU h₀ env.locals [I] own (J (i + 1)) { s with heap := hh', toks := tk' } .next s₂ := by
      rintro ⟨c', h', tk, m', e, F', N', hne', H', hP'⟩
      refine ⟨rfl, h', tk, m', Led c', e, F', fun p hp => ?_, fun p hp hq => hne' p hp (List.mem_singleton.mp hq), c', rfl, H', hP'⟩
      rcases List.mem_append.mp hp with hp | hp
      · have g := hget p hp
        have q := hown p hp
        obtain ⟨pa, po⟩ := p
        dsimp only at q g
        rcases List.mem_cons.mp q with q | q
        · subst q
          have z := ho.symm.trans g
          cases z
          exact N' _ (.head _)
        · have q := List.mem_singleton.mp q
          subst q
          have z := hlg.symm.trans g
          cases z
          exact N' _ (.tail _ (hl c'))
      · exact N' _ (.tail _ hp)
    cases f with
    | ret v => exact .ret p
    | brk => exact .brk p
    | next => exact .next (fin p)
    | cont => exact .cont (fin p)
  · rintro h' tk m' news' F' N' _ ⟨c, rfl, H, hp'⟩
    have e : k0 + (items.size - k0) = items.size := by omega
    rw [e] at hp'
    exact done c m' h' tk hp' (H.out F') N'
end
section
variable {prog : Program} {w : World} {A : Around} {E : Value → Shared → Prop} {s : Shared} {h₀ : Heap} {L : Addr} {m : Str → Option Value} {news : List (Addr × Obj)}
theorem n_iter {l : Addr} {its : Array Value} {n : Nat} {Q : Value → Shared → Prop} (F : Fr h₀ L s.heap m) (N : News h₀ L s.heap news) (hm : (l, PySem.W.listOf its n) ∈ news)
    (h : ∀ I h', Fr h₀ L h' m → News h₀ L h' ((I, liO l 0) :: news) → (∀ p ∈ news, p.1 < I) → Q (.ref I) { s with heap := h' }) : wpAny (model prog w) A (call (.builtin "iter") [.ref l]) Q E s := by
  refine call_function_entry (by decide +kernel) (by decide +kernel) kdk_entry_iter (kdk_args_iter _) ?_
  unfold Builtin.«iter»
  refine wpAny_bind (m := someArgs "iter" 1 2 _) (wpAny_of_eq (a := [Value.ref l]) (by first | rfl | kernel_rfl!) ?_)
  dsimp only
  refine wpAny_bind (wpAny_pyIter_list (News.isList N hm) ?_)
  exact wpAny_pure ⟨_, rfl, h _ _ (F.push _) (N.push F _ rfl) fun p hp => Heap.lt_size (N p hp).1⟩
theorem n_next {I l : Addr} {i : Nat} {items : Array Value} {n : Nat} {v : Value} {rest : List (Addr × Obj)} {Q : Value → Shared → Prop} (F : Fr h₀ L s.heap m) (N : News h₀ L s.heap ((I, liO l i) :: rest)) (hr : ∀ p ∈ rest, p.1 ≠ I) (hl : (l, PySem.W.listOf items n) ∈ rest) (hx : items[i]? = some v)
    (h : ∀ h', Fr h₀ L h' m → News h₀ L h' ((I, liO l (i + 1)) :: rest) → Q v { s with heap := h' }) : wpAny (model prog w) A (call (.builtin "next") [.ref I]) Q E s := by
  have ho := N.get (.head _)
  have hT : s.TypeIs (.ref I) "list_iterator" := ⟨_, ho, rfl⟩
  refine call_function_entry (by decide +kernel) (by decide +kernel) kdk_entry_next (kdk_args_next _) ?_
  unfold Builtin.«next»
  refine wpAny_bind (m := someArgs "next" 1 2 _) (wpAny_of_eq (a := [Value.ref I]) (by first | rfl | kernel_rfl!) ?_)
  dsimp only
  refine wpAny_bind (wpAny_specialOf (name := Str.ofString "__next__") hT slot_listiter_next.lookup ?_)
  refine wpAny_ite_split (fun hab => absurd hab (by decide)) (fun _ => ?_)
  have hol := N.get (.tail _ hl)
  refine wpAny_bind (wpAny_callSpecial?_slot (name := Str.ofString "__next__") hT slot_listiter_next
    (wpAny_call_entry slot_listiter_next hT entry_listiter_next ?_ (args_listiter_next _)))
  show wpAny _ _ (field (.ref I) 0 >>= _) _ _ s
  refine wpAny_bind (wpAny_field ho rfl (x := .ref l) rfl ?_)
  show wpAny _ _ (if (Value.ref l == Value.none) = true then _ else _) _ _ s
  rw [if_neg (show ¬ ((Value.ref l == Value.none) = true) from Bool.false_ne_true)]
  show wpAny _ _ (field (.ref I) 1 >>= _) _ _ s
  refine wpAny_bind (wpAny_field ho rfl (x := .int i 0) rfl ?_)
  show wpAny _ _ (seqItems? (.ref l) >>= _) _ _ s
  refine wpAny_bind (wpAny_seqItems hol rfl ?_)
  simp only [Int.toNat_natCast, hx]
  obtain ⟨F', N'⟩ := news_upd (h' := s.heap.update I (Obj.mapFields (·.setIfInBounds 1 (rawInt (i + 1))))) (o' := liO l (i + 1)) F N (.head hr) (Heap.SameBut.update ..) (Heap.get?_update_self _ ho rfl)
  exact wpAny_bind (wpAny_setField ho rfl (by simp) (wpAny_pure ⟨v, rfl, wpAny_pure ⟨_, rfl, h _ F' N'⟩⟩))
end
end
section --Mt
set_option hygiene false in
local macro_rules | `(tactic| k_lt $h:ident) => `(tactic| ((try (have hT9 := $h; k_extra "w90843")); replace $h := allLt_of $h; simp only [AllLt, and_true] at $h:ident))
local macro_rules | `(tactic| k_all) => `(tactic| k_extra "w7203b")
theorem mid_news {h₀ h : Heap} {L : Addr} {x y : Addr × Obj} {new news : List (Addr × Obj)} (N : News h₀ L h (x :: (new ++ y :: news))) : News h₀ L h ((new ++ [y]) ++ news) := news_sub N fun p hp => by
  rw [List.append_assoc] at hp
  exact .tail _ hp
local macro_rules | `(tactic| walk_at "getMethod type:tuple") => `(tactic| k_extra "w368d6")
theorem mnew {w : World} {loose : List Str} {mean : ExcName → Option Value} {mg mb : Str → Option Value} :
  ∀ (gd : Option (List Code)) (cn : Str) (cs : Scope) (a : Addr) (ccd : Value) (cl : List (Str × Addr)) (outer : List Env) (A₀ : Around) (base h₀ : Heap) (L : Addr) (m : Str → Option Value) (news : List (Addr × Obj)) (s : Shared)
    (Q E : Value → Shared → Prop) (r1 r2 r3 : Int) (t1 t2 t3 : Tok),
    Below A₀ base outer h₀ → Fr h₀ L s.heap m → (Mine.hd0.heap_1 w.params).In h₀ → Boot w h₀ → News h₀ L s.heap (news) → Top topProg loose mean mg mb h₀ → cs.kind = .function →
    PySem.Challenge.rw_mr0378_01 = PySem.Challenge.rw_mr0378_01 →
    (∀ (q d : Addr) (h' : Heap) (tk : Nat) (new : List (Addr × Obj)), Fr h₀ L h' m → News h₀ L h' (new ++ news) → (q, (⟨.ref 135, some d, .seq #[.int r1 t1, .int r2 t2, .int r3 t3] 0, #[]⟩ : Obj)) ∈ new → Q (.ref q) { s with heap := h', toks := tk }) →
    codeAny (model PySem.Challenge.rw_mr0378_01.row.prog w) (ktrTop 500 1000 gd cn cs L a ccd cl outer) (.call (.ref 82) ⟨[.ref 135, .int r1 t1, .int r2 t2, .int r3 t3], []⟩) (wants Q E) s := by
  w_top off
  k_fill
  rintro gd cn cs a ccd cl outer A₀ base h₀ L m news s Q E r1 r2 r3 t1 t2 t3 B F X BO N T8 hk _ hQ
  k_dflt (refine' code_def ?k1 ?k2 ?k3 ?k4 ?k5 ?kA ?kF ?kK ?k6 ?k7 ?k8 ?k9 ?kB ?_ ?c2 ?c3 ?c4 ?c5; (case kA => exact rfl); (case kF => exact rfl); (case kK => assumption); (case k1 => k_asm); (case k2 => k_asm); (case k3 => k_asm); (case k4 => k_asm); (case k5 => k_asm); (case k6 => k_is); (case k7 => k_is); (case k8 => ktr_room); (case k9 => first | exact BindsTo.of_eq rfl | exact binds_K (by k_in) rfl (by k_is) rfl rfl rfl); (case c5 => decide); (case kB => exact locs rfl); (case c2 => exact rfl); (case c3 => exact rfl); (case c4 => exact rfl); k_whole; intro g L1 h1 FG F1 N1 B1 X1 T1; (try dsimp only); (try k_fold))
  have BO1 : Boot w g := boot_keeps BO FG.keep
  k_extra "k0"
  refine wpAny_up (n_tnew (by assumption) (by assumption) X1 BO1 (by k_mem) ?_) (Nat.le_of_ble_eq_true rfl) (Nat.le_of_ble_eq_true rfl)
  intro q d h3 tk3 new F3 N3 hq
  have N4 := news_front N3 (List.mem_append_left _ hq)
  k_sweep
  k_extra "k0"
  (rename Fr h₀ L _ _ => kF)
  (rename News h₀ L _ _ => kN)
  exact hQ q d _ _ _ kF (mid_news kN) (List.mem_append_left _ hq)


noncomputable def nmNew : Str := Str.ofString "__new__"
noncomputable def kmA (a b c : Value) : Sem PySem.Fin := callAny (.ref 135) ⟨[a, b, c], []⟩
theorem kmA_id : kmA = kmA := rfl
name_quick kmAQ for Mine.kmA by Mine.kmA_id
noncomputable def kmR (a b c : Value) : Sem Unit := checkBuiltinCall "type.__call__" ⟨[.ref 135, a, b, c], []⟩
theorem kmR_id : kmR = kmR := rfl
name_quick kmRQ for Mine.kmR by Mine.kmR_id
noncomputable def kmC (a b c : Value) : Sem PySem.Fin := Builtin.«type.__call__» ⟨[.ref 135, a, b, c], []⟩
theorem kmC_id : kmC = kmC := rfl
name_quick kmCQ for Mine.kmC by Mine.kmC_id
noncomputable def kmG (t : Tok) : Sem Unit := checkBuiltinCall "type.__getattribute__" ⟨[.ref 135, .str (Str.ofString "__new__") t], []⟩
theorem kmG_id : kmG = kmG := rfl
name_quick kmGQ for Mine.kmG by Mine.kmG_id
noncomputable def kmH (t : Tok) : Sem PySem.Fin := Builtin.«type.__getattribute__» ⟨[.ref 135, .str (Str.ofString "__new__") t], []⟩
theorem kmH_id : kmH = kmH := rfl
name_quick kmHQ for Mine.kmH by Mine.kmH_id
noncomputable def kmI : Sem Unit := checkBuiltinCall "staticmethod.__get__" ⟨[.ref 136, .none, .ref 135], []⟩
theorem kmI_id : kmI = kmI := rfl
name_quick kmIQ for Mine.kmI by Mine.kmI_id
noncomputable def kmJ : Sem PySem.Fin := Builtin.«staticmethod.__get__» ⟨[.ref 136, .none, .ref 135], []⟩
theorem kmJ_id : kmJ = kmJ := rfl
name_quick kmJQ for Mine.kmJ by Mine.kmJ_id
theorem entry_smg : entryFor table "staticmethod.__get__" = some Builtin.«staticmethod.__get__» := entryFor_of_tree (by kernel_rfl)
noncomputable def kmL (q : Addr) (a b c : Value) : Sem Unit := checkBuiltinCall "object.__init__" ⟨[.ref q, a, b, c], []⟩
theorem kmL_id : kmL = kmL := rfl
name_quick kmLQ for Mine.kmL by Mine.kmL_id
noncomputable def kmM (q : Addr) (a b c : Value) : Sem PySem.Fin := Builtin.«object.__init__» ⟨[.ref q, a, b, c], []⟩
theorem kmM_id : kmM = kmM := rfl
name_quick kmMQ for Mine.kmM by Mine.kmM_id
theorem entry_oin : entryFor table "object.__init__" = some Builtin.«object.__init__» := entryFor_of_tree (by kernel_rfl)
theorem entry_tga : entryFor table "type.__getattribute__" = some Builtin.«type.__getattribute__» := entryFor_of_tree (by kernel_rfl)
section
variable {prog : Program} {w : World} {A : Around} {s : Shared} {h₀ : Heap} {L : Addr} {m : Str → Option Value} {news : List (Addr × Obj)} {a b c : Value}
theorem n_getnew {R : Result → Shared → Prop} {t : Tok} (F : Fr h₀ L s.heap m) (X : (Mine.hd0.heap_1 w.params).In h₀) (h : ∀ tk, R (.ok (.ret (.ref 82))) { s with toks := tk }) :
    codeAny (model prog w) A (.call (.builtin "type.__getattribute__") ⟨[.ref 135, .str (Str.ofString "__new__") t], []⟩) R s := by
  refine codeAny_call_builtin_code (by kernel_rfl) ?_
  show wpAny _ _ (kmG t) _ _ _
  rw [PySem.W.Fast.kmGQ_eq]
  with_reducible refine r_load (a := 135) (by kernel_rfl) (k_get F X 135 (by kernel_rfl)) ?_
  with_reducible refine r_pure (a := ()) (by kernel_rfl) ?_
  refine (codeAny_builtin entry_tga ?_)
  show wpAny _ _ (kmH t) _ _ _
  rw [PySem.W.Fast.kmHQ_eq]
  with_reducible refine r_load (a := 2) (by kernel_rfl) (k_get F X 2 (by kernel_rfl)) ?_
  with_reducible refine r_load (a := 135) (by kernel_rfl) (k_get F X 135 (by kernel_rfl)) ?_
  with_reducible refine r_load (a := 135) (by kernel_rfl) (k_get F X 135 (by kernel_rfl)) ?_
  with_reducible refine r_load (a := 135) (by kernel_rfl) (k_get F X 135 (by kernel_rfl)) ?_
  with_reducible refine r_load (a := 134) (by kernel_rfl) (k_get F X 134 (by kernel_rfl)) ?_
  with_reducible refine r_load (a := 136) (by kernel_rfl) (k_get F X 136 (by kernel_rfl)) ?_
  with_reducible refine r_load (a := 136) (by kernel_rfl) (k_get F X 136 (by kernel_rfl)) ?_
  with_reducible refine r_call (c := .call (.builtin "staticmethod.__get__") ⟨[.ref 136, .none, .ref 135], []⟩) (by kernel_rfl) ?_
  refine codeAny_call_builtin_code (by kernel_rfl) ?_
  show wpAny _ _ kmI _ _ _
  rw [PySem.W.Fast.kmIQ_eq]
  with_reducible refine r_load (a := 136) (by kernel_rfl) (k_get F X 136 (by kernel_rfl)) ?_
  with_reducible refine r_pure (a := ()) (by kernel_rfl) ?_
  refine (codeAny_builtin entry_smg ?_)
  show wpAny _ _ kmJ _ _ _
  rw [PySem.W.Fast.kmJQ_eq]
  with_reducible refine r_load (a := 136) (by kernel_rfl) (k_get F X 136 (by kernel_rfl)) ?_
  with_reducible refine r_pure (a := .done (.ret (.ref 82))) (by kernel_rfl) ?_
  show wpAny _ _ _ _ _ _
  with_reducible refine r_pure (a := .done (.ret (.ref 82))) (by kernel_rfl) ?_
  exact h s.toks
theorem n_oinit {R : Result → Shared → Prop} {q d : Addr} {vs : Array Value} {n : Nat} (F : Fr h₀ L s.heap m) (X : (Mine.hd0.heap_1 w.params).In h₀) (ho : s.heap.get? q = some ⟨.ref 135, some d, .seq vs n, #[]⟩) (h : R (.ok (.ret .none)) s) :
    codeAny (model prog w) A (.call (.builtin "object.__init__") ⟨[.ref q, a, b, c], []⟩) R s := by
  refine codeAny_call_builtin_code (by kernel_rfl) ?_
  show wpAny _ _ (kmL q a b c) _ _ _
  rw [PySem.W.Fast.kmLQ_eq]
  skip
  with_reducible refine r_load (a := q) (by kernel_rfl) ho ?_
  with_reducible refine r_load (a := 135) (by kernel_rfl) (k_get F X 135 (by kernel_rfl)) ?_
  with_reducible refine r_pure (a := ()) (by kernel_rfl) ?_
  refine (codeAny_builtin entry_oin ?_)
  show wpAny _ _ (kmM q a b c) _ _ _
  rw [PySem.W.Fast.kmMQ_eq]
  skip
  with_reducible refine r_load (a := q) (by kernel_rfl) ho ?_
  with_reducible refine r_load (a := 135) (by kernel_rfl) (k_get F X 135 (by kernel_rfl)) ?_
  with_reducible refine r_load (a := 135) (by kernel_rfl) (k_get F X 135 (by kernel_rfl)) ?_
  with_reducible refine r_load (a := 134) (by kernel_rfl) (k_get F X 134 (by kernel_rfl)) ?_
  with_reducible refine r_load (a := 135) (by kernel_rfl) (k_get F X 135 (by kernel_rfl)) ?_
  with_reducible refine r_load (a := 135) (by kernel_rfl) (k_get F X 135 (by kernel_rfl)) ?_
  with_reducible refine r_pure (a := .done (.ret .none)) (by kernel_rfl) ?_
  exact h
theorem n_mcall {R : Result → Shared → Prop} (F : Fr h₀ L s.heap m) (X : (Mine.hd0.heap_1 w.params).In h₀)
    (h : ∃ P : Addr → Shared → Prop, (∀ tk (R' : Result → Shared → Prop), (∀ q s', P q s' → R' (.ok (.ret (.ref q))) s') → codeAny (model prog w) ((A.under (Code.builtin "type.__call__" ⟨[.ref 135, a, b, c], []⟩)).mark none) (.call (.ref 82) ⟨[.ref 135, a, b, c], []⟩) R' { s with toks := tk }) ∧
      ∀ q s', P q s' → (∃ d vs n, Fr h₀ L s'.heap m ∧ s'.heap.get? q = some ⟨.ref 135, some d, .seq vs n, #[]⟩) ∧ R (.ok (.ret (.ref q))) s') :
    codeAny (model prog w) A (.call (.ref 135) ⟨[a, b, c], []⟩) R s := by
  obtain ⟨P, h1, h2⟩ := h
  refine codeAny_of_tree ?_
  show wpAny _ _ (kmA a b c) _ _ _
  rw [PySem.W.Fast.kmAQ_eq]
  with_reducible refine r_load (a := 135) (by kernel_rfl) (k_get F X 135 (by kernel_rfl)) ?_
  with_reducible refine r_load (a := 135) (by kernel_rfl) (k_get F X 135 (by kernel_rfl)) ?_
  with_reducible refine r_pure (a := .again (.call (.builtin "type.__call__") ⟨[.ref 135, a, b, c], []⟩)) (by kernel_rfl) ?_
  refine ⟨by kernel_rfl, codeAny_call_builtin_code (by kernel_rfl) ?_⟩
  show wpAny _ _ (kmR a b c) _ _ _
  rw [PySem.W.Fast.kmRQ_eq]
  with_reducible refine r_load (a := 135) (by kernel_rfl) (k_get F X 135 (by kernel_rfl)) ?_
  with_reducible refine r_pure (a := ()) (by kernel_rfl) ?_
  refine (codeAny_builtin entry_tcall ?_)
  show wpAny _ _ (kmC a b c) _ _ _
  rw [PySem.W.Fast.kmCQ_eq]
  with_reducible refine r_load (a := 135) (by kernel_rfl) (k_get F X 135 (by kernel_rfl)) ?_
  with_reducible refine r_load (a := 135) (by kernel_rfl) (k_get F X 135 (by kernel_rfl)) ?_
  with_reducible refine r_load (a := 135) (by kernel_rfl) (k_get F X 135 (by kernel_rfl)) ?_
  with_reducible refine r_fresh (by kernel_rfl) ?_
  with_reducible refine r_load (a := 135) (by kernel_rfl) (k_get F X 135 (by kernel_rfl)) ?_
  with_reducible refine r_call (c := .call (.builtin "type.__getattribute__") ⟨[.ref 135, .str (Str.ofString "__new__") s.toks], []⟩) (by kernel_rfl) (n_getnew F X fun tk => ?_)
  skip
  with_reducible refine r_call (c := .call (.ref 82) ⟨[.ref 135, a, b, c], []⟩) (by kernel_rfl) (h1 _ _ fun q s' hP => ?_)
  obtain ⟨⟨d, vs, n, F', ho⟩, hR⟩ := h2 q s' hP
  with_reducible refine r_load (a := q) (by kernel_rfl) ho ?_
  with_reducible refine r_load (a := 135) (by kernel_rfl) (k_get F' X 135 (by kernel_rfl)) ?_
  with_reducible refine r_load (a := q) (by kernel_rfl) ho ?_
  with_reducible refine r_load (a := 135) (by kernel_rfl) (k_get F' X 135 (by kernel_rfl)) ?_
  with_reducible refine r_load (a := 135) (by kernel_rfl) (k_get F' X 135 (by kernel_rfl)) ?_
  with_reducible refine r_load (a := 134) (by kernel_rfl) (k_get F' X 134 (by kernel_rfl)) ?_
  with_reducible refine r_call (c := .call (.builtin "object.__init__") ⟨[.ref q, a, b, c], []⟩) (by kernel_rfl) (n_oinit F' X ho ?_)
  with_reducible refine r_pure (a := .done (.ret (.ref q))) (by kernel_rfl) ?_
  exact hR
end
theorem n_matchK {w : World} {loose : List Str} {mean : ExcName → Option Value} {mg mb : Str → Option Value} {gd : Option (List Code)} {cn : Str} {cs : Scope} {a : Addr} {ccd : Value} {cl : List (Str × Addr)} {outer : List Env} {A₀ : Around} {base h₀ : Heap} {L : Addr} {m : Str → Option Value} {news : List (Addr × Obj)} {s : Shared} {i j k : Int} {ti tj tk : Tok} {Q E : Value → Shared → Prop}
    (B : Below A₀ base outer h₀) (F : Fr h₀ L s.heap m) (X : (Mine.hd0.heap_1 w.params).In h₀) (BO : Boot w h₀) (N : News h₀ L s.heap news) (T : Top topProg loose mean mg mb h₀) (hk : cs.kind = .function)
    (h : ∀ q d h' tk' new, Fr h₀ L h' m → News h₀ L h' (new ++ news) → (q, (⟨.ref 135, some d, .seq #[.int i ti, .int j tj, .int k tk] 0, #[]⟩ : Obj)) ∈ new → Q (.ref q) { s with heap := h', toks := tk' }) :
    wpAny (model PySem.Challenge.rw_mr0378_01.row.prog w) (ktrTop 450 600 gd cn cs L a ccd cl outer) (call (.ref 135) [.int i ti, .int j tj, .int k tk]) Q E s := by
  refine wpAny_call (n_mcall F X ⟨fun q s' => ∃ d h' tk' new, s' = { s with heap := h', toks := tk' } ∧ Fr h₀ L h' m ∧ News h₀ L h' (new ++ news) ∧ (q, (⟨.ref 135, some d, .seq #[.int i ti, .int j tj, .int k tk] 0, #[]⟩ : Obj)) ∈ new, fun tk1 R' hR => ?_, ?_⟩)
  · refine codeAny_mono (codeAny_up (mnew gd cn cs a ccd cl outer A₀ base h₀ L m news _ (fun v s' => R' (.ok (.ret v)) s') (fun _ _ => False) i j k ti tj tk B F X BO N T hk rfl fun q d h' tk' new F' N' hm => ?_) (Nat.le_of_ble_eq_true (by kernel_rfl)) (Nat.le_of_ble_eq_true (by kernel_rfl))) ?_
    · exact hR q _ ⟨d, h', tk', new, rfl, F', N', hm⟩
    · intro r s' hw
      rcases r with e | f
      · exact hw.elim
      · cases f with
        | ret v => exact hw
        | _ => exact hw.elim
  · rintro q s' ⟨d, h', tk', new, rfl, F', N', hm⟩
    exact ⟨⟨d, _, _, F', N'.get (List.mem_append_left _ hm)⟩, h q d h' tk' new F' N' hm⟩
end
def won : Lean.MacroM Unit := do
  if (← Lean.Macro.hasDecl `Mine.p1) && !((← Lean.Macro.hasDecl `Mine.w2) && !(← Lean.Macro.hasDecl `Mine.p2)) then Lean.Macro.throwUnsupported
local macro_rules
  | `(tactic| intro $xs:term*) => do
    won
    let n := xs.size
    if n == 0 then Lean.Macro.throwUnsupported
    let ok (x : Lean.Term) : Bool := x.raw.isIdent || x.raw.isOfKind ``Lean.Parser.Term.hole
    match xs.findIdx? (!ok ·) with
    | some k =>
      if n == 1 then Lean.Macro.throwUnsupported
      let k := if k == 0 then 1 else k
      let a := xs.extract 0 k
      let b := xs.extract k n
      `(tactic| (intro $a:term*; intro $b:term*))
    | none =>
      if n > 8 then
        let a := xs.extract 0 8
        let b := xs.extract 8 n
        `(tactic| (intro $a:term*; intro $b:term*))
      else
        let hs : Lean.TSyntaxArray `Lean.binderIdent := xs.map fun x => ⟨Lean.mkNode `Lean.binderIdent #[x.raw]⟩
        `(tactic| (k_extra $(Lean.Syntax.mkStrLit ("i" ++ toString n)); rename_i $hs*))
local macro_rules
  | `(tactic| rintro $ps:rintroPat*) => do
    won
    let idOf (p : Lean.TSyntax `rintroPat) : Option Lean.Ident := if p.raw.isOfKind ``Lean.Parser.Tactic.rintroPat.one && p.raw[0].isOfKind ``Lean.Parser.Tactic.rcasesPat.one then (if p.raw[0][0].getId.eraseMacroScopes == `rfl then none else some ⟨p.raw[0][0]⟩) else none
    let k := (ps.findIdx? (fun p => (idOf p).isNone)).getD ps.size
    if k > 0 then
      let ids := (ps.extract 0 k).filterMap idOf
      let r := ps.extract k ps.size
      if r.isEmpty then `(tactic| intro $ids:ident*) else `(tactic| (intro $ids:ident*; rintro $r*))
    else
      let p := ps[0]!
      let r := ps.extract 1 ps.size
      if p.raw.isOfKind ``Lean.Parser.Tactic.rintroPat.one && p.raw[0].isOfKind ``Lean.Parser.Tactic.rcasesPat.tuple then
        let q : Lean.TSyntax `rcasesPat := ⟨p.raw[0]⟩
        let args : Array Lean.Syntax := p.raw[0][1].getSepArgs
        let one (s : Lean.Syntax) : Option (Lean.TSyntax `rintroPat) := if s[0][0].getSepArgs.size == 1 && s[1].isNone then some ⟨Lean.mkNode ``Lean.Parser.Tactic.rintroPat.one #[s[0][0].getSepArgs[0]!]⟩ else none
        let qs : Array (Lean.TSyntax `rintroPat) := args.filterMap one
        let f ← if qs.size == args.size then `(tactic| first | (k_extra "SALL"; rintro $qs*) | (k_extra $(Lean.Syntax.mkStrLit ("PT" ++ toString qs.size)); rintro $qs*) | (intro h99; obtain $q:rcasesPat := h99)) else `(tactic| (intro h99; obtain $q:rcasesPat := h99))
        if r.isEmpty then pure f else `(tactic| ($f; rintro $r*))
      else if r.isEmpty then Lean.Macro.throwUnsupported
      else `(tactic| (rintro $p:rintroPat; rintro $r*))
local macro_rules
  | `(tactic| obtain $q:rcasesPatMed := $e:term) => do
    won
    let pats := q.raw[0].getSepArgs
    if pats.size != 1 || !pats[0]!.isOfKind ``Lean.Parser.Tactic.rcasesPat.tuple then Lean.Macro.throwUnsupported
    let args : Array Lean.Syntax := pats[0]![1].getSepArgs
    if args.size < 2 then Lean.Macro.throwUnsupported
    let s := args[0]!
    if s[0][0].getSepArgs.size != 1 || !s[1].isNone then Lean.Macro.throwUnsupported
    let u := s[0][0].getSepArgs[0]!
    let x9 ← Lean.Macro.addMacroScope `x99
    let one (u : Lean.Syntax) : Lean.TSyntax `rintroPat :=
      let u := if u.isOfKind ``Lean.Parser.Tactic.rcasesPat.ignore then (Lean.mkNode ``Lean.Parser.Tactic.rcasesPat.one #[Lean.mkIdent x9]).raw else u
      ⟨Lean.mkNode ``Lean.Parser.Tactic.rintroPat.one #[u]⟩
    let v : Lean.Syntax := if args.size == 2 && args[1]![0][0].getSepArgs.size == 1 && args[1]![1].isNone then args[1]![0][0].getSepArgs[0]! else
      let ws := (args.extract 1 args.size).foldl (fun (a : Array Lean.Syntax) w => if a.isEmpty then #[w] else (a.push (Lean.mkAtom ",")).push w) #[]
      (Lean.mkNode ``Lean.Parser.Tactic.rcasesPat.tuple #[Lean.mkAtom "⟨", Lean.mkNullNode ws, Lean.mkAtom "⟩"]).raw
    let p1 := one u
    let p2 := one v
    let cl ← if e.raw.isIdent then `(tactic| (try clear $(⟨e.raw⟩):ident)) else `(tactic| skip)
    `(tactic| first | (refine Exists.elim $e ?_; $cl; rintro $p1 $p2) | (refine And.elim ?_ $e; $cl; rintro $p1 $p2) | rcases $e:term with $q)
local macro_rules
  | `(tactic| obtain $q:rcasesPatMed : $t:term := $e:term) => do won; `(tactic| ((have h99 : $t := $e); obtain $q:rcasesPatMed := h99))
local macro_rules
  | `(tactic| k_fold) => do won; `(tactic| (k_extra "fold"; intro qk hqk))
local macro_rules
  | `(tactic| k_unfold) => do won; `(tactic| k_extra "unfold")
set_option hygiene false in
local macro_rules | `(tactic| k_lt $h:ident) => do won; `(tactic| ((try ((have hT9 := $h); k_extra "T9A"; (repeat k_extra "T9A"))); replace $h := allLt_of $h; simp only [AllLt, and_true] at $h:ident))
local macro_rules | `(tactic| k_all) => do won; `(tactic| k_extra "all")
theorem w1 : True := ⟨⟩
section --Wn
theorem cont_any (ns : List Int) (k : Int) : (ns.any fun x => x == k) = ns.contains k := by
  rw [List.contains_eq_any_beq]
  congr 1
  funext x
  by_cases h : x = k
  · subst h; rfl
  · rw [beq_false_of_ne h, beq_false_of_ne (Ne.symm h)]
noncomputable def withinP (ms ns : List Int) : List Int := ms.foldl (fun l k => if ns.contains k = true then l ++ [k] else l) []
theorem wn {w : World} {loose : List Str} {mean : ExcName → Option Value} {mg mb : Str → Option Value} :
  ∀ (gd : Option (List Code)) (cn : Str) (cs : Scope) (a : Addr) (ccd : Value) (cl : List (Str × Addr)) (outer : List Env) (A₀ : Around) (base h₀ : Heap) (L : Addr) (m : Str → Option Value) (news : List (Addr × Obj)) (s : Shared)
    (Q E : Value → Shared → Prop) (r o : Addr) (xs ys : List Value) (nr no : Nat) (ms ns : List Int),
    Below A₀ base outer h₀ → Fr h₀ L s.heap m → (Mine.hd0.heap_1 w.params).In h₀ → Boot w h₀ → News h₀ L s.heap (news) → Top topProg loose mean mg mb h₀ → cs.kind = .function →
    (r, PySem.W.listOf xs.toArray nr) ∈ news → (o, PySem.W.listOf ys.toArray no) ∈ news → IntsAre xs ms → IntsAre ys ns → ms.length ≤ 60 → ns.length ≤ 60 → PySem.Challenge.rw_mr0378_01 = PySem.Challenge.rw_mr0378_01 →
    (∀ (D : Addr) (h' : Heap) (tk : Nat) (zs : List Value) (n : Nat), Fr h₀ L h' m → News h₀ L h' ((D, PySem.W.listOf zs.toArray n) :: news) → (∀ p ∈ news, p.1 ≠ D) → IntsAre zs (withinP ms ns) → zs.length ≤ ms.length → Q (.ref D) { s with heap := h', toks := tk }) →
    wpAny (model PySem.Challenge.rw_mr0378_01.row.prog w) (ktrTop 360 200 gd cn cs L a ccd cl outer) (call (.ref 281) [.ref r, .ref o]) Q E s := by
  w_top off
  k_fill
  revert w loose mean mg mb
  (with_reducible refine @wi5_ap _ _ _ _ _ ?ne9 _ ?_); (case ne9 => walk_at "NE0"); refine (?m9 : Al5 _) _ _ _ _ _; intros w loose mean mg mb; refine ap5 ?_
  rintro gd cn cs a ccd cl outer A₀ base h₀ L m news s Q E r o xs ys nr no ms ns B F X BO N T hk hr ho hi1 hi2 hm hn _ hQ
  replace N := news_front (news_front N ho) (.tail _ hr)
  refine wpAny_call ?_
  k_dflt (refine' code_defC ?k1 ?k2 ?k3 ?k4 ?k5 ?kA ?kF ?kK ?k6 ?k7 ?k8 ?k9 ?kB ?kD ?_ ?c2 ?c3 ?c4; (case kA => exact rfl); (case kF => exact rfl); (case kK => assumption); (case k1 => k_asm); (case k2 => k_asm); (case k3 => k_asm); (case k4 => k_asm); (case k5 => k_asm); (case k6 => k_is); (case k7 => k_is); (case k8 => ktr_room); (case k9 => first | exact BindsTo.of_eq rfl | exact binds_K (by k_in) rfl (by k_is) rfl rfl rfl); (case kB => exact rfl); (case kD => decide +kernel); (case c2 => exact rfl); (case c3 => exact rfl); (case c4 => exact rfl); k_whole; intro g L1 h1 tk1 cells1 FG F1 N1 Y1 B1 X1 T1 l1; (try k_lt l1); k_cells Y1; (try simp only [List.cons_append, List.nil_append] at N1); (try dsimp only); (try k_fold))
  have BO1 : Boot w g := boot_keeps BO FG.keep
  repeat' ((fail_if_success (with_reducible show wpAny _ _ (eval (Expr.ListComp _ _ _ _) _) _ _ _)); first | (k_unfold; (try dsimp only)) | (k_end; wrow_close) | walk1 | (dsimp only; walk1) | fail "no step")
  k_dflt (refine LCt.ListComp_T (F₀ := by k_asm) (by with_unfolding_all rfl) (by decide) (by rfl) (by decide) (by rfl) ?_)
  repeat' ((fail_if_success (with_reducible show LCt.CompSrcT _ _ _ _ _ _ _ _ _ _ _ _ _ _ _)); first | (k_unfold; (try dsimp only)) | (k_end; wrow_close) | walk1 | (dsimp only; walk1) | fail "no step")
  refine LCt.CompSrcT.ledger (its := xs.toArray) (k := nr) rfl (by k_asm) (by k_asm) (by k_mem) ?hsz ?_
  case hsz => rw [List.size_toArray, sizeLine_eq]; have := hi1.length; omega
  intro g'
  refine kci_list (fun l k => if ns.contains k = true then l ++ [k] else l) hi1 (fun k' t' I' oI' C' oC' D' m' ys' l' h' tk' E' hk' hI' hC' hx' F' N' off' ne' mk => ?turn) ?fin ?grow
  case grow => intro l k; dsimp only; split <;> simp
  case turn =>
    have off0 := off'
    simp only [LCg.Off3] at off'
    repeat' (first | (k_unfold; (try dsimp only)) | walk1 | (dsimp only; walk1) | fail "no step")
    all_goals (
      refine LCg.CompEnd.intro (by assumption) N' _ (fun _ hp => hp) off0 (.inr ⟨_, by k_mem, rfl, _, rfl⟩) ?_
      first
        | (refine kci_el (if_pos ?_) rfl rfl; exact (cont_any ns k').symm.trans (by assumption))
        | (refine kci_no (if_neg ?_) rfl; exact Bool.eq_false_iff.mp ((cont_any ns k').symm.trans (by assumption))))
  case fin =>
    show ∀ ys, _ → _ → LCg.FinE _ _ _ _ _ _ _
    intro zs hz hl
    unfold LCg.FinE
    intro D' h' tk' F' N' o1'
    (try dsimp only)
    (try k_unfold)
    refine leaveK_ (by assumption) (by assumption) fun kF kN => ?_
    (try dsimp only)
    have hap : ∀ {l : List (Addr × Obj)}, LCg.Off1 D' l → ∀ p ∈ l, p.1 ≠ D' := fun {l} => by
      induction l with
      | nil => intro _ p hp; exact nomatch hp
      | cons q l ih =>
        intro h p hp
        rcases List.mem_cons.mp hp with rfl | hp
        · exact h.1
        · exact ih h.2 p hp
    exact hQ D' _ _ zs _ kF (news_sub kN (sub_cons (.head _) fun p hp => .tail _ (.tail _ (.tail _ (.tail _ hp))))) (fun p hp => hap o1' p (.tail _ (.tail _ (.tail _ hp)))) hz (by simpa [hi1.length] using hl)
end
section --L1
theorem law1 {w : World} {loose : List Str} {mean : ExcName → Option Value} {mg mb : Str → Option Value} :
  ∀ (gd : Option (List Code)) (a : Addr) (outer : List Env) (A₀ : Around) (base h₀ : Heap) (L ck cr cm : Addr) (m : Str → Option Value) (news : List (Addr × Obj)) (s : Shared)
    (Q : Flow → Shared → Prop) (l : Addr) (vs : List Value) (ns : List Int),
    Below A₀ base outer h₀ → Fr h₀ L s.heap (fun y => if y = Str.ofString "script" then some (.ref l) else m y) → (Mine.hd0.heap_1 w.params).In h₀ → Boot w h₀ → News h₀ L s.heap (news) → Top topProg loose mean mg mb h₀ →
    h₀.IsList l vs.toArray → IntsAre vs ns → ns.length ≤ 63 → PySem.Challenge.rw_mr0378_01 = PySem.Challenge.rw_mr0378_01 →
    (∀ (h' : Heap) (tk : Nat) (D : Addr) (zs : List Value) (ks : List Int) (nz : Nat), Fr h₀ L h' (fun y => if y = Str.ofString "numbers" then some (.ref D) else if y = Str.ofString "script" then some (.ref l) else m y) → News h₀ L h' ((D, PySem.W.listOf zs.toArray nz) :: news) → (∀ p ∈ news, p.1 < D) → IntsAre zs ks → zs.length ≤ 12 → Q .next { s with heap := h', toks := tk }) →
    wpAny (model PySem.Challenge.rw_mr0378_01.row.prog w) (ktrTop 302 20 gd (Str.ofString "law") lawScope L a (.ref 285) [(Str.ofString "mult", cm), (Str.ofString "row", cr), (Str.ofString "key", ck)] outer) (exec (lawStmt 0) (envX (Str.ofString "law") lawScope L a (.ref 285) [(Str.ofString "mult", cm), (Str.ofString "row", cr), (Str.ofString "key", ck)])) Q (fun _ _ => False) s := by
  w_top off
  k_fill
  revert w loose mean mg mb
  (with_reducible refine @wi5_ap _ _ _ _ _ ?ne9 _ ?_); (case ne9 => walk_at "NE0"); refine (?m9 : Al5 _) _ _ _ _ _; intros w loose mean mg mb; refine ap5 ?_
  rintro gd a outer A₀ base h₀ L ck cr cm m news s Q l vs ns B F X BO N T hl hi hn _ hQ
  conv in (lawStmt _) => whnf
  conv in (occs := *) lawScope => (all_goals whnf)
  repeat' (k_extra "t1")
  · (rename Fr _ _ _ _ => F9)
    (rename News _ _ _ _ => N9)
    (rename IntsAre _ (List.take _ _) => hI9)
    have e := hI9.length
    rw [List.length_take] at e
    exact hQ _ _ _ _ _ _ F9 N9 (by assumption) hI9 (by omega)
  · (rename Fr _ _ _ _ => F9)
    (rename News _ _ _ _ => N9)
    (rename IntsAre _ (_ ++ _) => hI9)
    have e := hI9.length
    simp only [List.length_append, List.length_cons, List.length_nil] at e
    exact hQ _ _ _ _ _ _ F9 (news_sub N9 (sub_cons (.head _) fun p hp => .tail _ (.tail _ hp))) (by assumption) hI9 (by omega)
end
section --L2
theorem law2 {w : World} {loose : List Str} {mean : ExcName → Option Value} {mg mb : Str → Option Value} :
  ∀ (gd : Option (List Code)) (a : Addr) (outer : List Env) (A₀ : Around) (base h₀ : Heap) (L ck cr cm : Addr) (m : Str → Option Value) (news : List (Addr × Obj)) (s : Shared)
    (Q : Flow → Shared → Prop) (l : Addr) (vs : List Value) (ns : List Int) (om : Obj) (ov : Option Value),
    Below A₀ base outer h₀ → Fr h₀ L s.heap (fun y => if y = Str.ofString "script" then some (.ref l) else m y) → (Mine.hd0.heap_1 w.params).In h₀ → Boot w h₀ → News h₀ L s.heap ((cm, om) :: news) → Top topProg loose mean mg mb h₀ →
    om.data = .cell ov → (∀ p ∈ news, p.1 ≠ cm) → h₀.IsList l vs.toArray → IntsAre vs ns → ns.length ≤ 63 → PySem.Challenge.rw_mr0378_01 = PySem.Challenge.rw_mr0378_01 →
    (∀ (h' : Heap) (tk : Nat) (om' : Obj) (mv : Int) (t : Tok), Fr h₀ L h' (fun y => if y = Str.ofString "script" then some (.ref l) else m y) → News h₀ L h' ((cm, om') :: news) → om'.data = .cell (some (.int mv t)) → 1 ≤ mv → mv ≤ 6 → Q .next { s with heap := h', toks := tk }) →
    wpAny (model PySem.Challenge.rw_mr0378_01.row.prog w) (ktrTop 302 20 gd (Str.ofString "law") lawScope L a (.ref 285) [(Str.ofString "mult", cm), (Str.ofString "row", cr), (Str.ofString "key", ck)] outer) (exec (lawStmt 1) (envX (Str.ofString "law") lawScope L a (.ref 285) [(Str.ofString "mult", cm), (Str.ofString "row", cr), (Str.ofString "key", ck)])) Q (fun _ _ => False) s := by
  w_top off
  k_fill
  revert w loose mean mg mb
  (with_reducible refine @wi5_ap _ _ _ _ _ ?ne9 _ ?_); (case ne9 => walk_at "NE0"); refine (?m9 : Al5 _) _ _ _ _ _; intros w loose mean mg mb; refine ap5 ?_
  rintro gd a outer A₀ base h₀ L ck cr cm m news s Q l vs ns om ov B F X BO N T ho hne hl hi hn _ hQ
  conv in (lawStmt _) => whnf
  conv in (occs := *) lawScope => (all_goals whnf)
  repeat' (k_extra "t1")
  (rename Fr _ _ _ _ => F9)
  (rename News _ _ _ _ => N9)
  (rename Obj.data _ = Data.cell (some _) => hd9)
  exact hQ _ _ _ _ _ F9 (news_sub N9 fun p hp => .tail _ hp) hd9 (by rw [Int.fmod_eq_emod_of_nonneg _ (by decide)]; omega) (by rw [Int.fmod_eq_emod_of_nonneg _ (by decide)]; omega)
end
section --L3
theorem law3 {w : World} {loose : List Str} {mean : ExcName → Option Value} {mg mb : Str → Option Value} :
  ∀ (gd : Option (List Code)) (a : Addr) (outer : List Env) (A₀ : Around) (base h₀ : Heap) (L ck cr cm : Addr) (m : Str → Option Value) (news : List (Addr × Obj)) (s : Shared)
    (Q : Flow → Shared → Prop) ,
    Below A₀ base outer h₀ → Fr h₀ L s.heap (m) → (Mine.hd0.heap_1 w.params).In h₀ → Boot w h₀ → News h₀ L s.heap (news) → Top topProg loose mean mg mb h₀ →
    PySem.Challenge.rw_mr0378_01 = PySem.Challenge.rw_mr0378_01 →
    (∀ (h' : Heap) (tk : Nat) (R r0 r1 r2 : Addr), Fr h₀ L h' (fun y => if y = Str.ofString "rows" then some (.ref R) else m y) → News h₀ L h' ((R, PySem.W.listOf #[.ref r0, .ref r1, .ref r2] 0) :: (r2, PySem.W.listOf #[] 0) :: (r1, PySem.W.listOf #[] 0) :: (r0, PySem.W.listOf #[] 0) :: news) → r0 < r1 → r1 < r2 → r2 < R → (∀ p ∈ news, p.1 < r0) → Q .next { s with heap := h', toks := tk }) →
    wpAny (model PySem.Challenge.rw_mr0378_01.row.prog w) (ktrTop 302 20 gd (Str.ofString "law") lawScope L a (.ref 285) [(Str.ofString "mult", cm), (Str.ofString "row", cr), (Str.ofString "key", ck)] outer) (exec (lawStmt 2) (envX (Str.ofString "law") lawScope L a (.ref 285) [(Str.ofString "mult", cm), (Str.ofString "row", cr), (Str.ofString "key", ck)])) Q (fun _ _ => False) s := by
  w_top off
  k_fill
  revert w loose mean mg mb
  (with_reducible refine @wi5_ap _ _ _ _ _ ?ne9 _ ?_); (case ne9 => walk_at "NE0"); refine (?m9 : Al5 _) _ _ _ _ _; intros w loose mean mg mb; refine ap5 ?_
  rintro gd a outer A₀ base h₀ L ck cr cm m news s Q B F X BO N T _ hQ
  conv in (lawStmt _) => whnf
  conv in (occs := *) lawScope => (all_goals whnf)
  repeat' (k_extra "t1")
  rename_i r0 _ lt0 r1 _ _ lt1 r2 _ _ lt2 R _ lt3 _ F9 N9
  exact hQ _ _ R r0 r1 r2 F9 N9 lt1.1 lt2.1 lt3.1 lt0
end
section --L4
structure R3 where
  v0 : List Value
  v1 : List Value
  v2 : List Value
  n0 : Nat
  n1 : Nat
  n2 : Nat
theorem R3.all9 {P : R3 → Prop} (h : ∀ x0 x1 x2 x3 x4 x5, P ⟨x0, x1, x2, x3, x4, x5⟩) : ∀ c, P c := fun ⟨x0, x1, x2, x3, x4, x5⟩ => h x0 x1 x2 x3 x4 x5
theorem neR3 : Nonempty R3 := ⟨by constructor <;> exact Classical.choice inferInstance⟩
theorem law4 {w : World} {loose : List Str} {mean : ExcName → Option Value} {mg mb : Str → Option Value} :
  ∀ (gd : Option (List Code)) (a : Addr) (outer : List Env) (A₀ : Around) (base h₀ : Heap) (L ck cr cm : Addr) (m : Str → Option Value) (news : List (Addr × Obj)) (s : Shared)
    (Q : Flow → Shared → Prop) (D R r0 r1 r2 : Addr) (zs : List Value) (ks : List Int) (nz nR e0 e1 e2 : Nat),
    Below A₀ base outer h₀ → Fr h₀ L s.heap (fun y => if y = Str.ofString "rows" then some (.ref R) else if y = Str.ofString "numbers" then some (.ref D) else m y) → (Mine.hd0.heap_1 w.params).In h₀ → Boot w h₀ → News h₀ L s.heap ((D, PySem.W.listOf zs.toArray nz) :: (R, PySem.W.listOf #[.ref r0, .ref r1, .ref r2] nR) :: (r0, PySem.W.listOf #[] e0) :: (r1, PySem.W.listOf #[] e1) :: (r2, PySem.W.listOf #[] e2) :: news) → Top topProg loose mean mg mb h₀ →
    IntsAre zs ks → zs.length ≤ 12 → r0 ≠ r1 → r0 ≠ r2 → r1 ≠ r2 → R ≠ r0 → R ≠ r1 → R ≠ r2 → D ≠ r0 → D ≠ r1 → D ≠ r2 → (∀ p ∈ news, p.1 ≠ r0) → (∀ p ∈ news, p.1 ≠ r1) → (∀ p ∈ news, p.1 ≠ r2) → PySem.Challenge.rw_mr0378_01 = PySem.Challenge.rw_mr0378_01 →
    (∀ (h' : Heap) (tk : Nat) (m' : Str → Option Value) (v0 v1 v2 : List Value) (n0 n1 n2 : Nat), Fr h₀ L h' (fun y => if y = Str.ofString "rows" then some (.ref R) else m' y) → News h₀ L h' ((R, PySem.W.listOf #[.ref r0, .ref r1, .ref r2] nR) :: (r0, PySem.W.listOf v0.toArray n0) :: (r1, PySem.W.listOf v1.toArray n1) :: (r2, PySem.W.listOf v2.toArray n2) :: news) → IntsAre v0 (rowsF ks ks.length).1 → IntsAre v1 (rowsF ks ks.length).2.1 → IntsAre v2 (rowsF ks ks.length).2.2 → Q .next { s with heap := h', toks := tk }) →
    wpAny (model PySem.Challenge.rw_mr0378_01.row.prog w) (ktrTop 302 20 gd (Str.ofString "law") lawScope L a (.ref 285) [(Str.ofString "mult", cm), (Str.ofString "row", cr), (Str.ofString "key", ck)] outer) (exec (lawStmt 3) (envX (Str.ofString "law") lawScope L a (.ref 285) [(Str.ofString "mult", cm), (Str.ofString "row", cr), (Str.ofString "key", ck)])) Q (fun _ _ => False) s := by
  w_top off
  k_fill
  revert w loose mean mg mb
  (with_reducible refine @wi5_ap _ _ _ _ _ ?ne9 _ ?_); (case ne9 => walk_at "NE0"); refine (?m9 : Al5 _) _ _ _ _ _; intros w loose mean mg mb; refine ap5 ?_
  rintro gd a outer A₀ base h₀ L ck cr cm m news s Q D R r0 r1 r2 zs ks nz nR e0 e1 e2 B F X BO N T hi hz q01 q02 q12 qR0 qR1 qR2 qD0 qD1 qD2 qn0 qn1 qn2 _ hQ
  conv in (lawStmt _) => whnf
  conv in (occs := *) lawScope => (all_goals whnf)
  refine wpAny_For ?_
  k_extra "k7"
  refine enum_loop (σ := R3) (l := D) (items := zs.toArray) (nn := nz) (fun c => (r0, PySem.W.listOf c.v0.toArray c.n0) :: (r1, PySem.W.listOf c.v1.toArray c.n1) :: (r2, PySem.W.listOf c.v2.toArray c.n2) :: (R, PySem.W.listOf #[.ref r0, .ref r1, .ref r2] nR) :: (D, PySem.W.listOf zs.toArray nz) :: news)
    (fun c => [(Str.ofString "rows", .ref R)]) []
    (fun idx c => IntsAre c.v0 (rowsF ks idx).1 ∧ IntsAre c.v1 (rowsF ks idx).2.1 ∧ IntsAre c.v2 (rowsF ks idx).2.2)
    ⟨[], [], [], e0, e1, e2⟩ ?h1 ?h2 ?h3 ?h4 (by k_mem) (by assumption) ?hN ?hk ?hP ?hps ?turn ?done
  case h1 => with_unfolding_all rfl
  case h2 => with_unfolding_all rfl
  case h3 => with_unfolding_all rfl
  case h4 => with_unfolding_all rfl
  case hN => dsimp only; refine news_sub (by assumption) ?_; ((repeat ((fail_if_success (k_extra "g2")); refine sub_cons (by k_mem) ?_)); first | exact sub_nil | (intro p9 hp9; (repeat (first | exact hp9 | refine List.Mem.tail _ ?_))))
  case hk => (k_extra "PS9")
  case hP => exact ⟨.nil, .nil, .nil⟩
  case hps =>
    intro c p hp
    simp only [List.mem_cons, List.not_mem_nil, or_false] at hp
    rcases hp with rfl <;> (dsimp only; exact ⟨by decide, by decide⟩)
  case turn =>
    rintro ⟨v0, v1, v2, n0, n1, n2⟩ idx v t u h tk e it oe oi own hv ⟨hi0, hi1, hi2⟩ hw he hi' hof F5 N5
    obtain ⟨x, tx, hx, rfl⟩ := ints_of hi hv
    (try dsimp only [kstB] at F5 N5 hi0 hi1 hi2 hw)
    have hlt : idx < ks.length := (List.getElem?_eq_some_iff.mp hx).1
    have hkl := hi.length
    have hxd : ks.getD idx 0 = x := by rw [List.getD_eq_getElem?_getD, hx]; rfl
    have hw0 : r0 ∉ [e, it] := hw (r0, _) (.head _)
    have hw1 : r1 ∉ [e, it] := hw (r1, _) (.tail _ (.head _))
    have hw2 : r2 ∉ [e, it] := hw (r2, _) (.tail _ (.tail _ (.head _)))
    have own0 : ∀ r, r ∉ [e, it] → D ≠ r → ∀ p ∈ own, p.1 ≠ r := fun r hr hD p hp q => by
      have := hof p hp
      rw [q] at this
      simp only [List.mem_cons, List.not_mem_nil, or_false, not_or] at hr this
      rcases this with h | h | h
      · exact hr.1 h
      · exact hr.2 h
      · exact hD h.symm
    have hlen := rowsF_len ks idx
    obtain ⟨ra, va, na, ma, rest, hia, hla, hit, hNa, hRa, hna, back⟩ : ∃ (ra : Addr) (va : List Value) (na : Nat) (ma : List Int) (rest : List (Addr × Obj)), IntsAre va ma ∧ va.length ≤ 12 ∧ (#[.ref r0, .ref r1, .ref r2] : Array Value)[idx % 3]? = some (.ref ra) ∧ News h₀ L h ((ra, PySem.W.listOf va.toArray na) :: (R, PySem.W.listOf #[.ref r0, .ref r1, .ref r2] nR) :: rest) ∧ R ≠ ra ∧ (∀ p ∈ rest, p.1 ≠ ra) ∧
        (∀ h' va' na', News h₀ L h' ((ra, PySem.W.listOf va'.toArray na') :: (R, PySem.W.listOf #[.ref r0, .ref r1, .ref r2] nR) :: rest) → IntsAre va' (addP ma (x % 7)) → ∃ v0' v1' v2' n0' n1' n2', News h₀ L h' (own ++ (r0, PySem.W.listOf v0'.toArray n0') :: (r1, PySem.W.listOf v1'.toArray n1') :: (r2, PySem.W.listOf v2'.toArray n2') :: (R, PySem.W.listOf #[.ref r0, .ref r1, .ref r2] nR) :: (D, PySem.W.listOf zs.toArray nz) :: news) ∧ IntsAre v0' (rowsF ks (idx + 1)).1 ∧ IntsAre v1' (rowsF ks (idx + 1)).2.1 ∧ IntsAre v2' (rowsF ks (idx + 1)).2.2) := by
      have h3 : idx % 3 = 0 ∨ idx % 3 = 1 ∨ idx % 3 = 2 := by omega
      have eR : rowsF ks (idx + 1) = rowsT (rowsF ks idx) idx x := by show rowsT (rowsF ks idx) idx (ks.getD idx 0) = _; rw [hxd]
      rw [eR]
      unfold rowsT
      rcases h3 with h3 | h3 | h3
      · refine ⟨r0, v0, n0, _, (r1, PySem.W.listOf v1.toArray n1) :: (r2, PySem.W.listOf v2.toArray n2) :: (D, PySem.W.listOf zs.toArray nz) :: (own ++ news), hi0, by have := hi0.length; omega, by rw [h3]; rfl, news_sub N5 ?_, qR0, ?_, fun h' va' na' N' hi' => ⟨va', v1, v2, na', n1, n2, news_sub N' ?_, ?_, ?_, ?_⟩⟩
        · k_extra "sub"
        · intro p hp
          simp only [List.mem_cons, List.mem_append] at hp
          rcases hp with rfl | rfl | rfl | hp | hp
          · exact q01.symm
          · exact q02.symm
          · exact qD0
          · exact own0 r0 hw0 qD0 p hp
          · exact qn0 p hp
        · k_extra "sub"
        · rw [if_pos h3]; exact hi'
        · rw [if_pos h3]; exact hi1
        · rw [if_pos h3]; exact hi2
      · refine ⟨r1, v1, n1, _, (r0, PySem.W.listOf v0.toArray n0) :: (r2, PySem.W.listOf v2.toArray n2) :: (D, PySem.W.listOf zs.toArray nz) :: (own ++ news), hi1, by have := hi1.length; omega, by rw [h3]; rfl, news_sub N5 ?_, qR1, ?_, fun h' va' na' N' hi' => ⟨v0, va', v2, n0, na', n2, news_sub N' ?_, ?_, ?_, ?_⟩⟩
        · k_extra "sub"
        · intro p hp
          simp only [List.mem_cons, List.mem_append] at hp
          rcases hp with rfl | rfl | rfl | hp | hp
          · exact q01
          · exact q12.symm
          · exact qD1
          · exact own0 r1 hw1 qD1 p hp
          · exact qn1 p hp
        · k_extra "sub"
        · rw [if_neg (by omega), if_pos h3]; exact hi0
        · rw [if_neg (by omega), if_pos h3]; exact hi'
        · rw [if_neg (by omega), if_pos h3]; exact hi2
      · refine ⟨r2, v2, n2, _, (r0, PySem.W.listOf v0.toArray n0) :: (r1, PySem.W.listOf v1.toArray n1) :: (D, PySem.W.listOf zs.toArray nz) :: (own ++ news), hi2, by have := hi2.length; omega, by rw [h3]; rfl, news_sub N5 ?_, qR2, ?_, fun h' va' na' N' hi' => ⟨v0, v1, va', n0, n1, na', news_sub N' ?_, ?_, ?_, ?_⟩⟩
        · k_extra "sub"
        · intro p hp
          simp only [List.mem_cons, List.mem_append] at hp
          rcases hp with rfl | rfl | rfl | hp | hp
          · exact q02
          · exact q12
          · exact qD2
          · exact own0 r2 hw2 qD2 p hp
          · exact qn2 p hp
        · k_extra "sub"
        · rw [if_neg (by omega), if_neg (by omega)]; exact hi0
        · rw [if_neg (by omega), if_neg (by omega)]; exact hi1
        · rw [if_neg (by omega), if_neg (by omega)]; exact hi'
    clear N5 N
    have hfm : (idx : Int).fmod 3 = ((idx % 3 : Nat) : Int) := by rw [Int.fmod_eq_emod_of_nonneg _ (by decide)]; omega
    k_extra "k12"
    refine n_item hNa (.tail _ (.head _)) (by rw [hfm]; omega) (by rw [hfm]; omega) (v := .ref ra) (by rw [hfm]; exact hit) ?_
    k_extra "k12"
    · have hin : ma.contains (x % 7) = true := by
        rw [← cont_any, ← Int.fmod_eq_emod_of_nonneg x (by decide : (0:Int) ≤ 7)]; assumption
      obtain ⟨v0', v1', v2', n0', n1', n2', NB, i0', i1', i2'⟩ := back h va na hNa (by unfold addP; rw [if_pos hin]; exact hia)
      (rename Fr _ _ _ _ => F9)
      refine pturn_end (σ := R3) ⟨v0', v1', v2', n0', n1', n2'⟩ F9 NB (fun p hp => hp) ?hne1 ?hk1 ?hr1 ⟨i0', i1', i2'⟩
      case hne1 => (intro p hp; dsimp only at hp; simp only [List.mem_cons] at hp; rcases hp with rfl | rfl | rfl | rfl | rfl | hp; exact hw0; exact hw1; exact hw2; exact hw (R, _) (.tail _ (.tail _ (.tail _ (.head _)))); exact hw (D, _) (.tail _ (.tail _ (.tail _ (.tail _ (.head _))))); exact hw p (.tail _ (.tail _ (.tail _ (.tail _ (.tail _ hp))))))
      case hk1 => (k_extra "PS9")
      case hr1 => first | ksw_same | k_extra "hr2"
    · have hin : ma.contains (x % 7) = false := by
        rw [← cont_any, ← Int.fmod_eq_emod_of_nonneg x (by decide : (0:Int) ≤ 7)]; assumption
      refine n_item hNa (.tail _ (.head _)) (by rw [hfm]; omega) (by rw [hfm]; omega) (v := .ref ra) (by rw [hfm]; exact hit) ?_
      k_extra "k12"
      (rename News _ _ _ _ => N9)
      (rename Fr _ _ _ _ => F9)
      rw [List.push_toArray] at N9
      obtain ⟨v0', v1', v2', n0', n1', n2', NB, i0', i1', i2'⟩ := back _ _ _ N9 (by
        unfold addP
        rw [if_neg (by rw [hin]; decide), ← Int.fmod_eq_emod_of_nonneg x (by decide : (0:Int) ≤ 7)]
        exact ints_snoc hia _ _)
      refine pturn_end (σ := R3) ⟨v0', v1', v2', n0', n1', n2'⟩ F9 NB (fun p hp => hp) ?hne2 ?hk2 ?hr2 ⟨i0', i1', i2'⟩
      case hne2 => (intro p hp; dsimp only at hp; simp only [List.mem_cons] at hp; rcases hp with rfl | rfl | rfl | rfl | rfl | hp; exact hw0; exact hw1; exact hw2; exact hw (R, _) (.tail _ (.tail _ (.tail _ (.head _)))); exact hw (D, _) (.tail _ (.tail _ (.tail _ (.tail _ (.head _))))); exact hw p (.tail _ (.tail _ (.tail _ (.tail _ (.tail _ hp))))))
      case hk2 => (k_extra "PS9")
      case hr2 => first | ksw_same | k_extra "hr2"
  case done =>
    rintro ⟨v0, v1, v2, n0, n1, n2⟩ u h tk ⟨hi0, hi1, hi2⟩ F5 N5
    (try dsimp only [kstB] at F5 N5 hi0 hi1 hi2)
    have hl : zs.toArray.size = ks.length := by rw [List.size_toArray]; exact hi.length
    rw [hl] at hi0 hi1 hi2
    exact hQ h tk _ v0 v1 v2 n0 n1 n2 F5 (news_sub N5 (by k_extra "sub")) hi0 hi1 hi2
end
section --Kk
open PySem PySem.W PySem.Spec PySem.Calls PyProof.Rows PySem.W.X
theorem boot_bc : bootBuiltins "__build_class__" = some (.builtin "__build_class__") := by kernel_rfl
local macro_rules | `(tactic| k_all) => `(tactic| assumption)
theorem tl_dict : typeLookup (.type "dict") (Str.ofString "__getitem__") = pure (some (.builtin "dict.__getitem__")) := by kernel_rfl
theorem boot_bc' : bootBuiltins "__build_class__" = some (.builtin "__build_class__") := by kernel_rfl
theorem mem_lt {h₀ h h' : Heap} {L : Addr} {q : Addr} {o : Obj} {news : List (Addr × Obj)} (D : Mem h h' [] [(q, o)]) (N : News h₀ L h news) : ∀ p ∈ news, p.1 ≠ q := fun p hp e => by
  have a := (D.nw _ (.head _)).2
  have b := (N p hp).1
  rw [e, a] at b; cases b
section
variable {w : World} {A : Around} {E : Value → Shared → Prop} {s : Shared} {h₀ : Heap} {L : Addr} {m : Str → Option Value} {news : List (Addr × Obj)} {l : List Env} {gd : Option (List Code)}
theorem tl_tga : typeLookup (.type "type") (Str.ofString "__getattribute__") = pure (some (.builtin "type.__getattribute__")) := by kernel_rfl
theorem bs_tga : bindSpecial (.builtin "type.__getattribute__") (.type "type") = pure (.builtin "type.__getattribute__", [.type "type"]) := by kernel_rfl
theorem n_getPrep {Q : Option Value → Shared → Prop} (F : Fr h₀ L s.heap m) (N : News h₀ L s.heap news) (X : (Mine.hd0.heap_1 w.params).In h₀) (B : Boot w h₀)
    (h : ∀ q h' tk, Fr h₀ L h' m → News h₀ L h' ((q, ⟨.type "builtin_function_or_method", none, .fields #[.builtin "type.__prepare__", .type "type"], #[]⟩) :: news) → (∀ p ∈ news, p.1 ≠ q) → Q (some (.ref q)) { s with heap := h', toks := tk }) :
    wpAny (model PySem.Challenge.rw_mr0378_01.row.prog w) (Amx l gd) (getAttr? (.type "type") "__prepare__") Q E s := by
  unfold getAttr? getAttrBy?
  refine wpAny_bind (wpAny_mkText (wpAny_bind (wpAny_attempt ?_)))
  unfold getAttrBy
  refine wpAny_holding (wpAny_bind (n_eqP (a := .type "type") rfl (wpAny_bind (n_eqP tl_tga ?_))))
  show wpAny _ _ (getAttrByItsOwn (.type "type") (.str (Str.ofString "__prepare__") s.toks) (.type "type") (.builtin "type.__getattribute__") false false) _ _ _
  unfold getAttrByItsOwn hookBefore callGetattribute boundAndCalled
  refine wpAny_bind (wpAny_of_eq (show (if onTheHeap (.type "type") then typeLookup (.type "type") "__getattr__" else pure none) = pure none from rfl) ?_)
  refine wpAny_bind (wpAny_attempt (wpAny_holding ?_))
  show wpAny _ _ (bindSpecial (.builtin "type.__getattribute__") (.type "type") >>= _) _ _ _
  refine wpAny_bind (wpAny_of_eq bs_tga ?_)
  refine x_prepZ (s := { s with toks := s.toks + 1 }) (kx_in (X.keeps F.keep) fun p hp => F.keep _ _ (B p hp)) fun q h' tk D => ?_
  obtain ⟨F', N'⟩ := mem_led D F N
  exact wpAny_pure (wpAny_pure (h q h' tk F' N' (mem_lt D N)))
theorem n_prepd {t : Tok} {b q : Addr} {Q : Value → Shared → Prop} (F : Fr h₀ L s.heap m) (N : News h₀ L s.heap news) (X : (Mine.hd0.heap_1 w.params).In h₀) (B : Boot w h₀)
    (hq : (q, (⟨.type "builtin_function_or_method", none, .fields #[.builtin "type.__prepare__", .type "type"], #[]⟩ : Obj)) ∈ news)
    (h : ∀ d h' tk, Fr h₀ L h' m → News h₀ L h' ((d, dictOf [] 0) :: news) → (∀ p ∈ news, p.1 ≠ d) → Q (.ref d) { s with heap := h', toks := tk }) :
    wpAny (model PySem.Challenge.rw_mr0378_01.row.prog w) (Amx l gd) (call (.ref q) [.str (Str.ofString "K") t, .ref b]) Q E s := by
  refine x_prepd (kx_in (X.keeps F.keep) fun p hp => F.keep _ _ (B p hp)) (N.get hq) fun q h' tk D => ?_
  obtain ⟨F', N'⟩ := mem_led D F N
  exact h q h' tk F' N' (mem_lt D N)
end
theorem cb_textTuple {M : Model} {A : Around} {E : Value → Shared → Prop} {s : Shared} {h₀ : Heap} {L c P ns : Addr} {m : Str → Option Value} {rest : List (Addr × Obj)} {oc : Obj} {es : List DictEntry} {n : Nat} {ps : Array Value} {vs : List Value} {Q : Value → Shared → Prop} (B : CB h₀ L m ns P c oc es n ps rest s.heap)
    (h : ∀ l h', CB h₀ L m ns P c oc es n ps ((l, { cls := .type "tuple", data := .seq vs.toArray }) :: rest) h' → (∀ q ∈ (ns, dictOf es n) :: (P, tabObj ps) :: rest, q.1 < l) → Q (.ref l) { s with heap := h' }) : wpAny M A (newTextTuple vs) Q E s :=
  wpAny_newTextTuple (h _ _ (cb_push B (B.F.push _) (B.N.push B.F _ rfl) fun q hq => Heap.lt_size (B.N q hq).1) fun q hq => Heap.lt_size (B.N q hq).1)
theorem cb_storeT {w : World} {prog : Program} {A : Around} {E : Value → Shared → Prop} {s : Shared} {h₀ : Heap} {L c P ns : Addr} {m : Str → Option Value} {rest : List (Addr × Obj)} {oc : Obj} {env : Env} {es : List DictEntry} {n : Nat} {name : Str} {ps : Array Value} {Q : Unit → Shared → Prop} {v : Value} (B : CB h₀ L m ns P c oc es n ps rest s.heap) (hl : env.locals = ns) (hst : storeName env name v = localSet env name v)
    (hr : es.any (·.refKey) = false)
    (h : ∀ h' tk, CB h₀ L m ns P c oc (putL name (PyData.keyHash w.params name) (.str name tk) v es) (putN name es n) ps rest h' → Q () { s with heap := h', toks := s.toks + 1 }) :
    wpAny (model prog w) A (storeName env name v) Q E s := cb_store B hl hst hr fun h' B' => h h' _ B'
theorem cb_storeG {w : World} {prog : Program} {A : Around} {E : Value → Shared → Prop} {s : Shared} {h₀ : Heap} {L c P ns : Addr} {m : Str → Option Value} {rest : List (Addr × Obj)} {oc : Obj} {env : Env} {es : List DictEntry} {n : Nat} {name : Str} {ps : Array Value} {Q : Unit → Shared → Prop} {v : Value} (B : CB h₀ L m ns P c oc es n ps rest s.heap) (hl : env.locals = ns) (hst : storeName env name v = localSet env name v)
    (hr : es.any (·.refKey) = false)
    (h : ∀ h' tk v', v' = v → CB h₀ L m ns P c oc (putL name (PyData.keyHash w.params name) (.str name tk) v' es) (putN name es n) ps rest h' → Q () { s with heap := h', toks := s.toks + 1 }) :
    wpAny (model prog w) A (storeName env name v) Q E s := cb_store B hl hst hr fun h' B' => h h' _ _ rfl B'
theorem cb_as {h₀ h : Heap} {L c P ns : Addr} {m : Str → Option Value} {rest : List (Addr × Obj)} {oc : Obj} {es es' : List DictEntry} {n n' : Nat} {ps : Array Value} (B : CB h₀ L m ns P c oc es n ps rest h) (e : dictOf es n = dictOf es' n') : News h₀ L h ((ns, dictOf es' n') :: (P, tabObj ps) :: rest) := e ▸ B.N
theorem call_as {M : Model} {A : Around} {Q E : Value → Shared → Prop} {s : Shared} {f f' : Value} {a : List Value} {kw kw' : List (Str × Value)} (ef : f = f') (ek : kw = kw') (h : wpAny M A (call f' a kw') Q E s) : wpAny M A (call f a kw) Q E s := by subst ef; subst ek; exact h
noncomputable def mtObj : Value := .type ((Manifest.find? "object").elim "type" (·.metatype))
theorem mtObj_id : mtObj = mtObj := rfl
name_quick mtObjQ for Mine.mtObj by Mine.mtObj_id
theorem mtObj_is : mtObj = .type "type" := by rw [PySem.W.Fast.mtObjQ_eq]; kernel_rfl
theorem give8 {G : Prop} {h₀ h : Heap} {L : Addr} {l tl : List (Addr × Obj)} {o1 o2 o3 o4 o5 o6 o7 o8 o9 : Obj} (a1 a2 a3 a4 a5 a6 a7 a8 a9 : Addr) (N : News h₀ L h l) (m1 : (a1, o1) ∈ l) (m2 : (a2, o2) ∈ l) (m3 : (a3, o3) ∈ l) (m4 : (a4, o4) ∈ l) (m5 : (a5, o5) ∈ l) (m6 : (a6, o6) ∈ l) (m7 : (a7, o7) ∈ l) (m8 : (a8, o8) ∈ l) (m9 : (a9, o9) ∈ l) (ht : ∀ p ∈ tl, p ∈ l)
    (k : News h₀ L h ([(a1, o1), (a2, o2), (a3, o3), (a4, o4), (a5, o5), (a6, o6), (a7, o7), (a8, o8)] ++ (a9, o9) :: tl) → G) : G :=
  k fun p hp => N p ((List.mem_append.mp hp).elim (fun hp => by
    simp only [List.mem_cons, List.not_mem_nil, or_false] at hp
    rcases hp with rfl | rfl | rfl | rfl | rfl | rfl | rfl | rfl <;> assumption) fun hp => (List.mem_cons.mp hp).elim (fun e => e ▸ m9) (ht p))
theorem lt_of_allLt {d : Nat} : ∀ {l : List (Addr × Obj)}, AllLt d l → ∀ p ∈ l, @LT.lt Nat _ p.1 d
  | [], _, _, hp => nomatch hp
  | q :: l, h, p, hp => by
    rcases List.mem_cons.mp hp with rfl | hp
    · exact h.1
    · exact lt_of_allLt h.2 p hp
theorem mkK {w : World} {loose : List Str} {mean : ExcName → Option Value} {mg mb : Str → Option Value} :
  ∀ (gd : Option (List Code)) (cn : Str) (cs : Scope) (a : Addr) (ccd : Value) (cl : List (Str × Addr)) (outer : List Env) (A₀ : Around) (base h₀ : Heap) (L : Addr) (m : Str → Option Value) (news : List (Addr × Obj)) (s : Shared)
    (Q E : Value → Shared → Prop) (f : Addr),
    Below A₀ base outer h₀ → Fr h₀ L s.heap m → (Mine.hd0.heap_1 w.params).In h₀ → Boot w h₀ → CodeHd h₀ 252 248 → News h₀ L s.heap ((248, tabObj #[]) :: news) → (∀ q ∈ news, q.1 ≠ 248) → Top topProg loose mean mg mb h₀ → cs.kind = .function →
    PySem.Challenge.rw_mr0378_01 = PySem.Challenge.rw_mr0378_01 →
    (∀ (kc : Addr) (L0 : List (Addr × Obj)) (tab : Array Value) (h' : Heap) (tk : Nat), Fr h₀ L h' m → News h₀ L h' (L0 ++ (248, tabObj tab) :: news) → (∀ p ∈ L0, ∀ q ∈ (248, tabObj tab) :: news, p.1 ≠ q.1) → KiC w loose mean mg mb kc L0 → KltC w loose mean mg mb kc f L0 → Q (.ref kc) { s with heap := h', toks := tk }) →
    wpAny (model PySem.Challenge.rw_mr0378_01.row.prog w) (ktrTop 400 100 gd cn cs L a ccd cl outer) (call (.ref 253) [.ref f]) Q E s := by
  w_top off
  k_fill
  revert w loose mean mg mb
  (with_reducible refine @wi5_ap _ _ _ _ _ ?ne9 _ ?_); (case ne9 => walk_at "NE0"); refine (?m9 : Al5 _) _ _ _ _ _; intros w loose mean mg mb; refine ap5 ?_
  rintro gd cn cs a ccd cl outer A₀ base h₀ L m news s Q E f B F X BO CH N hN T hk _ hQ
  refine wpAny_call ?_
  k_dflt (refine' code_defC ?k1 ?k2 ?k3 ?k4 ?k5 ?kA ?kF ?kK ?k6 ?k7 ?k8 ?k9 ?kB ?kD ?_ ?c2 ?c3 ?c4; (case kA => exact rfl); (case kF => exact rfl); (case kK => assumption); (case k1 => k_asm); (case k2 => k_asm); (case k3 => k_asm); (case k4 => k_asm); (case k5 => k_asm); (case k6 => k_is); (case k7 => k_is); (case k8 => ktr_room); (case k9 => exact BindsTo.of_eq rfl); (case kB => exact rfl); (case kD => decide +kernel); (case c2 => exact rfl); (case c3 => exact rfl); (case c4 => exact rfl); k_whole; intro g' L' h' tk' cells' FG' F' N' Y' B' X' T' l1; (try k_lt l1); k_cells Y'; (try simp only [List.cons_append, List.nil_append] at N'); (try dsimp only); (try k_lift B'); (try k_fold))
  have CH' : CodeHd g' 252 248 := CH.keeps FG'.keep
  have BO' : Boot w g' := fun p hp => FG'.keep _ _ (BO p hp)
  repeat' ((fail_if_success (with_reducible show wpAny _ _ (exec (Stmt.ClassDef _ _ _ _ _ _ _ _ _ _ _) _) _ _ _)); k_extra "t1")
  rw [arm_exec_ClassDef]
  unfold buildClassGuard
  refine wpAny_bind (wpAny_pure (wpAny_bind (wpAny_standAt (wpAny_bind (wpAny_bind (n_nsB (by assumption) (by assumption) boot_bc (by decide) (wpAny_pure ?_)))))))
  refine wpAny_bind (wpAny_holding (wpAny_bind ?_))
  repeat' ((fail_if_success (with_reducible show wpAny _ _ (classCode _ _ _ _ _ _) _ _ _)); first
    | ((with_reducible show wpAny _ _ (getAttr? _ _) _ _ _); refine wpAny_up (n_getPrep (by assumption) (by assumption) X' BO' ?_) (Nat.le_of_ble_eq_true rfl) (Nat.le_of_ble_eq_true rfl); intro q' h' tk' F' N' l1; (replace l1 := allNe_of l1; simp only [AllNe, and_true] at l1); k_sweep; skip)
    | ((with_reducible show wpAny _ _ (call (Value.ref _) _ _) _ _ _); refine wpAny_up (n_prepd (by assumption) (by assumption) X' BO' (by k_mem) ?_) (Nat.le_of_ble_eq_true rfl) (Nat.le_of_ble_eq_true rfl); intro q' h' tk' F' N' l1; (have l1' := allNe_of l1; simp only [AllNe, and_true] at l1'); k_sweep; skip)
    | ((with_reducible show wpAny _ _ (ite ((_ == sysModules) = true) _ _) _ _ _); refine n_iteB (by assumption) (by k_mem) BO' ?_)
    | ((with_reducible show wpAny _ _ (specialOf _ _) _ _ _); refine n_spDict (by assumption) (by k_mem) tl_dict ?_; skip)
    | walk1
    | (with_reducible refine wpAny_bind ?_) | (with_reducible refine nd_bind ?_) | (with_reducible refine wpAny_holding ?_) | (with_reducible refine wpAny_onRaise ?_) | (with_reducible refine wpAny_standAt ?_)
    | (with_reducible refine n_load (by assumption) (by k_mem) ?_)
    | (with_reducible refine n_loadK (by assumption) (by assumption) (by k_is) ?_)
    | (with_reducible refine n_alloc (by assumption) (by assumption) (by rfl) ?_; intro a' h' F' N' l1; k_lt l1; k_sweep)
    | (with_reducible refine nd_pure ?_) | (with_reducible refine wpAny_pure ?_)
    | (k_node; skip))
  refine cs_codeU (ps := #[]) (by assumption) (by assumption) (by k_updF) CH' rfl trivial rfl ?_
  intro c' P' oc' h' tk' F' N' hC' l1 l2 hne'
  refine wpAny_bind (n_builtins F' T' (wpAny_bind (n_bodyFrame F' N' T' ?_)))
  rintro a9 o9 h9 F9 N9 l9
  clear F' N'
  refine wpAny_bind (wpAny_pure (wpAny_holding (wpAny_bind (wpAny_enterFrame (T'.nolimit.keeps F9.keep) (by k_room) (wpAny_bind (wpAny_onRaise (wpAny_bind ?_)))))))
  have hB := cb_start F9 N9 hC' (l1 _) (l2 _) hne' l9 (ne_of_allNe (by assumption))
  clear F9 N9
  have hnm := mg_of X' T'.g (n := Str.ofString "__name__") (by k_is)
  unfold loadName
  repeat' ((fail_if_success (with_reducible show wpAny _ _ (storeName _ _ _) _ _ _)); first
    | ((with_reducible show wpAny _ _ (localGet _ _) _ _ _); refine n_localNone hB.N (.head _) rfl ?_)
    | ((with_reducible show wpAny _ _ (loadGlobal _ _) _ _ _); refine n_global hB.F T' rfl hnm ?_)
    | (with_reducible refine wpAny_bind ?_) | (with_reducible refine nd_pure ?_) | (with_reducible refine wpAny_pure ?_)
    | k_node)
  refine cb_storeG hB rfl (by rfl) (by kernel_rfl) ?_
  rintro h1 u0 v1 e1 hB
  refine wpAny_bind (wpAny_mkText (wpAny_bind (cb_storeG hB rfl (by rfl) (by kernel_rfl) ?_)))
  rintro h2 u1 qn eqn hB
  refine wpAny_bind (wpAny_mkInt (wpAny_bind (cb_storeG hB rfl (by rfl) (by kernel_rfl) ?_)))
  rintro h3 u2 fl efl hB
  refine wpAny_pure ?_
  refine wpAny_bind (wpAny_run (codeAny_body rfl rfl ?_))
  refine wpAny_execs_cons (wpAny_Assign_Name (wpAny_Constant_str (cb_storeG hB rfl (by rfl) (by kernel_rfl) ?_)))
  rintro h4 t0b md emd hB
  refine wpAny_execs_cons (wpAny_Assign_Name (List_ ?_))
  walk1
  walk1
  walk1
  refine cb_newList hB ?_
  rintro lS h5 hB lS1
  refine cb_storeT hB rfl (by rfl) (by kernel_rfl) ?_
  rintro h6 u3 hB
  refine wpAny_execs_cons (cb_def hB T' rfl rfl (by with_reducible exact of_eq_true (by kernel_rfl)) (by kernel_rfl) rfl rfl (fun _ => by rfl) (by kernel_rfl) rfl rfl rfl ?_)
  rintro f1 c1 oc1 vs1 t1 ctv1 doc1 h7 tk7 tk7' hB hoc1 hvs1 lt1 cf1
  refine wpAny_execs_cons (cb_def hB T' rfl rfl (by with_reducible exact of_eq_true (by kernel_rfl)) (by kernel_rfl) rfl rfl (fun _ => by rfl) (by kernel_rfl) rfl rfl rfl ?_)
  rintro f2 c2 oc2 vs2 t2 ctv2 doc2 h27 tk27 tk27' hB hoc2 hvs2 lt2 cf2
  refine wpAny_execs_cons (cb_def hB T' rfl rfl (by with_reducible exact of_eq_true (by kernel_rfl)) (by kernel_rfl) rfl rfl (fun _ => by rfl) (by kernel_rfl) rfl rfl rfl ?_)
  rintro f3 c3 oc3 vs3 t3 ctv3 doc3 h37 tk37 tk37' hB hoc3 hvs3 lt3 cf3
  refine wpAny_execs_cons (cb_def hB T' rfl rfl (by with_reducible exact of_eq_true (by kernel_rfl)) (by kernel_rfl) rfl rfl (fun _ => by rfl) (by kernel_rfl) rfl rfl rfl ?_)
  rintro f4 c4 oc4 vs4 t4 ctv4 doc4 h47 tk47 tk47' hB hoc4 hvs4 lt4 cf4
  refine wpAny_execs_cons (cb_def hB T' rfl rfl (by with_reducible exact of_eq_true (by kernel_rfl)) (by kernel_rfl) rfl rfl (fun _ => by rfl) (by kernel_rfl) rfl rfl rfl ?_)
  rintro f5 c5 oc5 vs5 t5 ctv5 doc5 h57 tk57 tk57' hB hoc5 hvs5 lt5 cf5
  refine wpAny_execs_cons (cb_def hB T' rfl rfl (by with_reducible exact of_eq_true (by kernel_rfl)) (by kernel_rfl) rfl rfl (fun _ => by rfl) (by kernel_rfl) rfl rfl rfl ?_)
  rintro f6 c6 oc6 vs6 t6 ctv6 doc6 h67 tk67 tk67' hB hoc6 hvs6 lt6 cf6
  refine wpAny_execs_cons (wpAny_Assign_Name ?_)
  walk1
  refine cb_storeT hB rfl (by rfl) (by kernel_rfl) ?_
  rintro h8 u10 hB
  refine wpAny_execs_nil ?_
  refine wpAny_bind (wpAny_onRaise (wpAny_bind (wpAny_mkStrs ?_)))
  rintro vs
  refine wpAny_bind (cb_textTuple hB ?_)
  rintro sa h9 hB ltsa
  refine wpAny_bind (cb_storeT hB rfl (by rfl) (by kernel_rfl) ?_)
  rintro h10 u11 hB
  refine wpAny_pure ?_
  refine n_iteF rfl ?_
  clear F' N'
  refine wpAny_bind ?_
  have F9 := hB.F
  have eqn' : ∃ tq, qn = .str (Str.ofString "cmp_to_key.<locals>.K") tq := ⟨_, eqn.trans (congrArg (fun x => Value.str x _) (show _ = Str.ofString "cmp_to_key.<locals>.K" by kernel_rfl))⟩
  obtain ⟨tq, rfl⟩ := eqn'
  have N9 := cb_as (es' := kEs w.params md (.str (Str.ofString "cmp_to_key.<locals>.K") tq) fl (fun i => ([u0, u1, u2, u3, tk7', tk27', tk37', tk47', tk57', tk67', u10, u11] : List Nat).getD i.val 0) lS sa f1 f2 f3 f4 f5 f6) (n' := 12) hB (by kernel_rfl)
  clear hB
  refine call_as (f' := .type "type") (kw' := []) (show mtObj = _ from mtObj_is) (by rfl) ?_
  refine wpAny_call ?_
  refine codeAny_up (n_mkcls (bT := _) (lS := lS) F9 X' BO' ⟨_, _, emd⟩ ⟨_, _, efl⟩ ⟨_, by k_mem, rfl⟩ ⟨_, by k_mem, rfl⟩ ⟨_, by k_mem, rfl⟩ ⟨_, by k_mem, rfl⟩ ⟨_, by k_mem, rfl⟩ ⟨_, by k_mem, rfl⟩ ⟨_, by k_mem, rfl⟩ (news_front (news_front (news_front N9 (by k_mem)) (by k_mem)) (.tail _ (.tail _ (.head _)))) ?_) (Nat.le_of_ble_eq_true rfl) (Nat.le_of_ble_eq_true rfl)
  rintro kc nk dm t1 t2 t3 h' tk F' N' hx
  (try dsimp only)
  clear F9 N9
  repeat' ((k_extra "g9"); first | ((with_reducible show wpAny _ _ (decorate _ _) _ _ _); refine n_eqP (a := .ref kc) (by rfl) ?_) | (with_reducible refine wpAny_standAt ?_) | (with_reducible refine wpAny_bindName ?_) | (k_unfold; (try dsimp only)) | (with_reducible refine wpAny_bind ?_) | (with_reducible refine wpAny_pure ?_) | walk1 | (dsimp only; walk1))
  (try dsimp only)
  refine leaveK_ (by assumption) (by assumption) fun kF kN => ?_

  (try dsimp only)
  have hcell := (by assumption : Obj.data _ = Data.cell _)
  refine give8 (tl := news) dm kc nk f1 c1 f2 c2 (L' + 1) 248 kN (by k_mem) (by k_mem) (by k_mem) (by k_mem) (by k_mem) (by k_mem) (by k_mem) (by k_mem) (by k_mem) (fun p hp => by repeat (first | exact hp | apply List.Mem.tail)) fun kN => ?_
  refine hQ kc _ _ _ _ kF kN ?dis ?ki ?klt
  case dis =>
    rename 248 < L' ∧ AllLt L' news => hL9
    have hT9 := lt_of_allLt hL9.2
    have k1 : @LT.lt Nat _ (L' + 1) c1 := lt1 (L' + 1, _) (by k_mem)
    have k2 : @LT.lt Nat _ (L' + 1) c2 := lt2 (L' + 1, _) (by k_mem)
    have k3 : @LT.lt Nat _ c1 f1 := cf1
    have k4 : @LT.lt Nat _ c2 f2 := cf2
    intro p hp q hq
    have hq1 : @LT.lt Nat _ q.1 L' := by
      rcases List.mem_cons.mp hq with rfl | hq
      · exact hL9.1
      · exact hT9 q hq
    have hq2 : q.1 ≠ kc ∧ q.1 ≠ nk ∧ q.1 ≠ dm := by
      rcases List.mem_cons.mp hq with rfl | hq
      · exact hx (248, _) (by k_mem)
      · exact hx q (by repeat (first | exact hq | apply List.Mem.tail))
    simp only [List.mem_cons, List.not_mem_nil, or_false] at hp
    rcases hp with rfl | rfl | rfl | rfl | rfl | rfl | rfl | rfl
    · exact hq2.2.2.symm
    · exact hq2.1.symm
    · exact hq2.2.1.symm
    · exact Nat.ne_of_gt (by dsimp only; omega)
    · exact Nat.ne_of_gt (by dsimp only; omega)
    · exact Nat.ne_of_gt (by dsimp only; omega)
    · exact Nat.ne_of_gt (by dsimp only; omega)
    · exact Nat.ne_of_gt (by dsimp only; omega)
  case ki =>
    unfold KiC
    intro gd2 cn2 cs2 a2 ccd2 cl2 outer2 A2 base2 h2 L2 m2 news2 s2 Q2 E2 v2 HH hL hR
    obtain ⟨B2, F2, X2, BO2, N2, T2, hk2⟩ := HH
    replace N2 := news_app N2 hL
    clear kN kF
    simp only [List.cons_append, List.nil_append] at N2
    refine wpAny_call (n_kcall F2 X2 N2 (by k_mem) (by k_mem) (by k_mem) ?_)
    rintro d q h' F' N' l1 l2
    refine ⟨fun s' => ∃ h9 tk9, s' = { s2 with heap := h9, toks := tk9 } ∧ Fr h2 L2 h9 m2 ∧ News h2 L2 h9 ((q, instO kc d v2) :: (d, dictOf [] 0) :: news2), ?ra9, ?rb9⟩
    case' ra9 => intro R hR2
    · refine code_nest B2 F' X2 N' T2 rfl rfl hk2 (by k_mem) (codeRec_news (by k_asm) (by k_mem) (by assumption) (by assumption)) (Nat.le_of_ble_eq_true (by kernel_rfl)) (BindsTo.of_eq rfl) (locs rfl) ?_ rfl rfl rfl (by decide)
      clear N2 F2 l2
      intro g L1 h1 FG F1 N1 B1 X1 T1
      clear F' N'
      try dsimp only
      repeat' ((fail_if_success (with_reducible show wpAny _ _ (setAttr _ _ _) _ _ _)); k_extra "t1")
      refine n_setE (kc := kc) (nk := nk) (dm := dm) (d := d) F1 X1 N1 (by k_mem) (by k_mem) (by k_mem) (.head _) (.head fun p hp => Nat.ne_of_lt (l1 p hp)) ?_
      rintro h9 tk9 F9 N9
      clear F1 N1
      k_extra "k20"
      refine leaveK_ (by assumption) (by assumption) fun kF kN => ?_
      (try dsimp only)
      exact hR2 _ ⟨_, _, rfl, kF, news_sub kN (by
        refine sub_cons (.head _) (sub_cons (.tail _ (.head _)) fun p hp => ?_)
        repeat (first | exact hp | apply List.Mem.tail))⟩
    · rintro s' ⟨h9, tk9, rfl, F9, N9⟩
      exact hR q d h9 tk9 F9 N9 (fun p hp => l1 p (by
        rcases List.mem_cons.mp hp with rfl | hp
        · exact .head _
        · repeat (first | exact hp | apply List.Mem.tail)) ) fun p hp => l2 p (by repeat (first | exact hp | apply List.Mem.tail))
  case klt =>
    unfold KltC
    intro gd2 cn2 cs2 a2 ccd2 cl2 outer2 A2 base2 h2 L2 m2 news2 s2 Q2 E2 q r d d' x y tx ty L1 cmp HH hL hC hL1 hfn b1 b2 b3 b4 hq hr hR
    obtain ⟨B2, F2, X2, BO2, N2, T2, hk2⟩ := HH
    replace N2 := news_app N2 hL
    clear kN kF
    simp only [List.cons_append, List.nil_append] at N2
    replace N2 := news_front (p := (r, instO kc d' (.int y ty))) (news_front (p := (q, instO kc d (.int x tx))) N2 (by repeat (first | exact hq | apply List.Mem.tail))) (.tail _ (by repeat (first | exact hr | apply List.Mem.tail)))
    have hcell' := hcell.trans (show _ = Data.cell (some (.ref f)) by kernel_rfl)
    refine n_ltask (show 600 < cLine by decide) N2 (by k_mem) (by k_mem) (by k_mem) (.tail _ (.head _)) (wpAny_call ?_)
    refine code_nest B2 F2 X2 N2 T2 rfl rfl hk2 (by k_mem) (codeRec_news (by k_asm) (by k_mem) (by assumption) (by assumption)) (Nat.le_of_ble_eq_true (by kernel_rfl)) (BindsTo.of_eq rfl) (locs rfl) ?_ rfl rfl rfl (by decide)
    clear N2 F2
    intro g L9 h1 FG F1 N1 B1 X1 T1
    try dsimp only
    repeat' ((fail_if_success (with_reducible show wpAny _ _ (getAttr _ _ _) _ _ _)); (fail_if_success (with_reducible show wpAny _ _ (call _ _ _) _ _ _)); k_extra "t1")
    obtain ⟨foc, fod, ffd, fsl, hfm⟩ := hfn
    have hfm' := hL1 _ hfm
    have hF1 : FnAt f h1 := FnAt.of N1 (oc := foc) (od := fod) (fd := ffd) (sl := fsl) (by repeat (first | exact hfm' | apply List.Mem.tail))
    refine callWith_F hF1 ?_
    k_extra "k13"
    refine n_getD (kc := kc) (nk := nk) (dm := dm) (d := d) F1 X1 N1 (by k_mem) (by k_mem) (by k_mem) (.tail _ (.head _)) ?_
    rintro tk1
    k_extra "k13"
    refine n_getD (kc := kc) (nk := nk) (dm := dm) (d := d') F1 X1 N1 (by k_mem) (by k_mem) (by k_mem) (.head _) ?_
    rintro tk2
    k_extra "k13"
    refine ⟨hF1, ?_⟩
    refine wpAny_up (hC _ _ _ _ _ _ _ _ _ _ _ _ _ _ _ _ x y tx ty ⟨B1, F1, X1, boot_keeps BO2 FG.keep, N1, T1, rfl⟩ (fun p hp => (by have hp := hL1 p hp; repeat (first | exact hp | apply List.Mem.tail))) b1 b2 b3 b4 ?_) (Nat.le_of_ble_eq_true rfl) (Nat.le_of_ble_eq_true rfl)
    rintro h9 tk9 tv F9 N9
    clear F1 N1
    k_extra "k20"
    refine leaveK_ (by assumption) (by assumption) fun kF kN => ?_
    exact hR _ _ kF (news_sub kN fun p hp => by repeat (first | exact hp | apply List.Mem.tail))
end
section --L5
theorem law5 {w : World} {loose : List Str} {mean : ExcName → Option Value} {mg mb : Str → Option Value} :
  ∀ (gd : Option (List Code)) (a : Addr) (outer : List Env) (A₀ : Around) (base h₀ : Heap) (L ck cr cm : Addr) (m : Str → Option Value) (news : List (Addr × Obj)) (s : Shared)
    (Q : Flow → Shared → Prop) (om ok orr : Obj) (ov1 ov2 : Option Value) (mv : Int) (t : Tok),
    Below A₀ base outer h₀ → Fr h₀ L s.heap (m) → (Mine.hd0.heap_1 w.params).In h₀ → Boot w h₀ → News h₀ L s.heap ((248, tabObj #[]) :: (283, tabObj #[]) :: (ck, ok) :: (cr, orr) :: (cm, om) :: news) → Top topProg loose mean mg mb h₀ →
    CodeHd h₀ 252 248 → CodeHd h₀ 285 283 → om.data = .cell (some (.int mv t)) → 1 ≤ mv → mv ≤ 6 → ok.data = .cell ov1 → orr.data = .cell ov2 → ck ≠ cm → ck ≠ cr → cr ≠ cm → @LT.lt Nat _ 283 ck → @LT.lt Nat _ 283 cr → @LT.lt Nat _ 283 cm → (∀ p ∈ news, p.1 ≠ 248) → (∀ p ∈ news, p.1 ≠ 283) → (∀ p ∈ news, p.1 ≠ ck) → (∀ p ∈ news, p.1 ≠ cr) → (∀ p ∈ news, p.1 ≠ cm) → PySem.Challenge.rw_mr0378_01 = PySem.Challenge.rw_mr0378_01 →
    (∀ (h' : Heap) (tk : Nat) (kc f : Addr) (L0 L1 : List (Addr × Obj)) (tab1 : Array Value) (cc : Addr) (ok' : Obj), Fr h₀ L h' m → News h₀ L h' ((248, tabObj tab1) :: (283, tabObj #[rawInt 547, rawInt 21, .ref cc]) :: (ck, ok') :: (cr, orr) :: (cm, om) :: (L0 ++ (L1 ++ news))) → ok'.data = .cell (some (.ref kc)) → (∀ p ∈ L0 ++ (L1 ++ news), @Ne Nat p.1 283 ∧ p.1 ≠ ck ∧ p.1 ≠ cr ∧ p.1 ≠ cm) → KiC w loose mean mg mb kc L0 → KltC w loose mean mg mb kc f L0 → CmpC w loose mean mg mb f ((cm, om) :: L1) (fun x y => x * mv % 7 - y * mv % 7) → (∃ oc od fd sl, (f, (⟨oc, od, .func fd, sl⟩ : Obj)) ∈ L1) → Q .next { s with heap := h', toks := tk }) →
    wpAny (model PySem.Challenge.rw_mr0378_01.row.prog w) (ktrTop 302 20 gd (Str.ofString "law") lawScope L a (.ref 285) [(Str.ofString "mult", cm), (Str.ofString "row", cr), (Str.ofString "key", ck)] outer) (exec (lawStmt 4) (envX (Str.ofString "law") lawScope L a (.ref 285) [(Str.ofString "mult", cm), (Str.ofString "row", cr), (Str.ofString "key", ck)])) Q (fun _ _ => False) s := by
  w_top off
  k_fill
  revert w loose mean mg mb
  (with_reducible refine @wi5_ap _ _ _ _ _ ?ne9 _ ?_); (case ne9 => walk_at "NE0"); refine (?m9 : Al5 _) _ _ _ _ _; intros w loose mean mg mb; refine ap5 ?_
  rintro gd a outer A₀ base h₀ L ck cr cm m news s Q om ok orr ov1 ov2 mv t B F X BO N T CH CH2 ho m1 m6 hok horr q1 q2 q3 q4 q5 q6 n1 n2 n3 n4 n5 _ hQ
  conv in (lawStmt _) => whnf
  conv in (occs := *) lawScope => (all_goals whnf)
  k_extra "k10"
  rename_i f c oc vs9 t9 ct9 _ _ F1 N1 d1 d2 lt1 lt2
  have hcn : ∀ p ∈ news, @LT.lt Nat _ p.1 c := lt_of_allLt lt1.2.2.2.2.2
  have lc1 : @LT.lt Nat _ 248 c := lt1.1
  have lc2 : @LT.lt Nat _ 283 c := lt1.2.1
  have lc3 : @LT.lt Nat _ ck c := lt1.2.2.1
  have lc4 : @LT.lt Nat _ cr c := lt1.2.2.2.1
  have lc5 : @LT.lt Nat _ cm c := lt1.2.2.2.2.1
  have lc6 : @LT.lt Nat _ c f := lt2
  replace N1 : News h₀ L _ ((f, _) :: (c, oc) :: (248, tabObj #[]) :: (283, tabObj #[rawInt 547, rawInt 21, .ref c]) :: (ck, ok) :: (cr, orr) :: (cm, om) :: news) := N1
  have hoX : ∃ o : Obj, o = objO N1 := ⟨_, rfl⟩
  dsimp only [objO] at hoX
  obtain ⟨oF, hoF⟩ := hoX
  have N2 := news_sub N1 (l' := (248, tabObj #[]) :: (283, tabObj #[rawInt 547, rawInt 21, .ref c]) :: (f, _) :: (c, oc) :: (ck, ok) :: (cr, orr) :: (cm, om) :: news) (sub_cons (.tail _ (.tail _ (.head _))) (sub_cons (.tail _ (.tail _ (.tail _ (.head _)))) (sub_cons (.head _) (sub_cons (.tail _ (.head _)) fun p hp => .tail _ (.tail _ (.tail _ (.tail _ hp)))))))
  refine wpAny_up (mkK gd _ _ a _ _ outer A₀ base h₀ L m _ _ _ _ f B F1 X BO CH N2 ?hN T rfl rfl ?_) (Nat.le_of_ble_eq_true rfl) (Nat.le_of_ble_eq_true rfl)
  case hN =>
    intro p hp
    simp only [List.mem_cons] at hp
    rcases hp with rfl | rfl | rfl | rfl | rfl | rfl | hp
    · exact (by decide : @Ne Nat 283 248)
    · exact Nat.ne_of_gt (Nat.lt_trans lc1 lc6)
    · exact Nat.ne_of_gt lc1
    · exact Nat.ne_of_gt (Nat.lt_trans (by decide : @LT.lt Nat _ 248 283) q4)
    · exact Nat.ne_of_gt (Nat.lt_trans (by decide : @LT.lt Nat _ 248 283) q5)
    · exact Nat.ne_of_gt (Nat.lt_trans (by decide : @LT.lt Nat _ 248 283) q6)
    · exact n1 p hp
  intro kc L0 tab h3 tk3 F3 N3 dis hKi hKl
  have hC : CmpC w loose mean mg mb f ((cm, om) :: [(f, oF), (c, oc)]) (fun x y => x * mv % 7 - y * mv % 7) := by
    unfold CmpC
    intro gd2 cn2 cs2 a2 ccd2 cl2 outer2 A2 base2 h2 L2 m2 news2 s2 Q2 E2 x y tx ty HH hL b1 b2 b3 b4 hR
    obtain ⟨B2, F2, X2, BO2, N5, T2, hk2⟩ := HH
    rw [hoF] at hL
    replace N5 := news_app N5 hL
    clear hoF N1 N2 N3 F1 F3
    simp only [List.cons_append, List.nil_append] at N5
    refine wpAny_call ?_
    refine kla_code B2 F2 X2 N5 T2 rfl rfl hk2 (.tail _ (.head _)) (codeRec_news N5 (.tail _ (.tail _ (.head _))) d1 d2) (Nat.le_of_ble_eq_true (by kernel_rfl)) rfl (locs rfl) ?_ rfl rfl rfl (by decide)
    clear F2 N5
    intro g L9 h1 FG F6 N6 B6 X6 T6
    try dsimp only
    repeat' ((k_extra "g9"); k_extra "t0")
    rw [Int.fmod_eq_emod_of_nonneg (x * mv) (by decide : (0:Int) ≤ 7), Int.fmod_eq_emod_of_nonneg (y * mv) (by decide : (0:Int) ≤ 7)]
    refine leaveK_ (by assumption) (by assumption) fun kF kN => ?_
    exact hR _ _ _ kF (news_sub kN fun p hp => .tail _ (.tail _ (.tail _ hp)))
  have hdis : ∀ p ∈ L0 ++ ([(f, oF), (c, oc)] ++ news), @Ne Nat p.1 283 ∧ p.1 ≠ ck ∧ p.1 ≠ cr ∧ p.1 ≠ cm := by
    intro p hp
    rcases List.mem_append.mp hp with hp | hp
    · exact ⟨dis p hp (283, _) (.tail _ (.head _)), dis p hp (ck, ok) (.tail _ (.tail _ (.tail _ (.tail _ (.head _))))), dis p hp (cr, orr) (.tail _ (.tail _ (.tail _ (.tail _ (.tail _ (.head _)))))), dis p hp (cm, om) (.tail _ (.tail _ (.tail _ (.tail _ (.tail _ (.tail _ (.head _)))))))⟩
    · simp only [List.cons_append, List.nil_append, List.mem_cons] at hp
      rcases hp with rfl | rfl | hp
      · exact ⟨Nat.ne_of_gt (Nat.lt_trans lc2 lc6), Nat.ne_of_gt (Nat.lt_trans lc3 lc6), Nat.ne_of_gt (Nat.lt_trans lc4 lc6), Nat.ne_of_gt (Nat.lt_trans lc5 lc6)⟩
      · exact ⟨Nat.ne_of_gt lc2, Nat.ne_of_gt lc3, Nat.ne_of_gt lc4, Nat.ne_of_gt lc5⟩
      · exact ⟨n2 p hp, n3 p hp, n4 p hp, n5 p hp⟩
  have hL1 : ∃ L1 : List (Addr × Obj), L1 = [(f, oF), (c, oc)] := ⟨_, rfl⟩
  obtain ⟨L1, hL1⟩ := hL1
  have hfn : ∃ oc od fd sl, (f, (⟨oc, od, .func fd, sl⟩ : Obj)) ∈ L1 := ⟨_, _, _, _, by rw [hL1, hoF]; exact .head _⟩
  have N4 : News h₀ L h3 ((248, tabObj tab) :: (283, tabObj #[rawInt 547, rawInt 21, .ref c]) :: (ck, ok) :: (cr, orr) :: (cm, om) :: (L0 ++ ([(f, objO N1), (c, oc)] ++ news))) := news_sub N3 (by
    k_extra "sub")
  dsimp only [objO] at N4
  rw [← hoF] at N4
  rw [← hL1] at hC hdis N4
  clear hL1 hoF
  clear N1 N2 N3 F1
  obtain ⟨rest, hrest⟩ : ∃ r, r = L0 ++ (L1 ++ news) := ⟨_, rfl⟩
  rw [← hrest] at hdis N4
  have hk1 : ∀ p ∈ rest, p.1 ≠ ck := fun p hp => (hdis p hp).2.1
  have u1 : @Ne Nat 248 ck := Nat.ne_of_lt (Nat.lt_trans (by decide : @LT.lt Nat _ 248 283) q4)
  have u2 : @Ne Nat 283 ck := Nat.ne_of_lt q4
  refine storeX_C F3 N4 (c := ck) rfl (.tail u1 (.tail u2 (.head ?hh))) hok (fun h9 o9 F9 N9 d9 => ?_) rfl rfl
  case hh =>
    intro p hp
    rcases List.mem_cons.mp hp with rfl | hp
    · exact q2.symm
    · rcases List.mem_cons.mp hp with rfl | hp
      · exact q1.symm
      · exact hk1 p hp
  subst hrest
  exact hQ _ _ kc f L0 L1 _ c _ F9 N9 d9 hdis hKi hKl hC hfn
end
section --Sh
noncomputable def OpsOk (ms ns : List Int) : Prop := (opsF ms ns).length ≤ 50 ∧ ∀ o ∈ opsF ms ns, 0 ≤ o.nums.1 ∧ o.nums.1 ≤ o.nums.2.1 ∧ o.nums.2.1 ≤ (ms.length : Int)
noncomputable def sharedT (ms : List Int) (acc : List Int) (o : Op) : List Int := if o.tag = Str.ofString "equal" then acc ++ (ms.drop o.nums.1.toNat).take (o.nums.2.1 - o.nums.1).toNat else acc
noncomputable def sharedP (ms : List Int) (ops : List Op) : List Int := ops.foldl (sharedT ms) []
structure ShS where
  ws : List Value
  nw : Nat
theorem ShS.all9 {P : ShS → Prop} (h : ∀ x0 x1, P ⟨x0, x1⟩) : ∀ c, P c := fun ⟨x0, x1⟩ => h x0 x1
theorem neShS : Nonempty ShS := ⟨by constructor <;> exact Classical.choice inferInstance⟩
theorem sh {w : World} {loose : List Str} {mean : ExcName → Option Value} {mg mb : Str → Option Value} :
  ∀ (gd : Option (List Code)) (cn : Str) (cs : Scope) (a : Addr) (ccd : Value) (cl : List (Str × Addr)) (outer : List Env) (A₀ : Around) (base h₀ : Heap) (L : Addr) (m : Str → Option Value) (news : List (Addr × Obj)) (s : Shared)
    (Q E : Value → Shared → Prop) (r o : Addr) (xs ys : List Value) (ea eb : Nat) (ms ns : List Int),
    Below A₀ base outer h₀ → Fr h₀ L s.heap m → (Mine.hd0.heap_1 w.params).In h₀ → Boot w h₀ → News h₀ L s.heap (news) → Top topProg loose mean mg mb h₀ → cs.kind = .function →
    SmC w → GocC w → (r, PySem.W.listOf xs.toArray ea) ∈ news → (o, PySem.W.listOf ys.toArray eb) ∈ news → IntsAre xs ms → IntsAre ys ns → ms.length ≤ 4 → ns.length ≤ 4 → ns.Nodup → OpsOk ms ns → PySem.Challenge.rw_mr0378_01 = PySem.Challenge.rw_mr0378_01 →
    (∀ (D : Addr) (h' : Heap) (tk : Nat) (zs : List Value) (n : Nat) (news' : List (Addr × Obj)), Fr h₀ L h' m → News h₀ L h' news' → (∀ p ∈ news, p ∈ news') → (D, PySem.W.listOf zs.toArray n) ∈ news' → (∀ p ∈ news, p.1 ≠ D) → IntsAre zs (sharedP ms (opsF ms ns)) → Q (.ref D) { s with heap := h', toks := tk }) →
    wpAny (model PySem.Challenge.rw_mr0378_01.row.prog w) (ktrTop 350 150 gd cn cs L a ccd cl outer) (call (.ref 276) [.ref r, .ref o]) Q E s := by
  w_top off
  k_fill
  revert w loose mean mg mb
  (with_reducible refine @wi5_ap _ _ _ _ _ ?ne9 _ ?_); (case ne9 => walk_at "NE0"); refine (?m9 : Al5 _) _ _ _ _ _; intros w loose mean mg mb; refine ap5 ?_
  rintro gd cn cs a ccd cl outer A₀ base h₀ L m news s Q E r o xs ys ea eb ms ns B F X BO N T hk hS hG hr ho hi1 hi2 hm4 hn4 hnd hok _ hQ
  replace N := news_front (news_front N ho) (.tail _ hr)
  refine wpAny_call ?_
  k_dflt (refine' code_def ?k1 ?k2 ?k3 ?k4 ?k5 ?kA ?kF ?kK ?k6 ?k7 ?k8 ?k9 ?kB ?_ ?c2 ?c3 ?c4 ?c5; (case kA => exact rfl); (case kF => exact rfl); (case kK => assumption); (case k1 => k_asm); (case k2 => k_asm); (case k3 => k_asm); (case k4 => k_asm); (case k5 => k_asm); (case k6 => k_is); (case k7 => k_is); (case k8 => ktr_room); (case k9 => first | exact BindsTo.of_eq rfl | exact binds_K (by k_in) rfl (by k_is) rfl rfl rfl); (case c5 => decide); (case kB => exact locs rfl); (case c2 => exact rfl); (case c3 => exact rfl); (case c4 => exact rfl); k_whole; intro g L1 h1 FG F1 N1 B1 X1 T1; (try dsimp only); (try k_fold))
  have BO1 : Boot w g := boot_keeps BO FG.keep
  k_extra "k8"
  refine wpAny_For ?_
  k_extra "k8"
  (rename News _ _ _ _ => N2)
  (obtain ⟨sl, rfl⟩ := nm0 N2)
  rename _ ∧ _ => l2
  have hnsl : ∀ p ∈ news, p.1 ≠ sl := by k_all
  refine wpAny_up (hS _ _ _ _ _ _ _ _ _ g L1 _ _ _ _ _ _ _ _ _ r o xs ys ea eb ms ns B1 (by assumption) X1 BO1 (by assumption) T1 rfl (by k_mem) (by k_mem) hi1 hi2 hm4 hn4 hnd ?ret) (Nat.le_of_ble_eq_true rfl) (Nat.le_of_ble_eq_true rfl)
  case ret =>
    rintro x ⟨d, la, lb, bd, sj, sp, xs', ys', ea', eb', t, ob, kvs, al, tj, led⟩ h3 tk3 news3 F3 N3 hs3 hd3 hSm
    (try dsimp only at hd3)
    have hxd := hSm.2.1
    have hdd := hSm.1
    (try dsimp only at hxd hdd)
    have N4 := news_front (news_front N3 hdd) (.tail _ hxd)
    k_sweep
    k_extra "k8"
    refine wpAny_up (hG _ _ _ _ _ _ _ _ _ g L1 _ _ _ _ _ _ _ _ _ x ⟨d, la, lb, bd, sj, sp, xs', ys', ea', eb', t, ob, kvs, al, tj, led⟩ ms ns B1 (by assumption) X1 BO1 N3 T1 rfl hSm ?ret2) (Nat.le_of_ble_eq_true rfl) (Nat.le_of_ble_eq_true rfl)
    case ret2 =>
      intro r5 h5 tk5 news5 vs n F5 N5 hs5 hr5 hm5 hO5
      (try dsimp only at hs5 hr5)
      have hsl3 := hs3 _ (.head _)
      have hsld := hd3 _ (.head _)
      have hr3 := hs3 _ (.tail _ (.head _))
      have hrd := hd3 _ (.tail _ (.head _))
      (try dsimp only at hsld hrd)
      have hsl5 := hs5 _ hsl3 hsld
      have hr5' := hs5 _ hr3 hrd
      have hrl : r5 ≠ sl := (hr5 _ hsl3 hsld).symm
      have hrsl : r ≠ sl := Nat.ne_of_lt l2.1
      have hold : ∀ p ∈ news, p ∈ but sl news5 := fun p hp => but_mem (hs5 p (hs3 p (.tail _ (.tail _ (.tail _ hp)))) (hd3 p (.tail _ (.tail _ (.tail _ hp))))) (hnsl p hp)
      have N6 : News _ _ _ ((sl, PySem.W.listOf #[] 0) :: (r5, PySem.W.listOf vs.toArray n) :: (r, PySem.W.listOf xs.toArray ea) :: but sl news5) := news_sub N5 (sub_cons hsl5 (sub_cons hm5 (sub_cons hr5' but_sub)))
      have hbsl : ∀ p ∈ but sl news5, p.1 ≠ sl := but_ne
      have hrl' := neN hrl
      have hrsl' := neN hrsl
      have hvs : vs.length ≤ 50 := by rw [hO5.1]; exact hok.1
      clear N4 N3 F3 hr3 hrd
      refine tlist_loop (σ := ShS) (l := r5) (items := vs.toArray) (nn := n) (fun c => (sl, PySem.W.listOf c.ws.toArray c.nw) :: (r5, PySem.W.listOf vs.toArray n) :: (r, PySem.W.listOf xs.toArray ea) :: but sl news5)
        (fun _ => [(Str.ofString "shared", .ref sl), (Str.ofString "one", .ref r)]) [Str.ofString "tag", Str.ofString "i", Str.ofString "k", Str.ofString "j", Str.ofString "m"]
        (fun idx c => IntsAre c.ws (((opsF ms ns).take idx).foldl (sharedT ms) []) ∧ c.ws.length ≤ 4 * idx) ⟨[], 0⟩ rfl (fun _ => .tail _ (.head _)) ?hrf F5 N6 ?hk ⟨.nil, Nat.le_refl _⟩ ?turn ?done
      case hk => (k_extra "PS9")
      case hrf =>
        intro i v e
        obtain ⟨q, _, _, rfl, _⟩ := hO5.2 i v (by simpa using e)
        exact ⟨q, rfl⟩
      case turn =>
        rintro ⟨ws, nw⟩ idx T u h tk6 I oi hT ⟨hI, hlen⟩ hneI F7 N7
        obtain ⟨T', tt, op, e1, e2, e3⟩ := hO5.2 idx _ (by simpa using hT)
        have e1' := PySem.Value.ref.inj e1
        subst e1'
        clear e1
        (try dsimp only [kstB] at F7 N7 hI hlen)
        (try dsimp only)
        have hTn : T ≠ sl := news_ne N5 e3 hsl5 (fun e => absurd (Value.type.inj e) (by decide))
        replace N7 := news_front N7 (.tail _ (.tail _ (.tail _ (.tail _ (but_mem e3 hTn)))))
        have hTn' := neN hTn
        have hIn := neN (hneI (sl, PySem.W.listOf ws.toArray nw) (by k_mem))
        have h50 : idx < 50 := by
          have := (List.getElem?_eq_some_iff.mp (by simpa using hT : vs[idx]? = some (Value.ref T))).1
          omega
        have hop := hok.2 op (List.mem_of_getElem? e2)
        k_sweep
        k_extra "k21"
        · (rename Fr _ _ _ _ => F8)
          (rename News _ _ _ _ => N8)
          (rename List Value => ws8)
          (rename IntsAre _ (List.take _ _) => hI8)
          (rename _ ∧ _ => l8)
          rename (op.tag == Str.ofString "equal") = true => htag
          (obtain ⟨D8, rfl⟩ := nm0 N8)
          have l8' : T < D8 ∧ I < D8 ∧ sl < D8 := ⟨l8.1, l8.2.1, l8.2.2.1⟩
          have htag' : op.tag = Str.ofString "equal" := by simpa using htag
          have hlen8 := hI8.length
          rw [List.length_take, List.length_drop] at hlen8
          refine extend_in (own := [(D8, _), (T, _), (I, _)]) (D := sl) (b := D8) F8 N8 (ne_cons (Nat.ne_of_gt l8'.2.2) (ne_cons hTn (ne_cons hIn.symm ne_nil))) (ne_cons hrl (ne_cons hrsl hbsl)) (N8.get (.head _)) (fun h9 n9 F9 N9 => ?_) ?hsz
          case hsz => rw [sizeLine_eq, List.size_toArray]; omega
          simp only [List.cons_append, List.nil_append] at N9
          k_sweep
          k_extra "k21"
          refine tturn_end (σ := ShS) ⟨ws ++ ws8, n9⟩ (by assumption) (by assumption) ?hs ?hne ?hk2 ?hr2 ⟨?hI2, ?hl2⟩
          case hs => exact sub_cons (.tail _ (.tail _ (.head _))) (sub_cons (.tail _ (.tail _ (.tail _ (.head _)))) (sub_cons (.tail _ (.tail _ (.tail _ (.tail _ (.head _))))) (sub_cons (.tail _ (.tail _ (.tail _ (.tail _ (.tail _ (.head _)))))) fun p hp => .tail _ (.tail _ (.tail _ (.tail _ (.tail _ (.tail _ hp))))))))
          case hne => exact ne_cons hIn (fun p hp => hneI p (.tail _ hp))
          case hk2 => (k_extra "PS9")
          case hr2 => ksw_same
          case hI2 =>
            have e9 : ((opsF ms ns).take (idx + 1)).foldl (sharedT ms) [] = sharedT ms (((opsF ms ns).take idx).foldl (sharedT ms) []) op := by rw [List.take_add_one, e2]; simp
            rw [e9]
            unfold sharedT
            rw [if_pos htag']
            refine hI.append ?_
            have e8 : min op.nums.2.1.toNat ms.length - op.nums.1.toNat = (op.nums.2.1 - op.nums.1).toNat := sh_min (by first | assumption | omega) (by first | assumption | omega) (by first | assumption | omega)
            rw [← e8]
            exact hI8
          case hl2 =>
            (try dsimp only)
            rw [List.length_append]
            omega
        · rename (op.tag == Str.ofString "equal") = false => htag
          have htag' : ¬ op.tag = Str.ofString "equal" := by simpa using htag
          refine tturn_end (σ := ShS) ⟨ws, nw⟩ (by assumption) (by assumption) ?hsb ?hneb ?hk2b ?hr2b ⟨?hI2b, ?hl2b⟩
          case hsb => exact fun p hp => .tail _ hp
          case hneb => exact hneI
          case hk2b => (k_extra "PS9")
          case hr2b => ksw_same
          case hI2b =>
            have e9 : ((opsF ms ns).take (idx + 1)).foldl (sharedT ms) [] = sharedT ms (((opsF ms ns).take idx).foldl (sharedT ms) []) op := by rw [List.take_add_one, e2]; simp
            rw [e9]
            unfold sharedT
            rw [if_neg htag']
            exact hI
          case hl2b => dsimp only; omega
      case done =>
        rintro ⟨ws, nw⟩ u h tk6 ⟨hI, hlen⟩ F7 N7
        (try dsimp only [kstB] at F7 N7 hI hlen)
        (try dsimp only)
        k_sweep
        k_extra "k4"
        (try dsimp only)
        (try k_unfold)
        refine leaveK_ (by assumption) (by assumption) fun kF kN => ?_
        (try dsimp only)
        have e9 : ((opsF ms ns).take vs.toArray.size) = opsF ms ns := List.take_of_length_le (by simp [hO5.1])
        rw [e9] at hI
        exact hQ sl _ _ ws nw _ kF kN (fun p hp => .tail _ (.tail _ (.tail _ (hold p hp)))) (.head _) hnsl hI
end
section --Lc
noncomputable def secondP (ns : List Int) : Option Int → Int
  | none => ns.length
  | some k => match ns.idxOf? k with
    | some j => j
    | none => -1
noncomputable def codesT (ns : List Int) (st : List Op × Int × Int) (place : Int) (num : Option Int) : List Op × Int × Int :=
  if secondP ns num < 0 then st else
    match num with
    | none => (st.1 ++ gapP st.2.1 place st.2.2 (secondP ns num), st.2)
    | some _ =>
      match (st.1 ++ gapP st.2.1 place st.2.2 (secondP ns num)).reverse with
      | [] => ([.equal place (place + 1) (secondP ns num) (secondP ns num + 1)], place + 1, secondP ns num + 1)
      | o :: r =>
        if st.2.1 = place ∧ st.2.2 = secondP ns num then (r.reverse ++ [.equal o.nums.1 (place + 1) o.nums.2.2.1 (secondP ns num + 1)], place + 1, secondP ns num + 1)
        else (st.1 ++ gapP st.2.1 place st.2.2 (secondP ns num) ++ [.equal place (place + 1) (secondP ns num) (secondP ns num + 1)], place + 1, secondP ns num + 1)
noncomputable def codesF (ms ns : List Int) : Nat → List Op × Int × Int
  | 0 => ([], 0, 0)
  | n + 1 => codesT ns (codesF ms ns n) (n : Int) (ms[n]?)
noncomputable def codesP (ms ns : List Int) : List Op := (codesF ms ns (ms.length + 1)).1
structure CS where
  i : Int
  j : Int
  ti : Tok
  tj : Tok
  vs : List Value
  n : Nat
  ops : List Op
  rest : List (Addr × Obj)
theorem CS.all9 {P : CS → Prop} (h : ∀ x0 x1 x2 x3 x4 x5 x6 x7, P ⟨x0, x1, x2, x3, x4, x5, x6, x7⟩) : ∀ c, P c := fun ⟨x0, x1, x2, x3, x4, x5, x6, x7⟩ => h x0 x1 x2 x3 x4 x5 x6 x7
theorem neCS : Nonempty CS := ⟨by constructor <;> exact Classical.choice inferInstance⟩
theorem kf_of {k : Int} {ys : List Value} {ns : List Int} (h : IntsAre ys ns) : kf_ints ys = true ∧ kf_at k ys = ns.idxOf? k := by
  induction h with
  | nil => exact ⟨rfl, rfl⟩
  | cons a t h ih =>
    refine ⟨ih.1, ?_⟩
    unfold kf_at
    show cond (a == k) _ _ = _
    rw [ih.2, List.idxOf?_cons]
    cases ha : (a == k)
    · cases List.idxOf? k _ <;> simp
    · simp
theorem idx_of_any {ns : List Int} {k : Int} (h : (ns.any fun x => x == k) = true) : ∃ j, ns.idxOf? k = some j := by
  cases e : ns.idxOf? k with
  | none =>
    obtain ⟨x, hx, e'⟩ := List.any_eq_true.mp h
    exact absurd ((eq_of_beq e') ▸ hx) (List.idxOf?_eq_none_iff.mp e)
  | some j => exact ⟨j, rfl⟩
theorem idx_of_none {ns : List Int} {k : Int} (h : (ns.any fun x => x == k) = false) : ns.idxOf? k = none := by
  rw [List.idxOf?_eq_none_iff]
  intro hm
  have : (ns.any fun x => x == k) = true := List.any_eq_true.mpr ⟨k, hm, by simp⟩
  rw [h] at this; cases this
theorem n_index {prog : Program} {w : World} {A : Around} {E : Value → Shared → Prop} {s : Shared} {h₀ : Heap} {L o : Addr} {news : List (Addr × Obj)} {ys : List Value} {ns : List Int} {k : Int} {t : Tok} {j n : Nat} {Q : Value → Shared → Prop} (N : News h₀ L s.heap news) (hm : (o, PySem.W.listOf ys.toArray n) ∈ news) (hi : IntsAre ys ns) (hj : ns.idxOf? k = some j) (h4 : ns.length ≤ 4)
    (h : Q (.int (j : Int) s.toks) { s with toks := s.toks + 1 }) : wpAny (model prog w) A (call (.builtin "list.index") [.ref o, .int k t]) Q E s := by
  obtain ⟨h1, h2⟩ := kf_of (k := k) hi
  have hl := hi.length
  exact kf_index (j := j) N hm h1 (h2.trans hj) rfl (by rw [sizeLine_eq]; show ys.length ≤ _; omega) h
noncomputable def JIf (g : Heap) (L1 cdl e it : Addr) (m8 : Str → Option Value) (fx rest : List (Addr × Obj)) (k : Nat) (ops1 : List Op) (s : Shared) (f : Flow) (s' : Shared) : Prop :=
  f = .next ∧ ∃ (h' : Heap) (tk : Nat) (vs1 : List Value) (n1 : Nat) (rest1 : List (Addr × Obj)), s' = { s with heap := h', toks := tk } ∧ Fr g L1 h' m8 ∧ News g L1 h' ((cdl, PySem.W.listOf vs1.toArray n1) :: (fx ++ rest1)) ∧ OpsAre rest1 vs1 ops1 ∧ (∀ p ∈ rest, p ∈ rest1) ∧ (∀ p ∈ rest1, p.1 ≠ cdl ∧ p.1 ≠ e ∧ p.1 ≠ it) ∧ vs1.length ≤ k + 1
theorem join_if {M : Model} {A : Around} {E : Value → Shared → Prop} {s : Shared} {Q : Flow → Shared → Prop} {t : Sem Flow} {g : Heap} {L1 cdl e it : Addr} {m8 : Str → Option Value} {fx rest : List (Addr × Obj)} {k : Nat} {ops1 : List Op} (_F : Fr g L1 s.heap m8)
    (h1 : wpAny M A t (JIf g L1 cdl e it m8 fx rest k ops1 s) E s)
    (h2 : ∀ (h' : Heap) (tk : Nat) (vs1 : List Value) (n1 : Nat) (rest1 : List (Addr × Obj)), Fr g L1 h' m8 → News g L1 h' ((cdl, PySem.W.listOf vs1.toArray n1) :: (fx ++ rest1)) → OpsAre rest1 vs1 ops1 → (∀ p ∈ rest, p ∈ rest1) → (∀ p ∈ rest1, p.1 ≠ cdl ∧ p.1 ≠ e ∧ p.1 ≠ it) → vs1.length ≤ k + 1 → Q .next { s with heap := h', toks := tk }) :
    wpAny M A t Q E s :=
  wpAny_mono h1 (fun f s' hj => by obtain ⟨hf, h', tk, vs1, n1, rest1, hs, hj⟩ := hj; subst hf; subst hs; exact h2 h' tk vs1 n1 rest1 hj.1 hj.2.1 hj.2.2.1 hj.2.2.2.1 hj.2.2.2.2.1 hj.2.2.2.2.2) fun _ _ x => x
theorem jif_end {g : Heap} {L1 cdl e it : Addr} {m8 : Str → Option Value} {fx rest : List (Addr × Obj)} {k : Nat} {ops1 : List Op} {s : Shared} {h' : Heap} {tk n1 : Nat} {vs1 : List Value} {rest1 : List (Addr × Obj)} {news' : List (Addr × Obj)}
    (F : Fr g L1 h' m8) (N : News g L1 h' news') (hs : ∀ p ∈ (cdl, PySem.W.listOf vs1.toArray n1) :: (fx ++ rest1), p ∈ news') (hO : OpsAre rest1 vs1 ops1) (hT : ∀ p ∈ rest, p ∈ rest1) (hc : ∀ p ∈ rest1, p.1 ≠ cdl ∧ p.1 ≠ e ∧ p.1 ≠ it) (hl : vs1.length ≤ k + 1) :
    JIf g L1 cdl e it m8 fx rest k ops1 s .next { s with heap := h', toks := tk } := ⟨rfl, h', tk, vs1, n1, rest1, rfl, F, news_sub N hs, hO, hT, hc, hl⟩
theorem OpsAre.pop {news : List (Addr × Obj)} {vs : List Value} {y : Value} {ops : List Op} (h : OpsAre news (vs ++ [y]) ops) : ∃ T t o ops2, y = .ref T ∧ ops = ops2 ++ [o] ∧ (T, opO o t) ∈ news ∧ OpsAre news vs ops2 := by
  obtain ⟨T, t, o, a, b, c⟩ := h.2 vs.length y (by simp)
  have hl : ops.length = vs.length + 1 := by have := h.1; simp at this; omega
  have hne : ops ≠ [] := fun e => by rw [e] at hl; simp at hl
  have hlast : ops.getLast hne = o := by
    have e1 : ops[vs.length]? = some (ops.getLast hne) := by
      rw [List.getLast_eq_getElem, ← List.getElem?_eq_getElem]
      congr 1
      omega
    exact Option.some.inj (e1.symm.trans b)
  refine ⟨T, t, o, ops.dropLast, a, by rw [← hlast]; exact (List.dropLast_concat_getLast hne).symm, c, by rw [List.length_dropLast]; omega, fun i v e => ?_⟩
  have hi : i < vs.length := (List.getElem?_eq_some_iff.mp e).1
  obtain ⟨T', t', o', a', b', c'⟩ := h.2 i v (by rw [List.getElem?_append_left hi]; exact e)
  exact ⟨T', t', o', a', by rw [List.getElem?_dropLast, if_pos (by omega)]; exact b', c'⟩
section
variable {ns : List Int} {ops ops2 : List Op} {i j place sec : Int} {k : Int} {o : Op}
theorem cT_skip {num : Option Int} (h : secondP ns num < 0) : codesT ns (ops, i, j) place num = (ops, i, j) := if_pos h
theorem cT_none (h : secondP ns none = sec) (h0 : 0 ≤ sec) : codesT ns (ops, i, j) place none = (ops ++ gapP i place j sec, i, j) := by
  unfold codesT
  rw [h, if_neg (by omega)]
theorem cT_b (h : secondP ns (some k) = sec) (h0 : 0 ≤ sec) (e : ops ++ gapP i place j sec = ops2 ++ [o]) (hij : i = place ∧ j = sec) : codesT ns (ops, i, j) place (some k) = (ops2 ++ [.equal o.nums.1 (place + 1) o.nums.2.2.1 (sec + 1)], place + 1, sec + 1) := by
  unfold codesT
  rw [h, if_neg (by omega)]
  (try dsimp only)
  rw [e, List.reverse_append]
  simp only [List.reverse_cons, List.reverse_nil, List.nil_append, List.cons_append, List.reverse_reverse]
  rw [if_pos hij]
theorem cT_a (h : secondP ns (some k) = sec) (h0 : 0 ≤ sec) (e : ops ++ gapP i place j sec = []) : codesT ns (ops, i, j) place (some k) = (ops ++ gapP i place j sec ++ [.equal place (place + 1) sec (sec + 1)], place + 1, sec + 1) := by
  unfold codesT
  rw [h, if_neg (by omega)]
  (try dsimp only)
  rw [e]; rfl
theorem cT_c (h : secondP ns (some k) = sec) (h0 : 0 ≤ sec) (hij : ¬ (i = place ∧ j = sec)) : codesT ns (ops, i, j) place (some k) = (ops ++ gapP i place j sec ++ [.equal place (place + 1) sec (sec + 1)], place + 1, sec + 1) := by
  unfold codesT
  rw [h, if_neg (by omega)]
  (try dsimp only)
  generalize hg : ops ++ gapP i place j sec = ops1
  cases hr : ops1.reverse with
  | nil => have e : ops1 = [] := by simpa using hr
           rw [e]; rfl
  | cons o r => simp only [if_neg hij]
end
section
variable {prog : Program} {w : World} {A : Around} {E : Value → Shared → Prop} {s : Shared}
theorem n_tupEq {a b : Addr} {i j p q : Int} {ti tj tp tq : Tok} {Q : Value → Shared → Prop} (ha : s.heap.get? a = some ⟨.type "tuple", none, .seq #[.int i ti, .int j tj] 0, #[]⟩) (hb : s.heap.get? b = some ⟨.type "tuple", none, .seq #[.int p tp, .int q tq] 0, #[]⟩) (hu : A.units < cLine)
    (h : Q (.bool (decide (i = p ∧ j = q))) s) : wpAny (model prog w) A (compareOp .Eq (.ref a) (.ref b)) Q E s := by
  have hx : IsTupleKey (intKind prog w) s.heap [i, j] a := ⟨_, _, _, ha, rfl, rfl, .cons (intKind_is prog w i ti) (.cons (intKind_is prog w j tj) .nil)⟩
  have hy : IsTupleKey (intKind prog w) s.heap [p, q] b := ⟨_, _, _, hb, rfl, rfl, .cons (intKind_is prog w p tp) (.cons (intKind_is prog w q tq) .nil)⟩
  have e : decide ([i, j] = [p, q]) = decide (i = p ∧ j = q) := by simp
  show wpAny _ _ (richCompare .Eq _ _) _ _ _
  exact wpAny_richCompare_same_room (op := .Eq) hx.typeIs hy.typeIs PySem.F.slot_tuple_eq
    (wpAny_call_entry PySem.F.slot_tuple_eq hx.typeIs PySem.F.entry_tuple_eq (tuple_eq_tree hx hy ⟨_, rfl, (fun e => nomatch e), by rw [e]; exact h⟩) (PySem.F.args_tuple_eq_2 _ _)) hu
theorem n_lne {l b : Addr} {vs : List Value} {Q : Value → Shared → Prop} (hl : s.heap.IsList l vs.toArray) (hb : s.heap.IsList b #[]) (hu : A.units < cLine) (h : Q (.bool (!vs.isEmpty)) s) : wpAny (model prog w) A (compareOp .NotEq (.ref l) (.ref b)) Q E s := by
  show wpAny _ _ (richCompare .NotEq _ _) _ _ _
  cases vs with
  | nil => exact PySem.SeqAt.RcNeAt.lists (e := fun _ => true) hl hb rfl hu (fun j h1 => absurd h1 (Nat.not_lt_zero _)) prog w E Q h
  | cons v vs => exact PySem.SeqAt.RcNeAt.lists_lengths hl hb (by simp) hu prog w E Q h
end
theorem nil_or_snoc (vs : List Value) : vs = [] ∨ ∃ a y, vs = a ++ [y] := by
  rcases List.eq_nil_or_concat vs with h | ⟨a, y, h⟩
  · exact .inl h
  · exact .inr ⟨a, y, by simpa using h⟩
theorem lc_end {ms ns : List Int} {idx : Nat} {h₀ : Heap} {L : Addr} {stored : List Str} {m₀ m' : Str → Option Value} {cdl el o e it : Addr} {elO oO : Obj} {own news0 rest' news' : List (Addr × Obj)} {s₁ : Shared} {h' : Heap} {tk : Nat} {i' j' : Int} {ti tj : Tok} {vs' : List Value} {n' : Nat} {ops' : List Op}
    (F : Fr h₀ L h' m') (N : News h₀ L h' news') (hcd : (cdl, PySem.W.listOf vs'.toArray n') ∈ news') (hel : (el, elO) ∈ news') (ho : (o, oO) ∈ news') (hown : ∀ p ∈ own, p ∈ news') (hrest : ∀ p ∈ rest', p ∈ news')
    (hce : cdl ∉ [e, it]) (hele : el ∉ [e, it]) (hoe : o ∉ [e, it]) (hrw : ∀ p ∈ rest', p.1 ≠ cdl ∧ p.1 ≠ e ∧ p.1 ≠ it)
    (hk1 : m' (Str.ofString "codes") = some (.ref cdl)) (hk2 : m' (Str.ofString "i") = some (.int i' ti)) (hk3 : m' (Str.ofString "j") = some (.int j' tj)) (hk4 : m' (Str.ofString "other") = some (.ref o))
    (hr : ∀ z, (∀ p ∈ [(Str.ofString "codes", Value.ref cdl), (Str.ofString "i", .int i' ti), (Str.ofString "j", .int j' tj), (Str.ofString "other", .ref o)], z ≠ p.1) → stored.contains z = false → m' z = m₀ z)
    (hst : (ops', i', j') = codesF ms ns (idx + 1)) (hO : OpsAre rest' vs' ops') (hnews : ∀ p ∈ news0, p ∈ rest') (hlen : vs'.length ≤ 2 * (idx + 1)) :
    PTurnE h₀ L stored m₀ (fun c : CS => (cdl, PySem.W.listOf c.vs.toArray c.n) :: (el, elO) :: (o, oO) :: c.rest) (fun c => [(Str.ofString "codes", .ref cdl), (Str.ofString "i", .int c.i c.ti), (Str.ofString "j", .int c.j c.tj), (Str.ofString "other", .ref o)])
      (fun c => (c.ops, c.i, c.j) = codesF ms ns (idx + 1) ∧ OpsAre c.rest c.vs c.ops ∧ (∀ p ∈ news0, p ∈ c.rest) ∧ (∀ p ∈ c.rest, p.1 ≠ cdl) ∧ c.vs.length ≤ 2 * (idx + 1)) [e, it] own s₁ { s₁ with heap := h', toks := tk } := by
  refine pturn_end (σ := CS) ⟨i', j', ti, tj, vs', n', ops', rest'⟩ F N ?_ ?_ ?_ hr ⟨hst, hO, hnews, fun p hp => (hrw p hp).1, hlen⟩
  · intro p hp
    rcases List.mem_append.mp hp with hp | hp
    · exact hown p hp
    rcases List.mem_cons.mp hp with rfl | hp
    · exact hcd
    rcases List.mem_cons.mp hp with rfl | hp
    · exact hel
    rcases List.mem_cons.mp hp with rfl | hp
    · exact ho
    exact hrest p hp
  · intro p hp
    rcases List.mem_cons.mp hp with rfl | hp
    · exact hce
    rcases List.mem_cons.mp hp with rfl | hp
    · exact hele
    rcases List.mem_cons.mp hp with rfl | hp
    · exact hoe
    have := hrw p hp
    simp [this.2.1, this.2.2]
  · intro p hp
    rcases List.mem_cons.mp hp with rfl | hp
    · exact hk1
    rcases List.mem_cons.mp hp with rfl | hp
    · exact hk2
    rcases List.mem_cons.mp hp with rfl | hp
    · exact hk3
    rcases List.mem_cons.mp hp with rfl | hp
    · exact hk4
    exact nomatch hp
theorem lc {w : World} {loose : List Str} {mean : ExcName → Option Value} {mg mb : Str → Option Value} :
  ∀ (gd : Option (List Code)) (cn : Str) (cs : Scope) (a : Addr) (ccd : Value) (cl : List (Str × Addr)) (outer : List Env) (A₀ : Around) (base h₀ : Heap) (L : Addr) (m : Str → Option Value) (news : List (Addr × Obj)) (s : Shared)
    (Q E : Value → Shared → Prop) (r o : Addr) (xs ys : List Value) (ea eb : Nat) (ms ns : List Int),
    Below A₀ base outer h₀ → Fr h₀ L s.heap m → (Mine.hd0.heap_1 w.params).In h₀ → Boot w h₀ → News h₀ L s.heap (news) → Top topProg loose mean mg mb h₀ → cs.kind = .function →
    (r, PySem.W.listOf xs.toArray ea) ∈ news → (o, PySem.W.listOf ys.toArray eb) ∈ news → IntsAre xs ms → IntsAre ys ns → ms.length ≤ 4 → ns.length ≤ 4 → PySem.Challenge.rw_mr0378_01 = PySem.Challenge.rw_mr0378_01 →
    (∀ (D : Addr) (h' : Heap) (tk : Nat) (vs : List Value) (n : Nat) (news' : List (Addr × Obj)), Fr h₀ L h' m → News h₀ L h' news' → (∀ p ∈ news, p ∈ news') → (D, PySem.W.listOf vs.toArray n) ∈ news' → (∀ p ∈ news, p.1 ≠ D) → OpsAre news' vs (codesP ms ns) → Q (.ref D) { s with heap := h', toks := tk }) →
    wpAny (model PySem.Challenge.rw_mr0378_01.row.prog w) (ktrTop 360 200 gd cn cs L a ccd cl outer) (call (.ref 269) [.ref r, .ref o]) Q E s := by
  w_top off
  k_fill
  revert w loose mean mg mb
  (with_reducible refine @wi5_ap _ _ _ _ _ ?ne9 _ ?_); (case ne9 => walk_at "NE0"); refine (?m9 : Al5 _) _ _ _ _ _; intros w loose mean mg mb; refine ap5 ?_
  rintro gd cn cs a ccd cl outer A₀ base h₀ L m news s Q E r o xs ys ea eb ms ns B F X BO N T hk hr ho hi1 hi2 hm4 hn4 _ hQ
  replace N := news_front (news_front N ho) (.tail _ hr)
  refine wpAny_call ?_
  k_dflt (refine' code_def ?k1 ?k2 ?k3 ?k4 ?k5 ?kA ?kF ?kK ?k6 ?k7 ?k8 ?k9 ?kB ?_ ?c2 ?c3 ?c4 ?c5; (case kA => exact rfl); (case kF => exact rfl); (case kK => assumption); (case k1 => k_asm); (case k2 => k_asm); (case k3 => k_asm); (case k4 => k_asm); (case k5 => k_asm); (case k6 => k_is); (case k7 => k_is); (case k8 => ktr_room); (case k9 => first | exact BindsTo.of_eq rfl | exact binds_K (by k_in) rfl (by k_is) rfl rfl rfl); (case c5 => decide); (case kB => exact locs rfl); (case c2 => exact rfl); (case c3 => exact rfl); (case c4 => exact rfl); k_whole; intro g L1 h1 FG F1 N1 B1 X1 T1; (try dsimp only); (try k_fold))
  have BO1 : Boot w g := boot_keeps BO FG.keep
  k_extra "k0"
  refine wpAny_For ?_
  k_extra "k7"
  (rename News _ _ _ _ => N2)
  (obtain ⟨nl, rfl⟩ := nm0 N2; obtain ⟨cdl, rfl⟩ := nm1 N2)
  rename _ ∧ _ => l2
  k_dflt (refine' kmk_add_lit (zs := xs ++ [Value.none]) ?F ?N ?a ?b ?e ?_ ?z)
  case F => k_asm
  case N => k_asm
  case a => exact News.isList N2 (by k_mem)
  case b => exact News.isList N2 (by k_mem)
  case e => rfl
  case z => (have := hi1.length); rw [sizeLine_eq]; simp; omega
  intro el h3 F3 N3 l3
  (try k_lt l3)
  k_sweep
  k_extra "k7"
  have l3' : nl < el ∧ cdl < el ∧ r < el ∧ o < el ∧ AllLt el news := l3
  have l2' : cdl < nl ∧ r < nl ∧ o < nl ∧ AllLt nl news := l2
  rename _ < cdl ∧ _ => l1'
  have hcel : el ≠ cdl := Nat.ne_of_gt l3'.2.1
  have hco : o ≠ cdl := Nat.ne_of_lt l1'.2.1
  have hnc : ∀ p ∈ news, p.1 ≠ cdl := by k_all
  have hlx := hi1.length
  refine enum_loop (σ := CS) (l := el) (items := (xs ++ [Value.none]).toArray) (nn := 0) (fun c => (cdl, PySem.W.listOf c.vs.toArray c.n) :: (el, PySem.W.listOf (xs ++ [Value.none]).toArray 0) :: (o, PySem.W.listOf ys.toArray eb) :: c.rest)
    (fun c => [(Str.ofString "codes", .ref cdl), (Str.ofString "i", .int c.i c.ti), (Str.ofString "j", .int c.j c.tj), (Str.ofString "other", .ref o)]) [Str.ofString "second", Str.ofString "first", Str.ofString "equal", Str.ofString "start", Str.ofString "end", Str.ofString "second_start", Str.ofString "second_end"]
    (fun idx c => (c.ops, c.i, c.j) = codesF ms ns idx ∧ OpsAre c.rest c.vs c.ops ∧ (∀ p ∈ news, p ∈ c.rest) ∧ (∀ p ∈ c.rest, p.1 ≠ cdl) ∧ c.vs.length ≤ 2 * idx)
    ⟨0, 0, ?t1, ?t2, [], 0, [], news⟩ ?h1 ?h2 ?h3 ?h4 (by k_mem) (by assumption) ?hN ?hk ?hP ?hps ?turn ?done
  case h1 => with_unfolding_all rfl
  case h2 => with_unfolding_all rfl
  case h3 => with_unfolding_all rfl
  case h4 => with_unfolding_all rfl
  case hN => dsimp only; refine news_sub (by assumption) ?_; ((repeat ((fail_if_success (k_extra "g2")); refine sub_cons (by k_mem) ?_)); first | exact sub_nil | (intro p9 hp9; (repeat (first | exact hp9 | refine List.Mem.tail _ ?_))))
  case hk => (k_extra "PS9")
  case hP => exact ⟨rfl, OpsAre.nil, fun _ h => h, hnc, Nat.zero_le _⟩
  case hps =>
    intro c p hp
    simp only [List.mem_cons, List.not_mem_nil, or_false] at hp
    rcases hp with rfl | rfl | rfl | rfl <;> (dsimp only; exact ⟨by decide, by decide⟩)
  case turn =>
    rintro ⟨i, j, ti, tj, vs, n, ops, rest⟩ idx v t u h tk e it oe oi own hv ⟨hst, hO, hsub, hrc, hlen⟩ hw he hi hof F5 N5
    (try dsimp only [kstB] at F5 N5 hst hO hsub hrc hlen hw)
    (try dsimp only)
    have hce : cdl ≠ e ∧ cdl ≠ it := by have := hw (cdl, _) (.head _); simpa using this
    have hTb : ∀ p ∈ own ++ rest, p.1 ≠ cdl := fun p hp => by
      rcases List.mem_append.mp hp with hp | hp
      · have := hof p hp
        intro q
        rw [q] at this
        simp [hce.1, hce.2, hcel.symm] at this
      · exact hrc p hp
    have N6 : News _ _ _ ((cdl, PySem.W.listOf vs.toArray n) :: (o, PySem.W.listOf ys.toArray eb) :: (el, PySem.W.listOf (xs ++ [Value.none]).toArray 0) :: (own ++ rest)) := news_sub N5 (sub_cons (List.mem_append_right _ (.head _)) (sub_cons (List.mem_append_right _ (.tail _ (.tail _ (.head _)))) (sub_cons (List.mem_append_right _ (.tail _ (.head _))) fun p hp => by
      rcases List.mem_append.mp hp with hp | hp
      · exact List.mem_append_left _ hp
      · exact List.mem_append_right _ (.tail _ (.tail _ (.tail _ hp))))))
    have hrest3 : ∀ p ∈ rest, p.1 ≠ cdl ∧ p.1 ≠ e ∧ p.1 ≠ it := fun p hp => by
      have := hw p (.tail _ (.tail _ (.tail _ hp)))
      simp only [List.mem_cons, List.not_mem_nil, or_false, not_or] at this
      exact ⟨hrc p hp, this.1, this.2⟩
    have hLed : ∀ p ∈ [(cdl, PySem.W.listOf vs.toArray n), (el, PySem.W.listOf (xs ++ [Value.none]).toArray 0), (o, PySem.W.listOf ys.toArray eb)], p.1 ∉ [e, it] := fun p hp => hw p (by
      simp only [List.mem_cons, List.not_mem_nil, or_false] at hp
      rcases hp with rfl | rfl | rfl
      · exact .head _
      · exact .tail _ (.head _)
      · exact .tail _ (.tail _ (.head _)))
    have hele := hLed _ (.tail _ (.head _))
    have hoe := hLed _ (.tail _ (.tail _ (.head _)))
    (try dsimp only at hele hoe)
    have hce' : cdl ∉ [e, it] := by simpa using hce
    have hsucc : ∀ st, st = codesT ns (ops, i, j) (idx : Int) ms[idx]? → st = codesF ms ns (idx + 1) := fun st h => by
      rw [h, hst]; rfl
    have hidx : idx ≤ xs.length := by
      have := (List.getElem?_eq_some_iff.mp (by simpa using hv : (xs ++ [Value.none])[idx]? = some v)).1
      simp at this; omega
    clear N5
    by_cases hlt : idx < ms.length
    · obtain ⟨num, hms⟩ : ∃ a, ms[idx]? = some a := ⟨_, List.getElem?_eq_getElem hlt⟩
      obtain ⟨tv, htv⟩ := ints_at hi1 hms
      have hvi : v = .int num tv := by
        rw [List.getElem?_toArray, List.getElem?_append_left (by omega)] at hv
        rw [List.getElem?_toArray] at htv
        exact Option.some.inj (hv.symm.trans htv)
      subst hvi
      k_sweep
      k_extra "k5"
      · have hany : (ns.any fun x => x == num) = true := by assumption
        obtain ⟨sec, hio⟩ := idx_of_any hany
        have hsl : sec < ns.length := idxOf?_lt hio
        refine n_index (by assumption) (by k_mem) hi2 hio hn4 ?_
        k_extra "k22"
        have hsec : secondP ns (some num) = (sec : Int) := by simp only [secondP, hio]
        rw [hms] at hsucc
        refine join_if (cdl := cdl) (e := e) (it := it) (fx := (o, PySem.W.listOf ys.toArray eb) :: (el, PySem.W.listOf (xs ++ [Value.none]).toArray 0) :: own) (rest := rest) (k := vs.length) (ops1 := ops ++ gapP i (idx : Int) j (sec : Int)) (by assumption) ?hfirst ?hsecond
        case hfirst =>
          k_extra "k23"
          all_goals (
            (rename News _ _ _ _ => nE)
            (try simp only [List.push_toArray] at nE))
          all_goals first
            | (rw [gap_n (i := i) (ai := (idx : Int)) (j := j) (bj := (sec : Int)) (by assumption) (by assumption), List.append_nil]; exact jif_end (by assumption) nE (fun p hp => hp) hO (fun _ h => h) hrest3 (Nat.le_succ _))
            | ((first
                | rw [gap_r (i := i) (ai := (idx : Int)) (j := j) (bj := (sec : Int)) (by assumption) (by assumption)]
                | rw [gap_d (i := i) (ai := (idx : Int)) (j := j) (bj := (sec : Int)) (by assumption) (by assumption)]
                | rw [gap_i (i := i) (ai := (idx : Int)) (j := j) (bj := (sec : Int)) (by assumption) (by assumption)])
               have hDn : ∀ p ∈ own ++ rest, p.1 < (firstA nE) := by dsimp only [firstA]; assumption
               have hDc : cdl < (firstA nE) := by (rename _ ∧ _ => l9); exact l9.1
               have hDe : (firstA nE) ≠ e := Nat.ne_of_gt (hDn _ (List.mem_append_left _ he))
               have hDi : (firstA nE) ≠ it := Nat.ne_of_gt (hDn _ (List.mem_append_left _ hi))
               refine jif_end (rest1 := ((firstA nE), firstO nE) :: rest) (n1 := n + 1) (by assumption) nE ?_ (OpsAre.snoc2 (hO.sub fun p hp => .tail _ hp) (.head _)) (fun p hp => .tail _ hp) ?_ (by simp)
               all_goals (try ((k_extra "g11"); dsimp only [firstO, firstA]))
               · refine sub_cons (.tail _ (.head _)) (sub_cons (.tail _ (.tail _ (.head _))) (sub_cons (.tail _ (.tail _ (.tail _ (.head _)))) fun p hp => ?_))
                 rcases List.mem_append.mp hp with hp | hp
                 · exact .tail _ (.tail _ (.tail _ (.tail _ (List.mem_append_left _ hp))))
                 · rcases List.mem_cons.mp hp with rfl | hp
                   · exact .head _
                   · exact .tail _ (.tail _ (.tail _ (.tail _ (List.mem_append_right _ hp))))
               · intro p hp
                 rcases List.mem_cons.mp hp with rfl | hp
                 · exact ⟨Nat.ne_of_gt hDc, hDe, hDi⟩
                 · exact hrest3 p hp)
        case hsecond =>
          intro h6 tk6 vs1 n1 rest1 F6 N7 hO1 hT1 hc1 hl1
          simp only [List.cons_append] at N7
          have hcf : ∀ p ∈ own ++ rest1, p.1 ≠ cdl := fun p hp => by
            rcases List.mem_append.mp hp with hp | hp
            · exact hTb p (List.mem_append_left _ hp)
            · exact (hc1 p hp).1
          k_sweep
          k_extra "k14"
          (rename News _ _ _ _ => N8)
          refine n_tupEq (N8.get (by k_mem)) (N8.get (by k_mem)) (Nat.le_of_ble_eq_true rfl) ?_
          rename_i g0_41 x0_51 g0_52 x0_54 x0_55 x0_56 x0_57 x0_58 x0_59 g0_61 g0_63 g0_68 x0_88 g0_120 g0_121 g0_122 x0_127 x0_128 x0_140 x0_141 x0_142 g0_143 g0_144 x0_145 x0_147 x0_148 g0_149 g0_152
          clear A₀ h₀ m Q ea B F X BO T hk hr ho hi1 hi2 hn4 g0_41 hQ N h1 FG g0_52 x0_54 x0_55 x0_57 x0_58 x0_59 nl g0_61 g0_63 l1' l2 h3 g0_68 l3 l3' l2' hnc n hst hO hrc hw hof hce hTb N6 hrest3 hLed hidx hms htv hv F5 g0_120 g0_121 g0_122 hany hio hsl x0_127 x0_128 h6 tk6 x0_140 x0_142 g0_143 hT9
          revert hm4 B1 X1 T1 BO1 hcel hco hlx hsub hlen he hi hele hoe hce' hlt hsucc hsec hO1 hT1 hc1 hl1 hcf g0_144 g0_149 N8 g0_152
          revert w loose mean mg mb gd cn cs a ccd cl outer base L news s E r o xs ys eb ms ns g L1 x0_51 x0_56 cdl el i j ti tj vs ops rest idx t u h x0_88 e it oe oi own num tv sec vs1 n1 rest1 x0_141 x0_145 tk x0_147 x0_148
          as_aux_lemma =>
            (with_reducible refine @wi48_ap _ _ _ _ _ _ _ _ _ _ _ _ _ _ _ _ _ _ _ _ _ _ _ _ _ _ _ _ _ _ _ _ _ _ _ _ _ _ _ _ _ _ _ _ _ _ _ _ ?ne0cw _ ?_); (case ne0cw => walk_at "NE0"); refine (?m0cw : Al48 _) _ _ _ _ _ _ _ _ _ _ _ _ _ _ _ _ _ _ _ _ _ _ _ _ _ _ _ _ _ _ _ _ _ _ _ _ _ _ _ _ _ _ _ _ _ _ _ _; intros w loose mean mg mb gd cn cs a ccd cl outer base L news s E r o xs ys eb ms ns g L1 x0_51 x0_56 cdl el i j ti tj vs ops rest idx t u h x0_88 e it oe oi own num; refine ap48 ?_
            (with_reducible refine @wi8_ap _ _ _ _ _ _ _ _ ?ne48ctv _ ?_); (case ne48ctv => walk_at "NE0"); refine (?m48ctv : Al8 _) _ _ _ _ _ _ _ _; intros tv sec vs1 n1 rest1 x0_141 x0_145 tk; refine ap8 ?_
            (with_reducible refine @wi2_ap _ _ ?ne56cx0_147 _ ?_); (case ne56cx0_147 => walk_at "NE0"); refine (?m56cx0_147 : Al2 _) _ _; intros x0_147 x0_148; refine ap2 ?_
            intros hm4 B1 X1 T1 BO1 hcel hco hlx hsub hlen he hi hele hoe hce' hlt hsucc hsec hO1 hT1 hc1 hl1 hcf g0_144 g0_149 N8 g0_152
            by_cases hij : i = (idx : Int) ∧ j = (sec : Int)
            · rw [decide_eq_true hij]
              k_extra "k14"
              (rename News _ _ _ _ => N9)
              refine n_lne (News.isList N9 (by k_mem)) (News.isList N9 (by k_mem)) (Nat.le_of_ble_eq_true rfl) ?_
              (refine Or.elim (nil_or_snoc vs1) ?l99 ?r99; (case' r99 => rintro ⟨vs2, y, rfl⟩); (case' l99 => rintro rfl))
              · have hops : ops ++ gapP i (idx : Int) j (sec : Int) = [] := List.eq_nil_of_length_eq_zero hO1.1.symm
                k_extra "k5"
                (
                (rename News _ _ _ _ => nE)
                (try simp only [List.push_toArray] at nE)
                have hDn : ∀ p ∈ own ++ rest1, p.1 < (firstA nE) := by dsimp only [firstA]; assumption
                have hDc : cdl < (firstA nE) := by (rename _ ∧ _ => l9); first | exact l9.1 | exact l9.2.1 | exact l9.2.2.1 | exact l9.2.2.2.1
                have hDe : (firstA nE) ≠ e := Nat.ne_of_gt (hDn _ (List.mem_append_left _ he))
                have hDi : (firstA nE) ≠ it := Nat.ne_of_gt (hDn _ (List.mem_append_left _ hi))
                refine' lc_end (rest' := ((firstA nE), firstO nE) :: rest1) (by assumption) nE (by k_mem) (by k_mem) (by k_mem) ?ow ?rs hce' hele hoe ?rw ?k1 ?k2 ?k3 ?k4 ?kr (hsucc _ ?st) ?op ?nw ?ln
                all_goals (try ((k_extra "g11"); dsimp only [firstO, firstA]))
                (case ow => exact fun p hp => by (repeat (first | exact List.mem_append_left _ hp | refine List.Mem.tail _ ?_)))
                (case rs => exact sub_cons (.head _) fun p hp => by (repeat (first | exact List.mem_append_right _ hp | refine List.Mem.tail _ ?_)))
                (case rw =>
                  intro p hp
                  rcases List.mem_cons.mp hp with rfl | hp
                  · exact ⟨Nat.ne_of_gt hDc, hDe, hDi⟩
                  · exact hc1 p hp)
                (case k1 => with_unfolding_all exact rfl)
                (case k2 => with_unfolding_all exact rfl)
                (case k3 => with_unfolding_all exact rfl)
                (case k4 => with_unfolding_all exact rfl)
                (case kr => first | ksw_same | k_extra "hr2")
                (case st => exact (cT_a hsec (Int.natCast_nonneg sec) hops).symm)
                (case op => exact OpsAre.snoc2 (hO1.sub fun p hp => .tail _ hp) (.head _))
                (case nw => exact fun p hp => .tail _ (hT1 p (hsub p hp)))
                (case ln => ((try simp only [List.length_append, List.length_cons, List.length_nil, List.nil_append]); omega)))
              · have e9 : (!(vs2 ++ [y]).isEmpty) = true := by cases vs2 <;> rfl
                rw [e9]
                obtain ⟨T, tt, op, ops2, rfl, hops, hT8, hO2⟩ := hO1.pop
                repeat' ((k_extra "g0"); (k_extra "g1"); (k_extra "g3"); (k_extra "g8"); (k_extra "g14"); k_extra "t0")
                (rename News _ _ _ _ => N9)
                have hTc : T ≠ cdl := (hc1 _ hT8).1
                have N10 : News _ _ _ ((T, opO op tt) :: (cdl, PySem.W.listOf (vs2 ++ [Value.ref T]).toArray n1) :: (o, PySem.W.listOf ys.toArray eb) :: (el, PySem.W.listOf (xs ++ [Value.none]).toArray 0) :: (own ++ rest1)) := news_sub N9 (sub_cons (by (repeat (first | exact List.mem_append_right _ hT8 | refine List.Mem.tail _ ?_))) (sub_cons (by k_mem) (sub_cons (by k_mem) (sub_cons (by k_mem) fun p hp => by (repeat (first | exact hp | refine List.Mem.tail _ ?_))))))
                clear N9
                have hTc' := neN hTc
                (try dsimp only)
                refine' kl_pop (its := (vs2 ++ [Value.ref T]).toArray) (n := n1) (p := vs2) (y := .ref T) ?F ?N ?e ?U ?z ?_
                case F => k_asm
                case N => exact N10
                case U => exact .tail hTc (.head (ne_cons hco (ne_cons hcel hcf)))
                case e => simpa using kpa_last (.ref T) vs2
                case z => (rw [sizeLine_eq]; simp; (simp at hl1); omega)
                intro h12 F12 N12
                clear N10
                k_sweep
                k_extra "k5"
                (
                (rename News _ _ _ _ => nE)
                (try simp only [List.push_toArray] at nE)
                have hDn : ∀ p ∈ own ++ rest1, p.1 < (firstA nE) := by dsimp only [firstA]; assumption
                have hDc : cdl < (firstA nE) := by (rename _ ∧ _ => l9); first | exact l9.1 | exact l9.2.1 | exact l9.2.2.1 | exact l9.2.2.2.1
                have hDe : (firstA nE) ≠ e := Nat.ne_of_gt (hDn _ (List.mem_append_left _ he))
                have hDi : (firstA nE) ≠ it := Nat.ne_of_gt (hDn _ (List.mem_append_left _ hi))
                refine' lc_end (rest' := ((firstA nE), firstO nE) :: rest1) (by assumption) nE (by k_mem) (by k_mem) (by k_mem) ?ow ?rs hce' hele hoe ?rw ?k1 ?k2 ?k3 ?k4 ?kr (hsucc _ ?st) ?op ?nw ?ln
                all_goals (try ((k_extra "g11"); dsimp only [firstO, firstA]))
                (case ow => exact fun p hp => by (repeat (first | exact List.mem_append_left _ hp | refine List.Mem.tail _ ?_)))
                (case rs => exact sub_cons (.head _) fun p hp => by (repeat (first | exact List.mem_append_right _ hp | refine List.Mem.tail _ ?_)))
                (case rw =>
                  intro p hp
                  rcases List.mem_cons.mp hp with rfl | hp
                  · exact ⟨Nat.ne_of_gt hDc, hDe, hDi⟩
                  · exact hc1 p hp)
                (case k1 => with_unfolding_all exact rfl)
                (case k2 => with_unfolding_all exact rfl)
                (case k3 => with_unfolding_all exact rfl)
                (case k4 => with_unfolding_all exact rfl)
                (case kr => first | ksw_same | k_extra "hr2")
                (case st => exact (cT_b hsec (Int.natCast_nonneg sec) hops hij).symm)
                (case op => exact OpsAre.snoc2 (hO2.sub fun p hp => .tail _ hp) (.head _))
                (case nw => exact fun p hp => .tail _ (hT1 p (hsub p hp)))
                (case ln => ((try simp only [List.length_append, List.length_cons, List.length_nil, List.nil_append]); (try simp only [List.length_append, List.length_cons, List.length_nil] at hl1); omega)))
            · rw [decide_eq_false hij]
              k_extra "k14"
              (
              (rename News _ _ _ _ => nE)
              (try simp only [List.push_toArray] at nE)
              have hDn : ∀ p ∈ own ++ rest1, p.1 < (firstA nE) := by dsimp only [firstA]; assumption
              have hDc : cdl < (firstA nE) := by (rename _ ∧ _ => l9); first | exact l9.1 | exact l9.2.1 | exact l9.2.2.1 | exact l9.2.2.2.1
              have hDe : (firstA nE) ≠ e := Nat.ne_of_gt (hDn _ (List.mem_append_left _ he))
              have hDi : (firstA nE) ≠ it := Nat.ne_of_gt (hDn _ (List.mem_append_left _ hi))
              refine' lc_end (rest' := ((firstA nE), firstO nE) :: rest1) (by assumption) nE (by k_mem) (by k_mem) (by k_mem) ?ow ?rs hce' hele hoe ?rw ?k1 ?k2 ?k3 ?k4 ?kr (hsucc _ ?st) ?op ?nw ?ln
              all_goals (try ((k_extra "g11"); dsimp only [firstO, firstA]))
              (case ow => exact fun p hp => by (repeat (first | exact List.mem_append_left _ hp | refine List.Mem.tail _ ?_)))
              (case rs => exact sub_cons (.head _) fun p hp => by (repeat (first | exact List.mem_append_right _ hp | refine List.Mem.tail _ ?_)))
              (case rw =>
                intro p hp
                rcases List.mem_cons.mp hp with rfl | hp
                · exact ⟨Nat.ne_of_gt hDc, hDe, hDi⟩
                · exact hc1 p hp)
              (case k1 => with_unfolding_all exact rfl)
              (case k2 => with_unfolding_all exact rfl)
              (case k3 => with_unfolding_all exact rfl)
              (case k4 => with_unfolding_all exact rfl)
              (case kr => first | ksw_same | k_extra "hr2")
              (case st => exact (cT_c hsec (Int.natCast_nonneg sec) hij).symm)
              (case op => exact OpsAre.snoc2 (hO1.sub fun p hp => .tail _ hp) (.head _))
              (case nw => exact fun p hp => .tail _ (hT1 p (hsub p hp)))
              (case ln => ((try simp only [List.length_append, List.length_cons, List.length_nil, List.nil_append]); omega)))
      · (rename News _ _ _ _ => nE)
        have hany : (ns.any fun x => x == num) = false := by assumption
        have hio := idx_of_none hany
        rw [hms] at hsucc
        have hsec : secondP ns (some num) = -1 := by simp only [secondP, hio]
        refine' lc_end (rest' := rest) (by assumption) nE (by k_mem) (by k_mem) (by k_mem) ?ow ?rs hce' hele hoe hrest3 ?k1 ?k2 ?k3 ?k4 ?kr (hsucc _ (cT_skip (by omega)).symm) hO hsub ?ln
        case ow => exact fun p hp => by (repeat (first | exact List.mem_append_left _ hp | refine List.Mem.tail _ ?_))
        case rs => exact fun p hp => by (repeat (first | exact List.mem_append_right _ hp | refine List.Mem.tail _ ?_))
        case k1 => with_unfolding_all exact rfl
        case k2 => with_unfolding_all exact rfl
        case k3 => with_unfolding_all exact rfl
        case k4 => with_unfolding_all exact rfl
        case kr => first | ksw_same | k_extra "hr2"
        case ln => omega
    · have hvn : v = .none := by
        have e8 : idx = xs.length := by omega
        subst e8
        simpa using hv.symm
      subst hvn
      have hms : ms[idx]? = none := List.getElem?_eq_none (by omega)
      rw [hms] at hsucc
      have hsec : secondP ns none = (ns.length : Int) := rfl
      k_sweep
      k_extra "k22"
      refine join_if (cdl := cdl) (e := e) (it := it) (fx := (o, PySem.W.listOf ys.toArray eb) :: (el, PySem.W.listOf (xs ++ [Value.none]).toArray 0) :: own) (rest := rest) (k := vs.length) (ops1 := ops ++ gapP i (idx : Int) j (ns.length : Int)) (by assumption) ?hfirst ?hsecond
      case hfirst =>
        k_extra "k23"
        all_goals (
          (rename News _ _ _ _ => nE)
          (try simp only [List.push_toArray] at nE))
        all_goals first
          | (rw [gap_n (i := i) (ai := (idx : Int)) (j := j) (bj := (ns.length : Int)) (by assumption) (by assumption), List.append_nil]; exact jif_end (by assumption) nE (fun p hp => hp) hO (fun _ h => h) hrest3 (Nat.le_succ _))
          | ((first
              | rw [gap_r (i := i) (ai := (idx : Int)) (j := j) (bj := (ns.length : Int)) (by assumption) (by assumption)]
              | rw [gap_d (i := i) (ai := (idx : Int)) (j := j) (bj := (ns.length : Int)) (by assumption) (by assumption)]
              | rw [gap_i (i := i) (ai := (idx : Int)) (j := j) (bj := (ns.length : Int)) (by assumption) (by assumption)])
             have hDn : ∀ p ∈ own ++ rest, p.1 < (firstA nE) := by dsimp only [firstA]; assumption
             have hDc : cdl < (firstA nE) := by (rename _ ∧ _ => l9); exact l9.1
             have hDe : (firstA nE) ≠ e := Nat.ne_of_gt (hDn _ (List.mem_append_left _ he))
             have hDi : (firstA nE) ≠ it := Nat.ne_of_gt (hDn _ (List.mem_append_left _ hi))
             refine jif_end (rest1 := ((firstA nE), firstO nE) :: rest) (n1 := n + 1) (by assumption) nE ?_ (OpsAre.snoc2 (hO.sub fun p hp => .tail _ hp) (.head _)) (fun p hp => .tail _ hp) ?_ (by simp)
             all_goals (try ((k_extra "g11"); dsimp only [firstO, firstA]))
             · refine sub_cons (.tail _ (.head _)) (sub_cons (.tail _ (.tail _ (.head _))) (sub_cons (.tail _ (.tail _ (.tail _ (.head _)))) fun p hp => ?_))
               rcases List.mem_append.mp hp with hp | hp
               · exact .tail _ (.tail _ (.tail _ (.tail _ (List.mem_append_left _ hp))))
               · rcases List.mem_cons.mp hp with rfl | hp
                 · exact .head _
                 · exact .tail _ (.tail _ (.tail _ (.tail _ (List.mem_append_right _ hp))))
             · intro p hp
               rcases List.mem_cons.mp hp with rfl | hp
               · exact ⟨Nat.ne_of_gt hDc, hDe, hDi⟩
               · exact hrest3 p hp)
      case hsecond =>
        intro h6 tk6 vs1 n1 rest1 F6 N7 hO1 hT1 hc1 hl1
        simp only [List.cons_append] at N7
        k_sweep
        k_extra "k5"
        (rename News _ _ _ _ => nE)
        refine' lc_end (rest' := rest1) (by assumption) nE (by k_mem) (by k_mem) (by k_mem) ?ow ?rs hce' hele hoe hc1 ?k1 ?k2 ?k3 ?k4 ?kr (hsucc _ (cT_none hsec (Int.natCast_nonneg _)).symm) hO1 (fun p hp => hT1 p (hsub p hp)) ?ln
        case ow => exact fun p hp => by (repeat (first | exact List.mem_append_left _ hp | refine List.Mem.tail _ ?_))
        case rs => exact fun p hp => by (repeat (first | exact List.mem_append_right _ hp | refine List.Mem.tail _ ?_))
        case k1 => with_unfolding_all exact rfl
        case k2 => with_unfolding_all exact rfl
        case k3 => with_unfolding_all exact rfl
        case k4 => with_unfolding_all exact rfl
        case kr => first | ksw_same | k_extra "hr2"
        case ln => omega
  case done =>
    rintro ⟨i, j, ti, tj, vs, n, ops, rest⟩ u h tk ⟨hst, hO, hsub, hrc, hlen⟩ F5 N5
    (try dsimp only [kstB] at F5 N5 hst hO hsub hrc hlen)
    (try dsimp only)
    k_sweep
    k_extra "k4"
    (try dsimp only)
    (try k_unfold)
    refine leaveK_ (by assumption) (by assumption) fun kF kN => ?_
    (try dsimp only)
    have hsz : (xs ++ [Value.none]).toArray.size = ms.length + 1 := by simp [hlx]
    rw [hsz] at hst
    have hO' : OpsAre rest vs (codesP ms ns) := by unfold codesP; rw [← hst]; exact hO
    exact hQ cdl _ _ vs n _ kF kN (fun p hp => .tail _ (.tail _ (.tail _ (hsub p hp)))) (.head _) hnc (hO'.sub fun p hp => .tail _ (.tail _ (.tail _ hp)))
end
section --B1
theorem turn1 {w : World} {loose : List Str} {mean : ExcName → Option Value} {mg mb : Str → Option Value} :
  ∀ (gd : Option (List Code)) (a : Addr) (outer : List Env) (A₀ : Around) (base h₀ : Heap) (L ck cr cm : Addr) (m : Str → Option Value) (news : List (Addr × Obj)) (s : Shared)
    (Q : Flow → Shared → Prop) (kv : Int) (t : Tok) (D d0 d1 d2 e0 e1 e2 : Addr) (nD : Nat),
    Below A₀ base outer h₀ → Fr h₀ L s.heap (fun y => if y = Str.ofString "k" then some (.int kv t) else if y = Str.ofString "told" then some (.ref D) else m y) → (Mine.hd0.heap_1 w.params).In h₀ → Boot w h₀ → News h₀ L s.heap ((D, PySem.W.listOf #[.ref d0, .ref d1, .ref d2] nD) :: news) → Top topProg loose mean mg mb h₀ →
    ((kv = 0 ∧ e0 = d0 ∧ e1 = d1 ∧ e2 = d2) ∨ (kv = 1 ∧ e0 = d1 ∧ e1 = d2 ∧ e2 = d0) ∨ (kv = 2 ∧ e0 = d2 ∧ e1 = d0 ∧ e2 = d1)) → PySem.Challenge.rw_mr0378_01 = PySem.Challenge.rw_mr0378_01 →
    (∀ (h' : Heap) (tk : Nat), Fr h₀ L h' (fun y => if y = Str.ofString "last" then some (.ref e2) else if y = Str.ofString "other" then some (.ref e1) else if y = Str.ofString "one" then some (.ref e0) else if y = Str.ofString "k" then some (.int kv t) else if y = Str.ofString "told" then some (.ref D) else m y) → News h₀ L h' ((D, PySem.W.listOf #[.ref d0, .ref d1, .ref d2] nD) :: news) → Q .next { s with heap := h', toks := tk }) →
    wpAny (model PySem.Challenge.rw_mr0378_01.row.prog w) (ktrTop 302 20 gd (Str.ofString "law") lawScope L a (.ref 285) [(Str.ofString "mult", cm), (Str.ofString "row", cr), (Str.ofString "key", ck)] outer) (exec (lawTurn 0) (envX (Str.ofString "law") lawScope L a (.ref 285) [(Str.ofString "mult", cm), (Str.ofString "row", cr), (Str.ofString "key", ck)])) Q (fun _ _ => False) s := by
  w_top off
  k_fill
  revert w loose mean mg mb
  (with_reducible refine @wi5_ap _ _ _ _ _ ?ne9 _ ?_); (case ne9 => walk_at "NE0"); refine (?m9 : Al5 _) _ _ _ _ _; intros w loose mean mg mb; refine ap5 ?_
  rintro gd a outer A₀ base h₀ L ck cr cm m news s Q kv t D d0 d1 d2 e0 e1 e2 nD B F X BO N T hkv _ hQ
  conv in (lawTurn _) => whnf
  conv in (occs := *) lawScope => (all_goals whnf)
  rcases hkv with ⟨rfl, rfl, rfl, rfl⟩ | ⟨rfl, rfl, rfl, rfl⟩ | ⟨rfl, rfl, rfl, rfl⟩
  · repeat' ((k_extra "g0"); k_extra "t0")
    (rename Fr _ _ _ _ => F9)
    (rename News _ _ _ _ => N9)
    exact hQ _ _ F9 (news_sub N9 (fun p hp => by simp only [List.mem_cons] at hp ⊢; grind))
  · repeat' ((k_extra "g0"); k_extra "t0")
    (rename Fr _ _ _ _ => F9)
    (rename News _ _ _ _ => N9)
    exact hQ _ _ F9 (news_sub N9 (fun p hp => by simp only [List.mem_cons] at hp ⊢; grind))
  · repeat' ((k_extra "g0"); k_extra "t0")
    (rename Fr _ _ _ _ => F9)
    (rename News _ _ _ _ => N9)
    exact hQ _ _ F9 (news_sub N9 (fun p hp => by simp only [List.mem_cons] at hp ⊢; grind))
end
section --Sm
local macro_rules | `(tactic| k_enter) => `(tactic| (k_extra "wb1623"; intro g' L' h' FG' F' N' B' X' T'; (try dsimp only); (try k_lift B'); (try k_fold)))
theorem sm {w : World} {loose : List Str} {mean : ExcName → Option Value} {mg mb : Str → Option Value} :
  ∀ (gd : Option (List Code)) (cn : Str) (cs : Scope) (a : Addr) (ccd : Value) (cl : List (Str × Addr)) (outer : List Env) (A₀ : Around) (base h₀ : Heap) (L : Addr) (m : Str → Option Value) (news : List (Addr × Obj)) (s : Shared)
    (Q E : Value → Shared → Prop) (la lb : Addr) (xs ys : List Value) (ea eb : Nat) (ms ns : List Int),
    Below A₀ base outer h₀ → Fr h₀ L s.heap m → (Mine.hd0.heap_1 w.params).In h₀ → Boot w h₀ → News h₀ L s.heap news → Top topProg loose mean mg mb h₀ → cs.kind = .function →
    (la, PySem.W.listOf xs.toArray ea) ∈ news → (lb, PySem.W.listOf ys.toArray eb) ∈ news → IntsAre xs ms → IntsAre ys ns → ms.length ≤ 4 → ns.length ≤ 4 → ns.Nodup → PySem.Challenge.rw_mr0378_01 = PySem.Challenge.rw_mr0378_01 →
    (∀ (x : Addr) (D : SmD) (h' : Heap) (tk : Nat) (news' : List (Addr × Obj)), Fr h₀ L h' m → News h₀ L h' news' → (∀ p ∈ news, p ∈ news') → (∀ p ∈ news, p.1 ≠ D.d) → SmIn w news' x D .none .none ms ns → Q (.ref x) { s with heap := h', toks := tk }) →
    wpAny (model PySem.Challenge.rw_mr0378_01.row.prog w) (ktrTop 360 200 gd cn cs L a ccd cl outer) (call (.ref 242) [.none, .ref la, .ref lb]) Q E s := by
  w_top off
  k_fill
  revert w loose mean mg mb
  (with_reducible refine @wi5_ap _ _ _ _ _ ?ne9 _ ?_); (case ne9 => walk_at "NE0"); refine (?m9 : Al5 _) _ _ _ _ _; intros w loose mean mg mb; refine ap5 ?_
  rintro gd cn cs a ccd cl outer A₀ base h₀ L m news s Q E la lb xs ys ea eb ms ns B F X BO N T hk hla hlb hi1 hi2 hm4 hn4 hnd _ hQ
  replace N := news_front (news_front N hlb) (.tail _ hla)
  k_extra "k0"
  refine wpAny_For ?_
  k_extra "k7"
  rename_i _ bd _ ob0 lo9 _ _ hi9 _ lt9 _ _ F9 N9
  (obtain ⟨bd, rfl⟩ := nm0 N9; obtain ⟨x9, rfl⟩ := nm1 N9; obtain ⟨d9, rfl⟩ := nm2 N9; obtain ⟨la, rfl⟩ := nm3 N9; obtain ⟨lb, rfl⟩ := nm4 N9)
  (obtain ⟨od9, hod9, N9b⟩ := third N9; replace N9 := N9b; clear N9b)
  refine enum_loop (σ := BS) (l := lb) (items := ys.toArray) (nn := eb) (fun c => (bd, c.o) :: (x9, instObj 242 d9) :: (d9, od9) :: (la, PySem.W.listOf xs.toArray ea) :: (lb, PySem.W.listOf ys.toArray eb) :: c.rest)
    (fun _ => [(Str.ofString "b2j", .ref bd), (Str.ofString "b", .ref lb)]) [Str.ofString "indices"]
    (fun i c => BsI PySem.Challenge.rw_mr0378_01.row.prog w bd ns i c ∧ (∀ p ∈ news, p ∈ c.rest) ∧ (∀ p ∈ c.rest, p.1 ≠ d9))
    ⟨ob0, [], fun _ => 0, fun _ => 0, news⟩ ?h1 ?h2 ?h3 ?h4 (by k_mem) F9 N9 ?hk ?hP ?hps ?turn ?done
  case h1 => with_unfolding_all rfl
  case h2 => with_unfolding_all rfl
  case h3 => with_unfolding_all rfl
  case h4 => with_unfolding_all rfl
  case hk => (k_extra "PS9")
  case hps =>
    intro c p hp
    rcases List.mem_cons.mp hp with e | hp
    · rw [e]; exact ⟨(by decide : Str.ofString "b2j" ≠ Str.ofString "i"), (by decide : Str.ofString "b2j" ≠ Str.ofString "elt")⟩
    · rw [List.mem_singleton.mp hp]; exact ⟨(by decide : Str.ofString "b" ≠ Str.ofString "i"), (by decide : Str.ofString "b" ≠ Str.ofString "elt")⟩
  case hP => exact ⟨⟨hi9, Nat.le_refl _, fun v => rfl, fun j hj => absurd hj (Nat.not_lt_zero _), by k_all⟩, fun _ h => h, by k_all⟩
  case turn =>
    rintro ⟨o1, kvs1, al1, tj1, rest1⟩ i v t u h tk e it oe oi own hv ⟨hB, hsub, hd8⟩ hw he hi hof F5 N5
    obtain ⟨n, tv, hn, rfl⟩ := ints_of hi2 hv
    (try dsimp only [kstB] at F5 N5 hsub hd8 hw hB)
    (try dsimp only)
    have hbe : bd ≠ e ∧ bd ≠ it := by have := hw (bd, o1) (.head _); simpa using this
    have hbl : bd ≠ lb := Nat.ne_of_gt lt9.2.2.2.1
    have hbo : ∀ p ∈ own, p.1 ≠ bd := fun p hp q => by
      have := hof p hp
      rw [q] at this
      simp [hbe.1, hbe.2, hbl] at this
    have hrb : ∀ p ∈ rest1, p.1 ≠ bd := hB.2.2.2.2
    obtain ⟨T1, hT1⟩ : ∃ T, T = own ++ (x9, instObj 242 d9) :: (d9, od9) :: (la, PySem.W.listOf xs.toArray ea) :: (lb, PySem.W.listOf ys.toArray eb) :: rest1 := ⟨_, rfl⟩
    have hTb : ∀ p ∈ T1, p.1 ≠ bd := by
      subst hT1
      intro p hp
      rcases List.mem_append.mp hp with hp | hp
      · exact hbo p hp
      · (repeat (rcases List.mem_cons.mp hp with rfl | hp; (first | exact Nat.ne_of_lt lt9.1 | exact Nat.ne_of_lt lt9.2.1 | exact Nat.ne_of_lt lt9.2.2.1 | exact Nat.ne_of_lt lt9.2.2.2.1)))
        exact hrb p hp
    have N6 : News _ _ _ ((bd, o1) :: (e, oe) :: (it, oi) :: (d9, od9) :: T1) := news_sub N5 (by
      subst hT1
      refine sub_cons (List.mem_append_right _ (.head _)) (sub_cons (List.mem_append_left _ he) (sub_cons (List.mem_append_left _ hi) (sub_cons (List.mem_append_right _ (.tail _ (.tail _ (.head _)))) ?_)))
      intro p hp
      rcases List.mem_append.mp hp with hp | hp
      · exact List.mem_append_left _ hp
      · exact List.mem_append_right _ (.tail _ hp))
    clear N5
    have hB1 : o1.IsDictOf (intKind PySem.Challenge.rw_mr0378_01.row.prog w) kvs1 := hB.1
    k_sweep
    repeat' ((k_extra "g0"); (k_extra "g1"); (k_extra "g3"); (fail_if_success (with_reducible show wpAny _ _ (call (Value.builtin "dict.setdefault") _) _ _ _)); k_extra "t0")
    (rename Fr _ _ _ _ => F7)
    (rename News _ _ _ _ => N7)
    (obtain ⟨al9, rfl⟩ := nm0 N7)
    have hl : valueAt kvs1 n = none := by rw [hB.2.2.1, idx_take_none hnd hn]; rfl
    have hin := (List.getElem?_eq_some_iff.mp hn).1
    refine n_setd (o := o1) (kvs := kvs1) (rest := (al9, PySem.W.listOf #[] 0) :: (e, oe) :: (it, oi) :: (d9, od9) :: T1) F7 (news_sub N7 ?sub) ?ap lo9 hB1 hl (Nat.le_trans hB.2.1 (Nat.le_trans (Nat.le_of_lt hin) (Nat.le_trans hn4 (by decide)))) ?_
    case sub => ((repeat ((fail_if_success (k_extra "g2")); refine sub_cons (by k_mem) ?_)); first | exact sub_nil | (intro p9 hp9; (repeat (first | exact hp9 | refine List.Mem.tail _ ?_))))
    case ap =>
      intro p hp
      rcases List.mem_cons.mp hp with rfl | hp
      · refine Nat.ne_of_gt ?_; (rename _ ∧ _ => l8); exact l8.1
      rcases List.mem_cons.mp hp with rfl | hp
      · exact hbe.1.symm
      rcases List.mem_cons.mp hp with rfl | hp
      · exact hbe.2.symm
      rcases List.mem_cons.mp hp with rfl | hp
      · exact Nat.ne_of_lt lt9.2.1
      · exact hTb p hp
    (rename _ ∧ _ => l8)
    have h8l : bd < al9 ∧ e < al9 ∧ it < al9 ∧ d9 < al9 ∧ AllLt al9 T1 := l8
    intro h8 o8 F8 N8 ho8
    k_sweep
    k_extra "k5"
    (rename Fr _ _ _ _ => F10)
    (rename News _ _ _ _ => N9')
    have N10 : News _ _ _ ((bd, o8) :: (al9, PySem.W.listOf #[.int (i : Int) t] 1) :: (e, oe) :: (it, oi) :: (d9, od9) :: T1) := N9'
    have e9 : al9 ≠ e ∧ al9 ≠ it := ⟨Nat.ne_of_gt h8l.2.1, Nat.ne_of_gt h8l.2.2.1⟩
    refine pturn_end ⟨o8, PySem.stored kvs1 n (.ref al9), fun j => if j = i then al9 else al1 j, fun j => if j = i then t else tj1 j, (al9, PySem.W.listOf #[.int (i : Int) t] 1) :: rest1⟩ F10 N10 ?hs ?hne ?hk ?hr ⟨BsI.step hB hnd hn ho8 (.head _) (fun p hp => .tail _ hp) ?hb, fun p hp => .tail _ (hsub p hp), ?hd⟩
    case hb =>
      intro p hp
      rcases List.mem_cons.mp hp with rfl | hp
      · exact Nat.ne_of_gt h8l.1
      · exact hrb p hp
    case hd =>
      intro p hp
      rcases List.mem_cons.mp hp with rfl | hp
      · exact Nat.ne_of_gt h8l.2.2.2.1
      · exact hd8 p hp
    case hk => (k_extra "PS9")
    case hr => ksw_same
    case hs =>
      have hT : ∀ p ∈ T1, p ∈ (bd, o8) :: (al9, PySem.W.listOf #[.int (i : Int) t] 1) :: (e, oe) :: (it, oi) :: (d9, od9) :: T1 := fun p hp => .tail _ (.tail _ (.tail _ (.tail _ (.tail _ hp))))
      subst hT1
      intro p hp
      rcases List.mem_append.mp hp with hp | hp
      · exact hT p (List.mem_append_left _ hp)
      (try dsimp only at hp)
      rcases List.mem_cons.mp hp with rfl | hp
      · exact .head _
      (repeat (rcases List.mem_cons.mp hp with rfl | hp; (first | exact hT _ (List.mem_append_right _ (by k_mem)) | exact .tail _ (.head _))))
      exact hT _ (List.mem_append_right _ (.tail _ (.tail _ (.tail _ (.tail _ hp)))))
    case hne =>
      intro p hp
      (try dsimp only at hp)
      rcases List.mem_cons.mp hp with rfl | hp
      · simp [hbe.1, hbe.2]
      rcases List.mem_cons.mp hp with rfl | hp
      · exact hw _ (.tail _ (.head _))
      rcases List.mem_cons.mp hp with rfl | hp
      · exact hw _ (.tail _ (.tail _ (.head _)))
      rcases List.mem_cons.mp hp with rfl | hp
      · exact hw _ (.tail _ (.tail _ (.tail _ (.head _))))
      rcases List.mem_cons.mp hp with rfl | hp
      · exact hw _ (.tail _ (.tail _ (.tail _ (.tail _ (.head _)))))
      rcases List.mem_cons.mp hp with rfl | hp
      · simp [e9.1, e9.2]
      · exact hw p (.tail _ (.tail _ (.tail _ (.tail _ (.tail _ hp)))))
  case done =>
    rintro ⟨o1, kvs1, al1, tj1, rest1⟩ u h tk ⟨hB, hsub, hd8⟩ F5 N5
    (try dsimp only [kstB] at F5 N5 hsub hd8 hB)
    (try dsimp only)
    have hrb : ∀ p ∈ rest1, p.1 ≠ bd := hB.2.2.2.2
    subst hod9
    k_sweep
    k_extra "k0"
    (rename Fr _ _ _ _ => F12)
    (rename News _ _ _ _ => N12)
    (obtain ⟨sp9, rfl⟩ := nm0 N12; obtain ⟨sj9, rfl⟩ := nm1 N12)
    have hsj := mem_two N12
    have hdm := mem_five N12
    refine sm_in (x := x9) (D := ⟨d9, la, lb, bd, sj9, sp9, xs, ys, ea, eb, fun _ => 0, o1, kvs1, al1, tj1, _⟩) (ms := ms) (ns := ns) hdm ⟨by k_mem, by k_mem, by k_mem, by k_mem, hsj, hi1, hi2, hB.1, lo9, ?hv, ?hal, hm4, hn4, Nat.ne_of_gt lt9.2.1⟩ fun D' hDd hD => hQ x9 D' _ _ _ F12 N12 ?hsub ?hap hD
    case hv =>
      intro v
      rw [hB.2.2.1, List.take_of_length_le]
      rw [← hi2.length]; simp
    case hal => exact fun j hj => .tail _ (.tail _ (.tail _ (.tail _ (.tail _ (.tail _ (.tail _ (hB.2.2.2.1 j (by have := hi2.length; simp; omega))))))))
    case hsub => exact fun p hp => .tail _ (.tail _ (.tail _ (.tail _ (.tail _ (.tail _ (.tail _ (hsub p hp)))))))
    case hap => rw [hDd]; exact fun p hp => hd8 p (hsub p hp)
end
section --Goc
local macro_rules | `(tactic| walk_at "call builtin:list.append") => `(tactic| (k_extra "web0b8"; intro h' F' N'; (try k_sweep)))
structure OS where
  i : Int
  j : Int
  ti : Tok
  tj : Tok
  vs : List Value
  n : Nat
  ops : List Op
  rest : List (Addr × Obj)
theorem OS.all9 {P : OS → Prop} (h : ∀ x0 x1 x2 x3 x4 x5 x6 x7, P ⟨x0, x1, x2, x3, x4, x5, x6, x7⟩) : ∀ c, P c := fun ⟨x0, x1, x2, x3, x4, x5, x6, x7⟩ => h x0 x1 x2 x3 x4 x5 x6 x7
theorem neOS : Nonempty OS := ⟨by constructor <;> exact Classical.choice inferInstance⟩
theorem goc_end {ms ns : List Int} {gmbP : List Int → List Int → List (Int × Int × Int)} {h₀ : Heap} {L : Addr} {stored : List Str} {m₀ m' : Str → Option Value} {al0 r I : Addr} {oi : Obj} {vsr : List Value} {nr : Nat} {base : List (Addr × Obj)} {k : Nat} {s₁ : Shared} {h' : Heap} {tk : Nat} {news' rest : List (Addr × Obj)}
    {vs' : List Value} {n' : Nat} {ops' : List Op} {i' j' : Int} {ti tj : Tok} (F : Fr h₀ L h' m') (N : News h₀ L h' news') (ham : (al0, PySem.W.listOf vs'.toArray n') ∈ news') (hrm : (r, PySem.W.listOf vsr.toArray nr) ∈ news') (hIm : (I, oi) ∈ news') (hIa : al0 ≠ I) (hIr : r ≠ I)
    (hi : m' (Str.ofString "i") = some (.int i' ti)) (hj : m' (Str.ofString "j") = some (.int j' tj)) (ha : m' (Str.ofString "answer") = some (.ref al0))
    (hr : ∀ z, (∀ p ∈ [(Str.ofString "i", Value.int i' ti), (Str.ofString "j", .int j' tj), (Str.ofString "answer", .ref al0)], z ≠ p.1) → stored.contains z = false → m' z = m₀ z)
    (hst : (ops', i', j') = ((gmbP ms ns).take (k + 1)).foldl opsT ([], 0, 0)) (hO : OpsAre (but I (but al0 news')) vs' ops') (hb : ∀ p ∈ base, p ∈ rest) (hrest : ∀ p ∈ rest, p ∈ news' ∧ p.1 ≠ al0 ∧ p.1 ≠ I) (hl : vs'.length ≤ 2 * (k + 1)) :
    TTurnE h₀ L stored m₀ (fun c : OS => (al0, PySem.W.listOf c.vs.toArray c.n) :: (r, PySem.W.listOf vsr.toArray nr) :: c.rest) (fun c => [(Str.ofString "i", .int c.i c.ti), (Str.ofString "j", .int c.j c.tj), (Str.ofString "answer", .ref al0)])
      (fun c => (c.ops, c.i, c.j) = ((gmbP ms ns).take (k + 1)).foldl opsT ([], 0, 0) ∧ OpsAre c.rest c.vs c.ops ∧ (∀ p ∈ base, p ∈ c.rest) ∧ (∀ p ∈ c.rest, p.1 ≠ al0) ∧ c.vs.length ≤ 2 * (k + 1)) I oi s₁ { s₁ with heap := h', toks := tk } := by
  refine tturn_end (σ := OS) ⟨i', j', ti, tj, vs', n', ops', but I (but al0 news')⟩ F N ?_ ?_ ?_ hr ⟨hst, hO, fun p hp => ?_, fun p hp => but_ne p (but_sub p hp), hl⟩
  · intro p hp
    rcases List.mem_cons.mp hp with rfl | hp
    · exact hIm
    rcases List.mem_cons.mp hp with rfl | hp
    · exact ham
    rcases List.mem_cons.mp hp with rfl | hp
    · exact hrm
    exact but_sub p (but_sub p hp)
  · intro p hp
    rcases List.mem_cons.mp hp with rfl | hp
    · exact hIa
    rcases List.mem_cons.mp hp with rfl | hp
    · exact hIr
    exact but_ne p hp
  · intro p hp
    rcases List.mem_cons.mp hp with rfl | hp
    · exact hi
    rcases List.mem_cons.mp hp with rfl | hp
    · exact hj
    rcases List.mem_cons.mp hp with rfl | hp
    · exact ha
    exact nomatch hp
  · obtain ⟨a, b, c⟩ := hrest p (hb p hp)
    exact but_mem (but_mem a b) c
theorem goc {w : World} {gmbP : List Int → List Int → List (Int × Int × Int)} (hG : GmbC w gmbP) {loose : List Str} {mean : ExcName → Option Value} {mg mb : Str → Option Value} :
  ∀ (gd : Option (List Code)) (cn : Str) (cs : Scope) (a : Addr) (ccd : Value) (cl : List (Str × Addr)) (outer : List Env) (A₀ : Around) (base h₀ : Heap) (L : Addr) (m : Str → Option Value) (news : List (Addr × Obj)) (s : Shared)
    (Q E : Value → Shared → Prop) (x : Addr) (D : SmD) (ms ns : List Int),
    Below A₀ base outer h₀ → Fr h₀ L s.heap m → (Mine.hd0.heap_1 w.params).In h₀ → Boot w h₀ → News h₀ L s.heap (news) → Top topProg loose mean mg mb h₀ → cs.kind = .function →
    SmIn w news x D .none .none ms ns → PySem.Challenge.rw_mr0378_01 = PySem.Challenge.rw_mr0378_01 →
    (∀ (r : Addr) (h' : Heap) (tk : Nat) (news' : List (Addr × Obj)) (vs : List Value) (n : Nat), Fr h₀ L h' m → News h₀ L h' news' → (∀ p ∈ news, p.1 ≠ D.d → p ∈ news') → (∀ p ∈ news, p.1 ≠ D.d → p.1 ≠ r) → (r, PySem.W.listOf vs.toArray n) ∈ news' → OpsAre news' vs ((gmbP ms ns).foldl opsT ([], 0, 0)).1 → Q (.ref r) { s with heap := h', toks := tk }) →
    wpAny (model PySem.Challenge.rw_mr0378_01.row.prog w) (ktrTop 360 200 gd cn cs L a ccd cl outer) (call (.ref 210) [.ref x]) Q E s := by
  w_top off
  k_fill
  revert w gmbP loose mean mg mb
  (with_reducible refine @wi2_ap _ _ ?ne9 _ ?_); (case ne9 => walk_at "NE0"); refine (?m9 : Al2 _) _ _; intros w gmbP; refine ap2 ?_
  intro hG
  (with_reducible refine @wi4_ap _ _ _ _ ?ne9 _ ?_); (case ne9 => walk_at "NE0"); refine (?m8 : Al4 _) _ _ _ _; intros loose mean mg mb; refine ap4 ?_
  rintro gd cn cs a ccd cl outer A₀ base h₀ L m news s Q E x ⟨d, la, lb, bd, sj, sp, xs, ys, ea, eb, t, ob, kvs, al, tj, led⟩ ms ns B F X BO N T hk ⟨hmd, hR⟩ _ hQ
  (try dsimp only at hmd hQ)
  have hxd : x ≠ d := news_ne N hR.1 hmd (by intro e; cases e)
  have hxb := but_mem hR.1 hxd
  (try dsimp only at hxb)
  have N0 := N
  replace N := news_front (news_but N hmd) (.tail _ hxb)
  have hTd : ∀ p ∈ but d news, p.1 ≠ d := but_ne
  have hxd' := neN hxd
  refine wpAny_call ?_
  k_dflt (refine' code_def ?k1 ?k2 ?k3 ?k4 ?k5 ?kA ?kF ?kK ?k6 ?k7 ?k8 ?k9 ?kB ?_ ?c2 ?c3 ?c4 ?c5; (case kA => exact rfl); (case kF => exact rfl); (case kK => assumption); (case k1 => k_asm); (case k2 => k_asm); (case k3 => k_asm); (case k4 => k_asm); (case k5 => k_asm); (case k6 => k_is); (case k7 => k_is); (case k8 => ktr_room); (case k9 => first | exact BindsTo.of_eq rfl | exact binds_K (by k_in) rfl (by k_is) rfl rfl rfl); (case c5 => decide); (case kB => exact locs rfl); (case c2 => exact rfl); (case c3 => exact rfl); (case c4 => exact rfl); k_whole; intro g L1 h1 FG F1 N1 B1 X1 T1; (try dsimp only); (try k_fold))
  have BO1 : Boot w g := boot_keeps BO FG.keep
  k_extra "k0"
  refine wpAny_For ?_
  k_extra "k8"
  rename_i al0 _ lal0 _ _ _ _
  have hal := hT9
  refine wpAny_up (hG _ _ _ _ _ _ _ _ _ g L1 _ _ _ _ _ _ _ _ _ x ⟨d, la, lb, bd, sj, sp, xs, ys, ea, eb, t, ob, kvs, al, tj, led⟩ _ ms ns B1 (by assumption) X1 BO1 (by assumption) T1 rfl ⟨by k_mem, ?hR1⟩ ?ret) (Nat.le_of_ble_eq_true rfl) (Nat.le_of_ble_eq_true rfl)
  case hR1 => exact smr_apart N0 hmd hR fun p hp h => .tail _ (.tail _ (.tail _ (but_mem hp h)))
  case ret =>
    intro r h3 tk3 news3 vs n F3 N3 hsub hrn hrm hB h100
    have ha3 : (al0, PySem.W.listOf #[] 0) ∈ news3 := hsub _ (.head _) (neN (by dsimp only; omega))
    have hra : r ≠ al0 := (hrn _ (.head _)).symm
    have N4 := news_front (news_but N3 ha3) (.tail _ (but_mem hrm hra))
    have hs3 : ∀ p ∈ news, p.1 ≠ d → p ∈ news3 := fun p hp h => hsub p (.tail _ (.tail _ (.tail _ (but_mem hp h)))) h
    have hla : ∀ p ∈ news, p.1 ≠ d → p.1 ≠ al0 := fun p hp h => Nat.ne_of_lt (hal p (but_mem hp h))
    refine tlist_loop (σ := OS) (l := r) (items := vs.toArray) (nn := n) (fun c => (al0, PySem.W.listOf c.vs.toArray c.n) :: (r, PySem.W.listOf vs.toArray n) :: c.rest)
      (fun c => [(Str.ofString "i", .int c.i c.ti), (Str.ofString "j", .int c.j c.tj), (Str.ofString "answer", .ref al0)]) [Str.ofString "ai", Str.ofString "bj", Str.ofString "size", Str.ofString "tag"]
      (fun k c => (c.ops, c.i, c.j) = ((gmbP ms ns).take k).foldl opsT ([], 0, 0) ∧ OpsAre c.rest c.vs c.ops ∧ (∀ p ∈ but al0 news3, p ∈ c.rest) ∧ (∀ p ∈ c.rest, p.1 ≠ al0) ∧ c.vs.length ≤ 2 * k)
      ⟨0, 0, ?t1, ?t2, [], 0, [], but al0 news3⟩ rfl (fun _ => .tail _ (.head _)) ?hrf F3 ?hN ?hk ⟨rfl, OpsAre.nil, fun _ hp => hp, but_ne, Nat.zero_le _⟩ ?turn ?done
    case hN => dsimp only; refine news_sub N4 ?_; ((repeat ((fail_if_success (k_extra "g2")); refine sub_cons (by k_mem) ?_)); first | exact sub_nil | (intro p9 hp9; (repeat (first | exact hp9 | refine List.Mem.tail _ ?_))))
    case hk => (k_extra "PS9")
    case hrf =>
      intro i v e
      obtain ⟨q, _, _, _, rfl, _⟩ := hB.2 i v (by simpa using e)
      exact ⟨q, rfl⟩
    case turn =>
      rintro ⟨i, j, ti, tj2, vs2, n2, ops, rest⟩ k T u h tk I oi hT ⟨hst, hO, hsub2, hne2, hlen⟩ hneI F5 N5
      obtain ⟨q, dm, tm, ⟨ai, bj, size⟩, e1, e2, e3⟩ := hB.2 k _ (by simpa using hT)
      have e1' := PySem.Value.ref.inj e1
      subst e1'
      clear e1
      (try dsimp only [kstB] at F5 N5 hst hO hsub2 hne2 hlen e3)
      (try dsimp only)
      have hTa : T ≠ al0 := news_ne N3 e3 ha3 (fun e => by cases e)
      have hTm : (T, (⟨.ref 135, some dm, .seq #[.int ai tm.1, .int bj tm.2.1, .int size tm.2.2] 0, #[]⟩ : Obj)) ∈ rest := hsub2 _ (but_mem e3 hTa)
      have hst' : ((gmbP ms ns).take (k + 1)).foldl opsT ([], 0, 0) = opsT (ops, i, j) (ai, bj, size) := by rw [List.take_add_one, e2, hst]; simp
      have hrI : r ≠ I := hneI (r, PySem.W.listOf vs.toArray n) (by k_mem)
      replace N5 := news_front N5 (.tail _ (.tail _ (.tail _ hTm)))
      have hIa := neN (hneI (al0, PySem.W.listOf vs2.toArray n2) (by k_mem))
      have hTa' := neN hTa
      have hk100 : k < 100 := by
        have := (List.getElem?_eq_some_iff.mp (by simpa using hT : vs[k]? = some (Value.ref T))).1
        omega
      have hra' := neN hra
      k_sweep
      k_extra "k24"
      refine n_assignM (fun hq => wpAny_up hq (Nat.le_of_ble_eq_true rfl) (Nat.le_of_ble_eq_true rfl)) (by assumption) (by assumption) X1 BO1 (by k_mem) ?_
      intro h6 tk6 F6 N6
      k_sweep
      repeat' ((k_extra "g0"); (k_extra "g1"); (k_extra "g3"); (k_extra "g4"); (fail_if_success (with_reducible show wpAny _ _ (execs (Stmt.If _ _ _ _ :: _) _) _ _ _)); k_extra "t0")
      refine execs_two ?_
      (rename Fr _ _ _ _ => FJ)
      refine jl (l := al0) (Str.ofString "tag") (fx := (r, PySem.W.listOf vs.toArray n) :: (I, oi) :: []) (P := fun vs3 rest3 => OpsAre rest3 vs3 (ops ++ gapP i ai j bj) ∧ (∀ p ∈ rest, p ∈ rest3) ∧ (∀ p ∈ rest3, p.1 ≠ al0 ∧ p.1 ≠ I) ∧ vs3.length ≤ vs2.length + 1) FJ ?jfirst ?jsecond
      case jfirst =>
        skip
        repeat' ((k_extra "g0"); (k_extra "g1"); (k_extra "g3"); (k_extra "g4"); (fail_if_success (with_reducible show JL _ _ _ _ _ _ _ _ _ _)); k_extra "t0")
        all_goals (
          (rename News _ _ _ _ => nE)
          (try simp only [List.push_toArray] at nE)
          (rename Fr _ _ _ _ => fE)
          (first
            | (rw [gap_n (i := i) (ai := ai) (j := j) (bj := bj) (by assumption) (by assumption), List.append_nil]
               refine' jl_mem (rest := rest) fE ?jm nE ?hmm ?hff ?hrr ⟨hO, fun p hp => hp, fun p hp => ⟨hne2 p hp, hneI p (by simp [hp])⟩, Nat.le_succ _⟩)
            | ((first
                | rw [gap_r (i := i) (ai := ai) (j := j) (bj := bj) (by assumption) (by assumption)]
                | rw [gap_d (i := i) (ai := ai) (j := j) (bj := bj) (by assumption) (by assumption)]
                | rw [gap_i (i := i) (ai := ai) (j := j) (bj := bj) (by assumption) (by assumption)])
               (rename _ ∧ _ => l9)
               refine' jl_mem (rest := (firstA nE, firstO nE) :: rest) fE ?jm nE ?hmm ?hff ?hrr ⟨OpsAre.snoc2 (hO.sub fun p hp => .tail _ hp) (.head _), fun p hp => .tail _ hp, fun p hp => ?jn, by simp⟩
               (case jn =>
                 rcases List.mem_cons.mp hp with rfl | hp
                 · exact ⟨Nat.ne_of_gt l9.2.2.1, Nat.ne_of_gt l9.2.1⟩
                 · exact ⟨hne2 p hp, hneI p (by simp [hp])⟩)))
          (case hmm => k_mem)
          (case jm => intro z hz; (try dsimp only); (repeat (with_reducible refine if_no hz ?_)); (repeat (with_reducible refine jm_ite hz ?_)); (try exact rfl))
          (case hff => (refine sub_cons (by k_mem) (sub_cons (by k_mem) sub_nil)))
          (case hrr =>
            intro p hp
            first
              | (refine (List.mem_cons.mp hp).elim (fun e => e ▸ .head _) (fun hp => ?_); (repeat (first | exact hp | refine List.Mem.tail _ ?_)); done)
              | ((repeat (first | exact hp | refine List.Mem.tail _ ?_)); done)))
      case jsecond =>
        clear FJ F6 N6
        intro hJ tkJ vs3 n3 rest3 uJ FJ NJ ⟨hO3, hsub3, hne3, hl3⟩
        (try simp only [List.cons_append, List.nil_append] at NJ)
        have hne3a : ∀ p ∈ rest3, p.1 ≠ al0 := fun p hp => (hne3 p hp).1
        have hne3i : ∀ p ∈ rest3, p.1 ≠ I := fun p hp => (hne3 p hp).2
        have hIa2 := hIa.symm
        k_extra "k25"
        all_goals (
          (rename News _ _ _ _ => nE)
          (try simp only [List.push_toArray] at nE)
          refine' goc_end (by assumption) nE (by k_mem) (by k_mem) (by k_mem) hIa hrI ?hi ?hj ?ha ?hr hst'.symm ?hO hsub2 ?hrest ?hl
          (case hi => with_unfolding_all exact rfl)
          (case hj => with_unfolding_all exact rfl)
          (case ha => with_unfolding_all exact rfl)
          (case hr => ksw_same)
          (case hrest => exact fun p hp => ⟨by (repeat (first | exact hsub3 p hp | refine List.Mem.tail _ ?_)), hne2 p hp, hneI p (by simp [hp])⟩)
          (case hl => ((try simp only [List.length_append, List.length_cons, List.length_nil]); omega))
          (case hO =>
            show OpsAre _ _ (ops ++ gapP i ai j bj ++ eqP ai bj size)
            (first
              | (rw [eq_0 (size := size) (by assumption), List.append_nil]; exact hO3.sub fun p hp => but_mem (but_mem (by (repeat (first | exact hp | refine List.Mem.tail _ ?_))) (hne3 p hp).1) (hne3 p hp).2)
              | (rw [eq_1 (size := size) (by assumption)]; exact OpsAre.snoc2 (hO3.sub fun p hp => but_mem (but_mem (by (repeat (first | exact hp | refine List.Mem.tail _ ?_))) (hne3 p hp).1) (hne3 p hp).2) (but_mem (but_mem (by k_mem) (neN (by omega))) (neN (by omega)))))))
    case done =>
      rintro ⟨i, j, ti, tj2, vs2, n2, ops, rest⟩ u h tk ⟨hst, hO, hsub2, hne2, hlen⟩ F5 N5
      (try dsimp only [kstB] at F5 N5 hst hO hsub2 hne2 hlen)
      (try dsimp only)
      k_sweep
      k_extra "k4"
      (try dsimp only)
      (try k_unfold)
      refine leaveK_ (by assumption) (by assumption) fun kF kN => ?_
      (try dsimp only)
      refine hQ al0 h tk _ vs2 n2 kF kN ?_ hla (by k_mem) ?_
      · intro p hp hpd
        refine .tail _ (.tail _ (hsub2 _ (but_mem (hs3 p hp hpd) (hla p hp hpd))))
      · have e9 : ((gmbP ms ns).take vs.toArray.size) = gmbP ms ns := List.take_of_length_le (by simp [hB.1])
        rw [e9] at hst
        rw [← hst]
        exact hO.sub fun p hp => .tail _ (.tail _ hp)
end
section --B3
theorem turn3 {w : World} {loose : List Str} {mean : ExcName → Option Value} {mg mb : Str → Option Value} :
  ∀ (gd : Option (List Code)) (a : Addr) (outer : List Env) (A₀ : Around) (base h₀ : Heap) (L ck cr cm : Addr) (m : Str → Option Value) (news : List (Addr × Obj)) (s : Shared)
    (Q : Flow → Shared → Prop) (e0 e1 e2 : Addr) (x y z : List Value) (nx ny nz : Nat) (ms ns ps : List Int),
    Below A₀ base outer h₀ → Fr h₀ L s.heap (fun y => if y = Str.ofString "last" then some (.ref e2) else if y = Str.ofString "other" then some (.ref e1) else if y = Str.ofString "one" then some (.ref e0) else m y) → (Mine.hd0.heap_1 w.params).In h₀ → Boot w h₀ → News h₀ L s.heap (news) → Top topProg loose mean mg mb h₀ →
    (e0, PySem.W.listOf x.toArray nx) ∈ news → (e1, PySem.W.listOf y.toArray ny) ∈ news → (e2, PySem.W.listOf z.toArray nz) ∈ news → IntsAre x ms → IntsAre y ns → IntsAre z ps → ms.length ≤ 4 → ns.length ≤ 4 → ps.length ≤ 4 → PySem.Challenge.rw_mr0378_01 = PySem.Challenge.rw_mr0378_01 →
    (∀ (h' : Heap) (tk : Nat) (S w1 w2 : Addr) (z1 z2 : List Value) (nS n1 n2 : Nat), Fr h₀ L h' (fun y => if y = Str.ofString "steps" then some (.ref S) else (fun y => if y = Str.ofString "last" then some (.ref e2) else if y = Str.ofString "other" then some (.ref e1) else if y = Str.ofString "one" then some (.ref e0) else m y) y) → News h₀ L h' ((S, PySem.W.listOf #[.ref e0, .ref w1, .ref w2] nS) :: (w1, PySem.W.listOf z1.toArray n1) :: (w2, PySem.W.listOf z2.toArray n2) :: news) → IntsAre z1 (withinP ms ns) → IntsAre z2 (withinP (withinP ms ns) ps) → Q .next { s with heap := h', toks := tk }) →
    wpAny (model PySem.Challenge.rw_mr0378_01.row.prog w) (ktrTop 302 20 gd (Str.ofString "law") lawScope L a (.ref 285) [(Str.ofString "mult", cm), (Str.ofString "row", cr), (Str.ofString "key", ck)] outer) (exec (lawTurn 2) (envX (Str.ofString "law") lawScope L a (.ref 285) [(Str.ofString "mult", cm), (Str.ofString "row", cr), (Str.ofString "key", ck)])) Q (fun _ _ => False) s := by
  w_top off
  k_fill
  revert w loose mean mg mb
  (with_reducible refine @wi5_ap _ _ _ _ _ ?ne9 _ ?_); (case ne9 => walk_at "NE0"); refine (?m9 : Al5 _) _ _ _ _ _; intros w loose mean mg mb; refine ap5 ?_
  rintro gd a outer A₀ base h₀ L ck cr cm m news s Q e0 e1 e2 x y z nx ny nz ms ns ps B F X BO N T h0 h1 h2 i0 i1 i2 l0 l1 l2 _ hQ
  conv in (lawTurn _) => whnf
  conv in (occs := *) lawScope => (all_goals whnf)
  have N0 := N
  replace N := news_front (news_front (news_front N h2) (.tail _ h1)) (.tail _ (.tail _ h0))
  k_extra "k2"
  refine wpAny_up (wn _ _ _ _ _ _ _ A₀ base h₀ L _ _ _ _ _ e0 e1 x y nx ny ms ns B (by assumption) X BO N T rfl (by k_mem) (by k_mem) i0 i1 (by omega) (by omega) rfl ?ret) (Nat.le_of_ble_eq_true rfl) (Nat.le_of_ble_eq_true rfl)
  case ret =>
    intro w1 h3 tk3 z1 n1 F3 N3 q3 j1 jl1
    have hl1 : (withinP ms ns).length ≤ 4 := by have a := j1.length; have b := i0.length; omega
    clear F N N0
    k_extra "k2"
    refine wpAny_up (wn _ _ _ _ _ _ _ A₀ base h₀ L _ _ _ _ _ e0 e1 x y nx ny ms ns B (by assumption) X BO N3 T rfl (by k_mem) (by k_mem) i0 i1 (by omega) (by omega) rfl ?ret2) (Nat.le_of_ble_eq_true rfl) (Nat.le_of_ble_eq_true rfl)
    case ret2 =>
      intro w3 h4 tk4 z3 n3 F4 N4 q4 j3 jl3
      clear F3 N3
      k_extra "k2"
      refine wpAny_up (wn _ _ _ _ _ _ _ A₀ base h₀ L _ _ _ _ _ w3 e2 z3 z n3 nz (withinP ms ns) ps B (by assumption) X BO N4 T rfl (by k_mem) (by k_mem) j3 i2 (by omega) (by omega) rfl ?ret3) (Nat.le_of_ble_eq_true rfl) (Nat.le_of_ble_eq_true rfl)
      case ret3 =>
        intro w2 h5 tk5 z2 n2 F5 N5 q5 j2 jl2
        clear F4 N4
        k_extra "k2"
        (rename Fr _ _ _ _ => F9)
        (rename News _ _ _ _ => N9)
        exact hQ _ _ _ w1 w2 z1 z2 0 n1 n2 F9 (news_sub N9 (fun p hp => by simp only [List.mem_cons] at hp ⊢; grind)) j1 j2
end
section --Rd
noncomputable def RedB (Inv : Nat → Value → List (Addr × Obj) → Prop) : Prop := ∀ (k : Nat) (v : Value) (n : List (Addr × Obj)) (h₀ h : Heap) (L I : Addr) (o : Obj), News h₀ L h n → (I, o) ∈ n → o.cls = .type "list_iterator" → Inv k v n → Inv k v (but I n)
structure RS where
  v : Value
  rest : List (Addr × Obj)
theorem RS.all9 {P : RS → Prop} (h : ∀ x0 x1, P ⟨x0, x1⟩) : ∀ c, P c := fun ⟨x0, x1⟩ => h x0 x1
theorem neRS : Nonempty RS := ⟨by constructor <;> exact Classical.choice inferInstance⟩
noncomputable def RedF (w : World) (f : Addr) (items : List Value) (Inv : Nat → Value → List (Addr × Obj) → Prop) : Prop :=
  ∀ (gd : Option (List Code)) (cn : Str) (cs : Scope) (a : Addr) (ccd : Value) (cl : List (Str × Addr)) (outer : List Env) (A₀ : Around) (base h₀ : Heap) (L : Addr) (m : Str → Option Value) (news : List (Addr × Obj)) (s : Shared)
    (loose : List Str) (mean : ExcName → Option Value) (mg mb : Str → Option Value) (Q E : Value → Shared → Prop) (k : Nat) (v item : Value),
    Below A₀ base outer h₀ → Fr h₀ L s.heap m → (Mine.hd0.heap_1 w.params).In h₀ → Boot w h₀ → News h₀ L s.heap news → Top topProg loose mean mg mb h₀ → cs.kind = .function →
    items[k]? = some item → Inv k v news →
    (∀ (v' : Value) (h' : Heap) (tk : Nat) (news' : List (Addr × Obj)), Fr h₀ L h' m → News h₀ L h' news' → (∀ p ∈ news, p ∈ news') → Inv (k + 1) v' news' → Q v' { s with heap := h', toks := tk }) →
    wpAny (model PySem.Challenge.rw_mr0378_01.row.prog w) (ktrTop 345 120 gd cn cs L a ccd cl outer) (call (.ref f) [v, item]) Q E s
theorem rd {w : World} {loose : List Str} {mean : ExcName → Option Value} {mg mb : Str → Option Value} :
  ∀ (gd : Option (List Code)) (cn : Str) (cs : Scope) (a : Addr) (ccd : Value) (cl : List (Str × Addr)) (outer : List Env) (A₀ : Around) (base h₀ : Heap) (L : Addr) (m : Str → Option Value) (news : List (Addr × Obj)) (s : Shared)
    (Q E : Value → Shared → Prop) (l a0 : Addr) (items : List Value) (ea : Nat) (Inv : Nat → Value → List (Addr × Obj) → Prop),
    Below A₀ base outer h₀ → Fr h₀ L s.heap m → (Mine.hd0.heap_1 w.params).In h₀ → Boot w h₀ → News h₀ L s.heap (news) → Top topProg loose mean mg mb h₀ → cs.kind = .function →
    (l, PySem.W.listOf (.ref a0 :: items).toArray ea) ∈ news → items.length ≤ 50 → Inv 0 (.ref a0) news → (∀ k v n1 n2, Inv k v n1 → (∀ p ∈ n1, p ∈ n2) → Inv k v n2) → RedB Inv → RedF w 276 items Inv → PySem.Challenge.rw_mr0378_01 = PySem.Challenge.rw_mr0378_01 →
    (∀ (v : Value) (h' : Heap) (tk : Nat) (news' : List (Addr × Obj)), Fr h₀ L h' m → News h₀ L h' news' → (∀ p ∈ news, p ∈ news') → Inv items.length v news' → Q v { s with heap := h', toks := tk }) →
    wpAny (model PySem.Challenge.rw_mr0378_01.row.prog w) (ktrTop 340 100 gd cn cs L a ccd cl outer) (call (.ref 262) [.ref 276, .ref l]) Q E s := by
  w_top off
  k_fill
  revert w loose mean mg mb
  (with_reducible refine @wi5_ap _ _ _ _ _ ?ne9 _ ?_); (case ne9 => walk_at "NE0"); refine (?m9 : Al5 _) _ _ _ _ _; intros w loose mean mg mb; refine ap5 ?_
  rintro gd cn cs a ccd cl outer A₀ base h₀ L m news s Q E l a0 items ea Inv B F X BO N T hk hl h50 hI0 hmono hbut hF _ hQ
  replace N := news_front N hl
  refine wpAny_call ?_
  k_dflt (refine' code_def ?k1 ?k2 ?k3 ?k4 ?k5 ?kA ?kF ?kK ?k6 ?k7 ?k8 ?k9 ?kB ?_ ?c2 ?c3 ?c4 ?c5; (case kA => exact rfl); (case kF => exact rfl); (case kK => assumption); (case k1 => k_asm); (case k2 => k_asm); (case k3 => k_asm); (case k4 => k_asm); (case k5 => k_asm); (case k6 => k_is); (case k7 => k_is); (case k8 => ktr_room); (case k9 => first | exact BindsTo.of_eq rfl | exact binds_K (by k_in) rfl (by k_is) rfl rfl rfl); (case c5 => decide); (case kB => exact locs rfl); (case c2 => exact rfl); (case c3 => exact rfl); (case c4 => exact rfl); k_whole; intro g L1 h1 FG F1 N1 B1 X1 T1; (try dsimp only); (try k_fold))
  have BO1 : Boot w g := boot_keeps BO FG.keep
  iterate 60 (all_goals try ((k_extra "g0"); (k_extra "g1"); (k_extra "g4"); first | (k_unfold; (try dsimp only)) | (k_end; wrow_close) | walk1 | (dsimp only; walk1) | (leave1; try dsimp only) | fail "no step"))
  refine n_iter (by assumption) (by assumption) (by k_mem) ?_
  intro I h3 F3 N3 l3
  have hIn : ∀ p ∈ (l, PySem.W.listOf (.ref a0 :: items).toArray ea) :: news, p.1 ≠ I := fun p hp => Nat.ne_of_lt (l3 p hp)
  k_sweep
  iterate 40 (all_goals try ((k_extra "g0"); (k_extra "g1"); (k_extra "g4"); first | (k_unfold; (try dsimp only)) | (k_end; wrow_close) | walk1 | (dsimp only; walk1) | (leave1; try dsimp only) | fail "no step"))
  (rename News _ _ _ _ => N4)
  refine n_next (v := .ref a0) (by assumption) N4 hIn (.head _) (by rfl) ?_
  intro h5 F5 N5
  k_sweep
  k_extra "k26"
  (rename Fr _ _ _ _ => lF9); (with_unfolding_all refine' For_invVF lF9 ?k1 ?k2 ?_; (case k1 => exact rfl); (case k2 => exact rfl); k_whole)
  k_extra "k27"
  (rename News _ _ _ _ => N6)
  refine li_loop (σ := RS) (l := l) (items := (.ref a0 :: items).toArray) (nn := ea) (k0 := 0 + 1) (fun c => (l, PySem.W.listOf (.ref a0 :: items).toArray ea) :: c.rest)
    (fun c => [(Str.ofString "value", c.v), (Str.ofString "function", .ref 276)]) []
    (fun idx c => ∃ j, idx = j + 1 ∧ Inv j c.v c.rest ∧ (∀ p ∈ news, p ∈ c.rest)) ⟨.ref a0, news⟩ rfl (fun _ => .head _) (by simp) lF9 ?hN hIn ?hk ⟨0, rfl, hI0, fun _ h => h⟩ ?turn ?done
  case hN => (dsimp only; refine news_sub N6 ?_; exact sub_cons (.head _) (sub_cons (.tail _ (.head _)) fun p hp => .tail _ (.tail _ hp)))
  case hk => (k_extra "PS9")
  case turn =>
    rintro ⟨v, rest⟩ idx item u h7 tk7 oi hit ⟨j, rfl, hIv, hsub⟩ hne hoc F7 N7
    (try dsimp only [kstB] at F7 N7 hIv hsub)
    (try dsimp only)
    have hit' : items[j]? = some item := by simpa using hit
    k_sweep
    k_extra "k15"
    refine wpAny_up (hF _ _ _ _ _ _ _ _ _ g L1 _ _ _ _ _ _ _ _ _ j v item B1 (by assumption) X1 BO1 N7 T1 rfl hit' (hmono _ _ _ _ hIv fun p hp => .tail _ (.tail _ hp)) ?ret) (Nat.le_of_ble_eq_true rfl) (Nat.le_of_ble_eq_true rfl)
    case ret =>
      intro v' h8 tk8 news8 F8 N8 hs8 hI8
      have hI9 := hbut _ _ _ _ _ _ I oi N8 (hs8 _ (.head _)) hoc hI8
      k_sweep
      k_extra "k15"
      (rename News _ _ _ _ => N9)
      refine turn_end (σ := RS) ⟨v', but I news8⟩ (by assumption) N9 ?hs ?hne2 ?hk2 ?hr2 ⟨j + 1, rfl, hI9, fun p hp => but_mem (hs8 p (.tail _ (.tail _ (hsub p hp)))) (hne p (.tail _ (hsub p hp)))⟩
      case hs => exact sub_cons (hs8 _ (.head _)) (sub_cons (hs8 _ (.tail _ (.head _))) but_sub)
      case hne2 => exact ne_cons (hne _ (.head _)) but_ne
      case hk2 => (k_extra "PS9")
      case hr2 => first | ksw_same | k_extra "hr2" | (intro z h1 h2 h3; first | rfl | (simp only [List.forall_mem_cons, List.not_mem_nil, false_implies, implies_true, and_true, ne_eq] at h2; simp [h1, h2]))
  case done =>
    rintro ⟨v, rest⟩ u h7 tk7 ⟨j, hj, hIv, hsub⟩ F7 N7
    (try dsimp only [kstB] at F7 N7 hIv hsub)
    (try dsimp only)
    have hj' : j = items.length := by simp at hj; omega
    subst hj'
    k_sweep
    k_extra "k28"
    (try dsimp only)
    (try k_unfold)
    refine leaveK_ (by assumption) (by assumption) fun kF kN => ?_
    (try dsimp only)
    exact hQ v _ _ _ kF kN (fun p hp => .tail _ (hsub p hp)) (hmono _ _ _ _ hIv fun p hp => .tail _ hp)
end
section --Rd2
theorem n_isNe {M : Model} {A : Around} {E : Value → Shared → Prop} {s : Shared} {a b : Addr} {oa ob : Obj} {Q : Value → Shared → Prop} (hne : a ≠ b) (ha : s.heap.get? a = some oa) (hb : s.heap.get? b = some ob) (hnt : oa.cls ≠ .type "tuple") (h : Q (.bool false) s) : wpAny M A (compareOp .Is (.ref a) (.ref b)) Q E s := by
  show wpAny M A (isSame (.ref a) (.ref b) >>= fun r => pure (.bool r)) Q E s
  exact wpAny_bind (wpAny_isSame_ref_other hne ha hb hnt (wpAny_pure h))
theorem oldK {w : World} {g h : Heap} {L : Addr} {m : Str → Option Value} (X : (Mine.hd0.heap_1 w.params).In g) (F : Fr g L h m) : h.get? 254 = some (ob w.params 254) := F.keep _ _ (X 254 _ (by kernel_rfl))
noncomputable def RedB2 (news : List (Addr × Obj)) (Inv : Nat → Value → List (Addr × Obj) → Prop) : Prop := ∀ (k : Nat) (v : Value) (n : List (Addr × Obj)) (h₀ h : Heap) (L I : Addr) (o : Obj), News h₀ L h n → (I, o) ∈ n → o.cls = .type "list_iterator" → (∀ p ∈ news, p.1 ≠ I) → Inv k v n → Inv k v (but I n)
theorem rd2 {w : World} {loose : List Str} {mean : ExcName → Option Value} {mg mb : Str → Option Value} :
  ∀ (gd : Option (List Code)) (cn : Str) (cs : Scope) (a : Addr) (ccd : Value) (cl : List (Str × Addr)) (outer : List Env) (A₀ : Around) (base h₀ : Heap) (L : Addr) (m : Str → Option Value) (news : List (Addr × Obj)) (s : Shared)
    (Q E : Value → Shared → Prop) (f l i0 : Addr) (foc : Value) (fod : Option Addr) (ffd : FuncData) (fsl : Array (Option Value)) (ixs : Array Value) (ien : Nat) (items : List Value) (ea : Nat) (Inv : Nat → Value → List (Addr × Obj) → Prop),
    Below A₀ base outer h₀ → Fr h₀ L s.heap m → (Mine.hd0.heap_1 w.params).In h₀ → Boot w h₀ → News h₀ L s.heap (news) → Top topProg loose mean mg mb h₀ → cs.kind = .function →
    (l, PySem.W.listOf items.toArray ea) ∈ news → (f, (⟨foc, fod, .func ffd, fsl⟩ : Obj)) ∈ news → (i0, PySem.W.listOf ixs ien) ∈ news → items.length ≤ 50 → Inv 0 (.ref i0) news → (∀ k v n1 n2, Inv k v n1 → (∀ p ∈ n1, p ∈ n2) → Inv k v n2) → RedB2 news Inv → RedF w f items Inv → PySem.Challenge.rw_mr0378_01 = PySem.Challenge.rw_mr0378_01 →
    (∀ (v : Value) (h' : Heap) (tk : Nat) (news' : List (Addr × Obj)), Fr h₀ L h' m → News h₀ L h' news' → (∀ p ∈ news, p ∈ news') → Inv items.length v news' → Q v { s with heap := h', toks := tk }) →
    wpAny (model PySem.Challenge.rw_mr0378_01.row.prog w) (ktrTop 340 100 gd cn cs L a ccd cl outer) (call (.ref 262) [.ref f, .ref l, .ref i0]) Q E s := by
  w_top off
  k_fill
  revert w loose mean mg mb
  (with_reducible refine @wi5_ap _ _ _ _ _ ?ne9 _ ?_); (case ne9 => walk_at "NE0"); refine (?m9 : Al5 _) _ _ _ _ _; intros w loose mean mg mb; refine ap5 ?_
  rintro gd cn cs a ccd cl outer A₀ base h₀ L m news s Q E f l i0 foc fod ffd fsl ixs ien items ea Inv B F X BO N T hk hl hfm hi0m h50 hI0 hmono hbut hF _ hQ
  replace N := news_front (news_front (news_front N hi0m) (.tail _ hfm)) (.tail _ (.tail _ hl))
  refine wpAny_call ?_
  k_dflt (refine' code_def ?k1 ?k2 ?k3 ?k4 ?k5 ?kA ?kF ?kK ?k6 ?k7 ?k8 ?k9 ?kB ?_ ?c2 ?c3 ?c4 ?c5; (case kA => exact rfl); (case kF => exact rfl); (case kK => assumption); (case k1 => k_asm); (case k2 => k_asm); (case k3 => k_asm); (case k4 => k_asm); (case k5 => k_asm); (case k6 => k_is); (case k7 => k_is); (case k8 => ktr_room); (case k9 => first | exact BindsTo.of_eq rfl | exact binds_K (by k_in) rfl (by k_is) rfl rfl rfl); (case c5 => decide); (case kB => exact locs rfl); (case c2 => exact rfl); (case c3 => exact rfl); (case c4 => exact rfl); k_whole; intro g L1 h1 FG F1 N1 B1 X1 T1; (try dsimp only); (try k_fold))
  have BO1 : Boot w g := boot_keeps BO FG.keep
  have hi254 : @Ne Nat i0 254 := fun e => by
    have k := (N _ (.tail _ (.tail _ (.head _)))).2.2
    rw [show i0 = 254 from e] at k
    have := X 254 _ (show (Mine.hd0.heap_1 w.params).lookup 254 = some (ob w.params 254) by kernel_rfl)
    rw [this] at k; cases k
  iterate 60 (all_goals try ((k_extra "g0"); (k_extra "g1"); (k_extra "g4"); first | (k_unfold; (try dsimp only)) | (k_end; wrow_close) | walk1 | (dsimp only; walk1) | (leave1; try dsimp only) | fail "no step"))
  refine n_iter (by assumption) (by assumption) (by k_mem) ?_
  intro I h3 F3 N3 l3
  have hIn : ∀ p ∈ (l, PySem.W.listOf items.toArray ea) :: (f, (⟨foc, fod, .func ffd, fsl⟩ : Obj)) :: news, p.1 ≠ I := fun p hp => Nat.ne_of_lt (l3 p (sub_cons (.head _) (sub_cons (.tail _ (.head _)) fun p hp => .tail _ (.tail _ (.tail _ hp))) p hp))
  k_sweep
  iterate 40 (all_goals try ((k_extra "g0"); (k_extra "g1"); (k_extra "g4"); first | (k_unfold; (try dsimp only)) | (k_end; wrow_close) | walk1 | (dsimp only; walk1) | (leave1; try dsimp only) | fail "no step"))
  k_extra "k26"
  (rename Fr _ _ _ _ => lF9); (with_unfolding_all refine' For_invVF lF9 ?k1 ?k2 ?_; (case k1 => exact rfl); (case k2 => exact rfl); k_whole)
  k_extra "k27"
  (rename News _ _ _ _ => N6)
  refine li_loop (σ := RS) (l := l) (items := items.toArray) (nn := ea) (k0 := 0) (fun c => (l, PySem.W.listOf items.toArray ea) :: (f, ⟨foc, fod, .func ffd, fsl⟩) :: c.rest)
    (fun c => [(Str.ofString "value", c.v), (Str.ofString "function", .ref f)]) []
    (fun idx c => Inv idx c.v c.rest ∧ (∀ p ∈ news, p ∈ c.rest)) ⟨.ref i0, news⟩ rfl (fun _ => .head _) (by simp) lF9 ?hN hIn ?hk ⟨hI0, fun _ h => h⟩ ?turn ?done
  case hN => (dsimp only; refine news_sub N6 ?_; exact sub_cons (.head _) (sub_cons (.tail _ (.head _)) (sub_cons (.tail _ (.tail _ (.head _))) fun p hp => .tail _ (.tail _ (.tail _ (.tail _ hp))))))
  case hk => (k_extra "PS9")
  case turn =>
    rintro ⟨v, rest⟩ idx item u h7 tk7 oi hit ⟨hIv, hsub⟩ hne hoc F7 N7
    (try dsimp only [kstB] at F7 N7 hIv hsub)
    (try dsimp only)
    have hit' : items[idx]? = some item := by simpa using hit
    k_sweep
    repeat' ((k_extra "g0"); (k_extra "g1"); (k_extra "g5"); (k_extra "g12"); k_extra "t0")
    have hfn : FnAt f h7 := FnAt.of N7 (oc := foc) (od := fod) (fd := ffd) (sl := fsl) (.tail _ (.tail _ (.head _)))
    refine callWith_F hfn ?_
    repeat' ((k_extra "g0"); (k_extra "g1"); (fail_if_success (with_reducible show FnAt _ _ ∧ _)); (k_extra "g12"); k_extra "t0")
    refine ⟨hfn, ?_⟩
    refine wpAny_up (hF _ _ _ _ _ _ _ _ _ g L1 _ _ _ _ _ _ _ _ _ idx v item B1 (by assumption) X1 BO1 N7 T1 rfl hit' (hmono _ _ _ _ hIv fun p hp => .tail _ (.tail _ (.tail _ hp))) ?ret) (Nat.le_of_ble_eq_true rfl) (Nat.le_of_ble_eq_true rfl)
    case ret =>
      intro v' h8 tk8 news8 F8 N8 hs8 hI8
      have hI9 := hbut _ _ _ _ _ _ I oi N8 (hs8 _ (.head _)) hoc (fun p hp => hne _ (.tail _ (.tail _ (hsub p hp)))) hI8
      k_sweep
      k_extra "k15"
      (rename News _ _ _ _ => N9)
      refine turn_end (σ := RS) ⟨v', but I news8⟩ (by assumption) N9 ?hs ?hne2 ?hk2 ?hr2 ⟨hI9, fun p hp => but_mem (hs8 p (.tail _ (.tail _ (.tail _ (hsub p hp))))) (hne p (.tail _ (.tail _ (hsub p hp))))⟩
      case hs => exact sub_cons (hs8 _ (.head _)) (sub_cons (hs8 _ (.tail _ (.head _))) (sub_cons (hs8 _ (.tail _ (.tail _ (.head _)))) but_sub))
      case hne2 => exact ne_cons (hne _ (.head _)) (ne_cons (hne _ (.tail _ (.head _))) but_ne)
      case hk2 => (k_extra "PS9")
      case hr2 => first | ksw_same | k_extra "hr2" | (intro z h1 h2 h3; first | rfl | (simp only [List.forall_mem_cons, List.not_mem_nil, false_implies, implies_true, and_true, ne_eq] at h2; simp [h1, h2]))
  case done =>
    rintro ⟨v, rest⟩ u h7 tk7 ⟨hIv, hsub⟩ F7 N7
    (try dsimp only [kstB] at F7 N7 hIv hsub)
    (try dsimp only)
    simp only [List.size_toArray] at hIv
    k_sweep
    k_extra "k28"
    (try dsimp only)
    (try k_unfold)
    refine leaveK_ (by assumption) (by assumption) fun kF kN => ?_
    (try dsimp only)
    exact hQ v _ _ _ kF kN (fun p hp => .tail _ (.tail _ (hsub p hp))) (hmono _ _ _ _ hIv fun p hp => .tail _ (.tail _ hp))
end
section --L9
theorem law9 {w : World} {loose : List Str} {mean : ExcName → Option Value} {mg mb : Str → Option Value} :
  ∀ (gd : Option (List Code)) (a : Addr) (outer : List Env) (A₀ : Around) (base h₀ : Heap) (L ck cr cm : Addr) (m : Str → Option Value) (news : List (Addr × Obj)) (s : Shared)
    (Q : Flow → Shared → Prop) ,
    Below A₀ base outer h₀ → Fr h₀ L s.heap (m) → (Mine.hd0.heap_1 w.params).In h₀ → Boot w h₀ → News h₀ L s.heap (news) → Top topProg loose mean mg mb h₀ →
    PySem.Challenge.rw_mr0378_01 = PySem.Challenge.rw_mr0378_01 →
    Q (.ret (.bool true)) s →
    wpAny (model PySem.Challenge.rw_mr0378_01.row.prog w) (ktrTop 302 20 gd (Str.ofString "law") lawScope L a (.ref 285) [(Str.ofString "mult", cm), (Str.ofString "row", cr), (Str.ofString "key", ck)] outer) (exec (lawStmt 8) (envX (Str.ofString "law") lawScope L a (.ref 285) [(Str.ofString "mult", cm), (Str.ofString "row", cr), (Str.ofString "key", ck)])) Q (fun _ _ => False) s := by
  w_top off
  k_fill
  revert w loose mean mg mb
  (with_reducible refine @wi5_ap _ _ _ _ _ ?ne9 _ ?_); (case ne9 => walk_at "NE0"); refine (?m9 : Al5 _) _ _ _ _ _; intros w loose mean mg mb; refine ap5 ?_
  rintro gd a outer A₀ base h₀ L ck cr cm m news s Q B F X BO N T _ hQ
  conv in (lawStmt _) => whnf
  conv in (occs := *) lawScope => (all_goals whnf)
  repeat' (k_extra "t1")
  exact hQ
end
section --Gmb
local macro_rules | `(tactic| walk_at "call builtin:list.append") => `(tactic| (k_extra "w00d46"; intro h' F' N'; (try k_sweep)))
theorem gmb {w : World} {loose : List Str} {mean : ExcName → Option Value} {mg mb : Str → Option Value} :
  ∀ (gd : Option (List Code)) (cn : Str) (cs : Scope) (a : Addr) (ccd : Value) (cl : List (Str × Addr)) (outer : List Env) (A₀ : Around) (base h₀ : Heap) (L : Addr) (m : Str → Option Value) (news : List (Addr × Obj)) (s : Shared)
    (Q E : Value → Shared → Prop) (x : Addr) (D : SmD) (opv : Value) (ms ns : List Int),
    Below A₀ base outer h₀ → Fr h₀ L s.heap m → (Mine.hd0.heap_1 w.params).In h₀ → Boot w h₀ → News h₀ L s.heap (news) → Top topProg loose mean mg mb h₀ → cs.kind = .function →
    FlmC w → SmIn w news x D .none opv ms ns → PySem.Challenge.rw_mr0378_01 = PySem.Challenge.rw_mr0378_01 →
    (∀ (r : Addr) (h' : Heap) (tk : Nat) (news' : List (Addr × Obj)) (vs : List Value) (n : Nat), Fr h₀ L h' m → News h₀ L h' news' → (∀ p ∈ news, p.1 ≠ D.d → p ∈ news') → (∀ p ∈ news, p.1 ≠ r) → (r, PySem.W.listOf vs.toArray n) ∈ news' → Blocks news' vs (gmbF ms ns) → vs.length ≤ 100 → Q (.ref r) { s with heap := h', toks := tk }) →
    wpAny (model PySem.Challenge.rw_mr0378_01.row.prog w) (ktrTop 380 300 gd cn cs L a ccd cl outer) (call (.ref 203) [.ref x]) Q E s := by
  w_top off
  k_fill
  revert w loose mean mg mb
  (with_reducible refine @wi5_ap _ _ _ _ _ ?ne9 _ ?_); (case ne9 => walk_at "NE0"); refine (?m9 : Al5 _) _ _ _ _ _; intros w loose mean mg mb; refine ap5 ?_
  rintro gd cn cs a ccd cl outer A₀ base h₀ L m news s Q E x ⟨d, la, lb, bd, sj, sp, xs, ys, ea, eb, t, ob, kvs, al, tj, led⟩ opv ms ns B F X BO N T hk hF ⟨hmd, hR⟩ _ hQ
  (try dsimp only at hmd hQ)
  have hxd : x ≠ d := news_ne N hR.1 hmd (by intro e; cases e)
  have hxb := but_mem hR.1 hxd
  (try dsimp only at hxb)
  have hlab := but_mem hR.2.1 (news_ne N hR.2.1 hmd (fun e => absurd (Value.type.inj e) (by decide)))
  have hlbb := but_mem hR.2.2.1 (news_ne N hR.2.2.1 hmd (fun e => absurd (Value.type.inj e) (by decide)))
  (try dsimp only at hlab hlbb)
  have hi1 := hR.2.2.2.2.2.1
  have hi2 := hR.2.2.2.2.2.2.1
  have hm4 := hR.2.2.2.2.2.2.2.2.2.2.2.1
  have hn4 := hR.2.2.2.2.2.2.2.2.2.2.2.2.1
  (try dsimp only at hi1 hi2)
  have N0 := N
  replace N := news_front (news_front (news_front (news_but N hmd) (.tail _ hlbb)) (.tail _ (.tail _ hlab))) (.tail _ (.tail _ (.tail _ hxb)))
  have hTd : ∀ p ∈ but d news, p.1 ≠ d := but_ne
  have hxd' := neN hxd
  refine wpAny_call ?_
  k_dflt (refine' code_def ?k1 ?k2 ?k3 ?k4 ?k5 ?kA ?kF ?kK ?k6 ?k7 ?k8 ?k9 ?kB ?_ ?c2 ?c3 ?c4 ?c5; (case kA => exact rfl); (case kF => exact rfl); (case kK => assumption); (case k1 => k_asm); (case k2 => k_asm); (case k3 => k_asm); (case k4 => k_asm); (case k5 => k_asm); (case k6 => k_is); (case k7 => k_is); (case k8 => ktr_room); (case k9 => first | exact BindsTo.of_eq rfl | exact binds_K (by k_in) rfl (by k_is) rfl rfl rfl); (case c5 => decide); (case kB => exact locs rfl); (case c2 => exact rfl); (case c3 => exact rfl); (case c4 => exact rfl); k_whole; intro g L1 h1 FG F1 N1 B1 X1 T1; (try dsimp only); (try k_fold))
  have BO1 : Boot w g := boot_keeps BO FG.keep
  k_extra "k0"
  (rename Fr _ _ _ _ => F9)
  (rename News _ _ _ _ => N9)
  (obtain ⟨mbl, rfl⟩ := nm0 N9; obtain ⟨que, rfl⟩ := nm1 N9; obtain ⟨e0, rfl⟩ := nm2 N9; obtain ⟨e1, rfl⟩ := nm3 N9; obtain ⟨x, rfl⟩ := nm4 N9; obtain ⟨la, rfl⟩ := nm5 N9; obtain ⟨lb, rfl⟩ := nm6 N9)
  have l0 : que < mbl ∧ e0 < mbl ∧ e1 < mbl ∧ x < mbl ∧ la < mbl ∧ lb < mbl ∧ d < mbl ∧ AllLt mbl (but d news) := by assumption
  have l2 : e0 < que ∧ e1 < que ∧ x < que ∧ la < que ∧ lb < que ∧ d < que ∧ AllLt que (but d news) := by assumption
  have l3 : e1 < e0 ∧ x < e0 ∧ la < e0 ∧ lb < e0 ∧ d < e0 ∧ AllLt e0 (but d news) := by assumption
  have hb0 : ∀ p ∈ but d news, p.1 ≠ mbl := by k_all
  have hb1 : ∀ p ∈ but d news, p.1 ≠ que := by k_all
  (obtain ⟨o0, ho0, N9b⟩ := third N9; replace N9 := N9b; clear N9b)
  have hq0 : ∃ t, o0 = q4O (0, ms.length, 0, ns.length) t := by rw [← ho0, ← ints_len hi1, ← ints_len hi2]; exact ⟨(_, _, _, _), rfl⟩
  obtain ⟨t0, rfl⟩ := hq0
  clear ho0
  refine while_loop (σ := GS) (fun c => (mbl, PySem.W.listOf c.bs.toArray c.nb) :: (que, PySem.W.listOf c.vs.toArray c.nq) :: (x, instObj 242 d) :: (d, PySem.W.dictOf [⟨PyData.keyHash w.params (Str.ofString "isjunk"), .str (Str.ofString "isjunk") (t 0), .none⟩, ⟨PyData.keyHash w.params (Str.ofString "a"), .str (Str.ofString "a") (t 1), .ref la⟩, ⟨PyData.keyHash w.params (Str.ofString "b"), .str (Str.ofString "b") (t 2), .ref lb⟩, ⟨PyData.keyHash w.params (Str.ofString "autojunk"), .str (Str.ofString "autojunk") (t 3), .bool true⟩, ⟨PyData.keyHash w.params (Str.ofString "matching_blocks"), .str (Str.ofString "matching_blocks") (t 4), .none⟩, ⟨PyData.keyHash w.params (Str.ofString "opcodes"), .str (Str.ofString "opcodes") (t 5), opv⟩, ⟨PyData.keyHash w.params (Str.ofString "fullbcount"), .str (Str.ofString "fullbcount") (t 6), .none⟩, ⟨PyData.keyHash w.params (Str.ofString "b2j"), .str (Str.ofString "b2j") (t 7), .ref bd⟩, ⟨PyData.keyHash w.params (Str.ofString "bjunk"), .str (Str.ofString "bjunk") (t 8), .ref sj⟩, ⟨PyData.keyHash w.params (Str.ofString "bpopular"), .str (Str.ofString "bpopular") (t 9), .ref sp⟩] 10) :: (la, PySem.W.listOf xs.toArray ea) :: (lb, PySem.W.listOf ys.toArray eb) :: c.rest)
    (fun _ => [(Str.ofString "queue", .ref que), (Str.ofString "matching_blocks", .ref mbl)]) [Str.ofString "alo", Str.ofString "ahi", Str.ofString "blo", Str.ofString "bhi", Str.ofString "i", Str.ofString "j", Str.ofString "k", Str.ofString "x"]
    (GsI ms ns (but d news) mbl que d) (fun c => qMu c.st) (GsR ms ns (but d news) mbl que d) ⟨[(0, ms.length, 0, ns.length)], [.ref e0], 0, [], [], 0, (e0, q4O (0, ms.length, 0, ns.length) t0) :: but d news⟩ F9 ?N1 ?hk1 ?hP ?turn ?done
  case N1 => (try dsimp only); refine news_sub N9 ?_; ((repeat ((fail_if_success (k_extra "g2")); refine sub_cons (by k_mem) ?_)); first | exact sub_nil | (intro p9 hp9; (repeat (first | exact hp9 | refine List.Mem.tail _ ?_))))
  case hk1 => (k_extra "PS9")
  case hP =>
    refine ⟨⟨2 * ms.length + 1, ?_, rfl⟩, ?_, ⟨[], e0, t0, rfl, .head _, rfl⟩, ⟨rfl, fun i v h => by simp at h⟩, fun p hp => .tail _ hp, ?_, ?_⟩
    · simp only [qMu]; omega
    · intro p hp; cases List.mem_singleton.mp hp; exact ⟨Nat.zero_le _, Nat.le_refl _, Nat.zero_le _, Nat.le_refl _⟩
    · intro p hp
      rcases List.mem_cons.mp hp with rfl | hp
      · exact ⟨Nat.ne_of_lt l0.2.1, Nat.ne_of_lt l2.1, Nat.ne_of_gt l3.2.2.2.2.1⟩
      · exact ⟨hb0 p hp, hb1 p hp, hTd p hp⟩
    · simp only [qMu, List.length_nil]; omega
  case turn =>
    rintro ⟨st, vs, nq, acc, bs, nb, rest⟩ u h tk hI F5 N5
    (try dsimp only [kstB] at F5 N5)
    (try dsimp only)
    refine list_cases9 st ?nil9 ?cons9
    case nil9 =>
      intro e9
      subst e9
      have hR2 := hI.done rfl
      obtain rfl : vs = [] := hI.2.2.1
      k_sweep
      repeat' ((k_extra "g0"); (k_extra "g1"); (k_extra "g3"); (k_extra "g6"); (k_extra "g7"); k_extra "t0")
      refine w_exit ⟨[], [], nq, acc, bs, nb, rest⟩ (by assumption) (by assumption) ?hs ?hk ?hr hR2
      case hs => (try dsimp only); ((repeat ((fail_if_success (k_extra "g2")); refine sub_cons (by k_mem) ?_)); first | exact sub_nil | (intro p9 hp9; (repeat (first | exact hp9 | refine List.Mem.tail _ ?_))))
      case hk => (k_extra "PS9")
      case hr => first | ksw_same | k_extra "hr2"
    case cons9 =>
      intro p st e9
      obtain ⟨p1, p2, p3, p4, hq4⟩ : ∃ a b c d, p = (a, b, c, d) := ⟨_, _, _, _, rfl⟩
      subst hq4
      subst e9
      obtain ⟨⟨n, hn, hg⟩, hok, ⟨vs', T, tq, rfl, hT, hQA⟩, hC⟩ := hI
      (try dsimp only at hn)
      (try dsimp only at hg)
      (try dsimp only at hok)
      (try dsimp only at hT)
      (try dsimp only at hQA)
      (try dsimp only at hC)
      have hTn := hC.2.2.1 _ hT
      replace N5 := news_front N5 (.tail _ (.tail _ (.tail _ (.tail _ (.tail _ (.tail _ hT))))))
      (try dsimp only at N5 hTn)
      have hT1 := neN hTn.1
      have hT2 := neN hTn.2.1
      have hT3 := neN hTn.2.2
      have hvl : vs'.length ≤ 20 := by
        have e1 := hQA.len
        have e2 := qMu_len st
        have e3 := hC.2.2.2
        simp only [qMu] at e3
        omega
      k_sweep
      repeat' ((k_extra "g0"); (k_extra "g1"); (k_extra "g3"); (k_extra "g6"); (k_extra "g7"); (k_extra "g5"); (k_extra "g4"); (k_extra "g10"); (k_extra "g15"); k_extra "t0")
      refine n_truthy1 (by assumption) (by k_mem) (Nat.le_trans hvl (by decide)) ?_
      intro tk1
      repeat' ((k_extra "g0"); (k_extra "g1"); (k_extra "g3"); (k_extra "g6"); (k_extra "g7"); (k_extra "g5"); (k_extra "g4"); (k_extra "g10"); (k_extra "g15"); (k_extra "g14"); k_extra "t0")
      (try dsimp only)
      refine' kl_pop (its := (vs' ++ [Value.ref T]).toArray) (n := nq) (p := vs') (y := .ref T) ?F ?N ?e ?U ?z ?_
      case F => k_asm
      case N => k_asm
      case U =>
        refine .tail hTn.2.1 (.tail (Nat.ne_of_gt l0.1) (.head ?_))
        intro p hp
        rcases List.mem_cons.mp hp with rfl | hp
        · exact Nat.ne_of_lt l2.2.2.1
        rcases List.mem_cons.mp hp with rfl | hp
        · exact Nat.ne_of_lt l2.2.2.2.2.2.1
        rcases List.mem_cons.mp hp with rfl | hp
        · exact Nat.ne_of_lt l2.2.2.2.1
        rcases List.mem_cons.mp hp with rfl | hp
        · exact Nat.ne_of_lt l2.2.2.2.2.1
        · exact (hC.2.2.1 p hp).2.1
      case e => simpa using kpa_last (.ref T) vs'
      case z => rw [sizeLine_eq]; simp; omega
      intro h7 F7 N7
      (try dsimp only [List.nil_append, List.cons_append] at N7)
      k_sweep
      k_extra "k16"
      have hp9 := hok _ (.head _)
      (try dsimp only at hp9)
      refine wpAny_up (hF _ _ _ _ _ _ _ _ _ g L1 _ _ _ _ _ _ _ _ _ x ⟨d, la, lb, bd, sj, sp, xs, ys, ea, eb, t, ob, kvs, al, tj, led⟩ _ _ ms ns p1 p2 p3 p4 _ _ _ _ B1 (by assumption) X1 BO1 (by assumption) T1 rfl ⟨by k_mem, ?hR1⟩ hp9.1 hp9.2.1 hp9.2.2.1 hp9.2.2.2 ?ret) (Nat.le_of_ble_eq_true rfl) (Nat.le_of_ble_eq_true rfl)
      case hR1 => exact smr_apart N0 hmd hR fun p hp h => by (repeat (first | exact hC.2.1 _ (but_mem hp h) | refine List.Mem.tail _ ?_))
      case ret =>
        intro q8 d8 h8 tk8 new8 t8 F8 N8 hq8
        have hbd := flm_bd (ms := ms) (ns := ns) (p := (p1, p2, p3, p4)) hp9.1 hp9.2.2.1
        (try dsimp only at hbd)
        obtain ⟨i, j, k, hr8⟩ : ∃ i j k, flmP ms ns p1 p2 p3 p4 = (i, j, k) := ⟨_, _, _, rfl⟩
        rw [hr8] at hq8 hbd
        (try dsimp only at hq8 hbd)
        have hqm : q8 ≠ mbl := news_ne N8 (List.mem_append_left _ hq8) (List.mem_append_right _ (.tail _ (.head _))) (fun e => by cases e)
        have hqq : q8 ≠ que := news_ne N8 (List.mem_append_left _ hq8) (List.mem_append_right _ (.tail _ (.tail _ (.head _)))) (fun e => by cases e)
        have hqd : q8 ≠ d := news_ne N8 (List.mem_append_left _ hq8) (List.mem_append_right _ (.tail _ (.tail _ (.tail _ (.tail _ (.head _)))))) (fun e => by cases e)
        replace N8 := news_sub N8 (sub_cons (List.mem_append_left _ hq8) fun p hp => List.mem_append_right _ hp)
        have hqm' := neN hqm
        have hqq' := neN hqq
        refine n_assignM (fun hq => wpAny_up hq (Nat.le_of_ble_eq_true rfl) (Nat.le_of_ble_eq_true rfl)) (by assumption) (by assumption) X1 BO1 (by k_mem) ?_
        intro h10 tk10 F10 N10
        k_sweep
        have hnb : bs.length ≤ 20 := by
          have e1 : bs.length = acc.length := hC.1.1
          have e2 : acc.length + qMu ((p1, p2, p3, p4) :: st) ≤ 20 := hC.2.2.2
          omega
        (try dsimp only at hbd)
        have hrm : ∀ p ∈ rest, p.1 ≠ mbl := fun p hp => (hC.2.2.1 p hp).1
        have hrq : ∀ p ∈ rest, p.1 ≠ que := fun p hp => (hC.2.2.1 p hp).2.1
        have hrd : ∀ p ∈ rest, p.1 ≠ d := fun p hp => (hC.2.2.1 p hp).2.2
        repeat' ((k_extra "g0"); (k_extra "g1"); (k_extra "g3"); (k_extra "g6"); (k_extra "g7"); (k_extra "g4"); (k_extra "g10"); k_extra "t0")
        all_goals (
          (rename Fr _ _ _ _ => F11)
          (rename News _ _ _ _ => N11)
          (try simp only [List.push_toArray] at N11))
        iterate 9 (first
          | (refine' gmb_end (p := (p1, p2, p3, p4)) (r := (i, j, k)) F11 N11 (by k_mem) (by k_mem) (by k_mem) (by k_mem) (by k_mem) (by k_mem) (by k_mem) hqm hqq hqd ?hrest hn hg hok hC hr8 (by assumption) hbd ?hQ2 ?hk1 ?hk2 ?hr
             (case hrest => exact fun p hp => by (repeat (first | exact hp | refine List.Mem.tail _ ?_)))
             (case hk1 => with_unfolding_all exact rfl)
             (case hk2 => with_unfolding_all exact rfl)
             (case hr => first | ksw_same | k_extra "hr2")
             (case hQ2 =>
               obtain ⟨b1, b2, b3, b4, b5⟩ := hbd
               (try dsimp only at b1 b2 b3 b4 b5)
               (first
                 | (rw [qR_1 (p := (p1, p2, p3, p4)) (r := (i, j, k)) (by assumption) (by assumption)]; rw [qL_1 (p := (p1, p2, p3, p4)) (r := (i, j, k)) (by assumption) (by assumption)]; (simp only [List.nil_append, List.cons_append]); refine QAre.snoc' ?_ (by omega) (by omega) (but_mem (but_mem (but_mem (by k_mem) (neN (by omega))) (neN (by omega))) (neN (by omega))); refine QAre.snoc ?_ (by omega) (by omega) (but_mem (but_mem (but_mem (by k_mem) (neN (by omega))) (neN (by omega))) (neN (by omega))))
                 | (rw [qR_1 (p := (p1, p2, p3, p4)) (r := (i, j, k)) (by assumption) (by assumption)]; (first | rw [qL_b (p := (p1, p2, p3, p4)) (r := (i, j, k)) (by assumption)] | rw [qL_a (p := (p1, p2, p3, p4)) (r := (i, j, k)) (by assumption)]); (simp only [List.nil_append, List.cons_append]); refine QAre.snoc' ?_ (by omega) (by omega) (but_mem (but_mem (but_mem (by k_mem) (neN (by omega))) (neN (by omega))) (neN (by omega))))
                 | ((first | rw [qR_b (p := (p1, p2, p3, p4)) (r := (i, j, k)) (by assumption)] | rw [qR_a (p := (p1, p2, p3, p4)) (r := (i, j, k)) (by assumption)]); rw [qL_1 (p := (p1, p2, p3, p4)) (r := (i, j, k)) (by assumption) (by assumption)]; (simp only [List.nil_append, List.cons_append]); refine QAre.snoc ?_ (by omega) (by omega) (but_mem (but_mem (but_mem (by k_mem) (neN (by omega))) (neN (by omega))) (neN (by omega))))
                 | ((first | rw [qR_b (p := (p1, p2, p3, p4)) (r := (i, j, k)) (by assumption)] | rw [qR_a (p := (p1, p2, p3, p4)) (r := (i, j, k)) (by assumption)]); (first | rw [qL_b (p := (p1, p2, p3, p4)) (r := (i, j, k)) (by assumption)] | rw [qL_a (p := (p1, p2, p3, p4)) (r := (i, j, k)) (by assumption)]); (simp only [List.nil_append, List.cons_append])))
               exact hQA.sub fun p hp => but_mem (but_mem (but_mem (by (repeat (first | exact hp | refine List.Mem.tail _ ?_))) (hrm p hp)) (hrq p hp)) (hrd p hp))))
        refine' gmb_end0 (p := (p1, p2, p3, p4)) (r := (i, j, k)) F11 N11 (by k_mem) (by k_mem) (by k_mem) (by k_mem) (by k_mem) (by k_mem) ?hrest hn hg hok hC hr8 (by assumption) hQA ?hk1 ?hk2 ?hr
        case hrest => exact fun p hp => by (repeat (first | exact hp | refine List.Mem.tail _ ?_))
        case hk1 => with_unfolding_all exact rfl
        case hk2 => with_unfolding_all exact rfl
        case hr => first | ksw_same | k_extra "hr2"
  case done =>
    rintro ⟨st, vs, nq, acc, bs, nb, rest⟩ u h tk hGR F5 N5
    (try dsimp only [kstB] at F5 N5)
    (try dsimp only)
    obtain ⟨hacc, hB, hsub9, hne9, hlen9⟩ := hGR
    (try dsimp only at hacc hB hsub9 hne9 hlen9)
    k_sweep
    repeat' ((k_extra "g0"); (k_extra "g1"); (k_extra "g3"); (k_extra "g6"); (k_extra "g7"); (k_extra "g4"); (k_extra "g10"); (k_extra "g15"); (k_extra "g14"); (fail_if_success (with_reducible show wpAny _ _ (call (Value.builtin "list.sort") _ _) _ _ _)); (fail_if_success (with_reducible show wpAny _ _ (call (Value.builtin "list.sort") _) _ _ _)); k_extra "t0")
    (try dsimp only)
    have h4 : bs.length ≤ 4 := by rw [hB.1, hacc]; exact gq_len4 hm4
    have hrm : ∀ p ∈ rest, p.1 ≠ mbl := fun p hp => (hne9 p hp).1
    have hrd : ∀ p ∈ rest, p.1 ≠ d := fun p hp => (hne9 p hp).2.2
    refine n_sortM (n := nb) (vs := bs) (rs := acc) (rest := (que, PySem.W.listOf vs.toArray nq) :: (x, instObj 242 d) :: (d, PySem.W.dictOf [⟨PyData.keyHash w.params (Str.ofString "isjunk"), .str (Str.ofString "isjunk") (t 0), .none⟩, ⟨PyData.keyHash w.params (Str.ofString "a"), .str (Str.ofString "a") (t 1), .ref la⟩, ⟨PyData.keyHash w.params (Str.ofString "b"), .str (Str.ofString "b") (t 2), .ref lb⟩, ⟨PyData.keyHash w.params (Str.ofString "autojunk"), .str (Str.ofString "autojunk") (t 3), .bool true⟩, ⟨PyData.keyHash w.params (Str.ofString "matching_blocks"), .str (Str.ofString "matching_blocks") (t 4), .none⟩, ⟨PyData.keyHash w.params (Str.ofString "opcodes"), .str (Str.ofString "opcodes") (t 5), opv⟩, ⟨PyData.keyHash w.params (Str.ofString "fullbcount"), .str (Str.ofString "fullbcount") (t 6), .none⟩, ⟨PyData.keyHash w.params (Str.ofString "b2j"), .str (Str.ofString "b2j") (t 7), .ref bd⟩, ⟨PyData.keyHash w.params (Str.ofString "bjunk"), .str (Str.ofString "bjunk") (t 8), .ref sj⟩, ⟨PyData.keyHash w.params (Str.ofString "bpopular"), .str (Str.ofString "bpopular") (t 9), .ref sp⟩] 10) :: (la, PySem.W.listOf xs.toArray ea) :: (lb, PySem.W.listOf ys.toArray eb) :: rest) ?hu F5 X1 N5 ?hne ?hB h4 ?k
    case hu => exact Nat.le_of_ble_eq_true rfl
    case hne => k_all
    case hB => exact hB.sub fun p hp => by (repeat (first | exact hp | refine List.Mem.tail _ ?_))
    case k =>
      intro h6 n6 F6 N6
      (try dsimp only)
      have hBs := hB.sorted h4
      have hlenV : (sortV (0, 0, 0) ltM acc bs).length ≤ 4 := Nat.le_trans (Nat.le_of_eq (sortV_len hB.1 h4)) h4
      rw [hacc] at hBs hlenV N6
      clear hB hacc h4 hlen9
      obtain ⟨rs, hrs⟩ : ∃ r, sortP (0, 0, 0) ltM (gq ms ns (2 * ms.length + 1) [(0, ms.length, 0, ns.length)] []) = r := ⟨_, rfl⟩
      rw [hrs] at hBs
      obtain ⟨vm, hvm9⟩ : ∃ v, sortV (0, 0, 0) ltM (gq ms ns (2 * ms.length + 1) [(0, ms.length, 0, ns.length)] []) bs = v := ⟨_, rfl⟩
      rw [hvm9] at hBs hlenV N6
      k_extra "k16"
      refine wpAny_For ?_
      k_extra "k16"
      (rename Fr _ _ _ _ => F9)
      (rename News _ _ _ _ => N9)
      (obtain ⟨nal, rfl⟩ := nm0 N9)
      rename _ ∧ _ => l9
      have hmn := neN (Nat.ne_of_lt l9.1)
      have hrn : ∀ p ∈ rest, p.1 ≠ nal := by k_all
      refine tlist_loop (σ := MS) (l := mbl) (items := vm.toArray) (nn := n6) (fun c => (nal, PySem.W.listOf c.vs.toArray c.n) :: (mbl, PySem.W.listOf vm.toArray n6) :: (x, instObj 242 d) :: (d, PySem.W.dictOf [⟨PyData.keyHash w.params (Str.ofString "isjunk"), .str (Str.ofString "isjunk") (t 0), .none⟩, ⟨PyData.keyHash w.params (Str.ofString "a"), .str (Str.ofString "a") (t 1), .ref la⟩, ⟨PyData.keyHash w.params (Str.ofString "b"), .str (Str.ofString "b") (t 2), .ref lb⟩, ⟨PyData.keyHash w.params (Str.ofString "autojunk"), .str (Str.ofString "autojunk") (t 3), .bool true⟩, ⟨PyData.keyHash w.params (Str.ofString "matching_blocks"), .str (Str.ofString "matching_blocks") (t 4), .none⟩, ⟨PyData.keyHash w.params (Str.ofString "opcodes"), .str (Str.ofString "opcodes") (t 5), opv⟩, ⟨PyData.keyHash w.params (Str.ofString "fullbcount"), .str (Str.ofString "fullbcount") (t 6), .none⟩, ⟨PyData.keyHash w.params (Str.ofString "b2j"), .str (Str.ofString "b2j") (t 7), .ref bd⟩, ⟨PyData.keyHash w.params (Str.ofString "bjunk"), .str (Str.ofString "bjunk") (t 8), .ref sj⟩, ⟨PyData.keyHash w.params (Str.ofString "bpopular"), .str (Str.ofString "bpopular") (t 9), .ref sp⟩] 10) :: (la, PySem.W.listOf xs.toArray ea) :: (lb, PySem.W.listOf ys.toArray eb) :: c.rest)
        (fun c => [(Str.ofString "i1", .int c.i c.ti), (Str.ofString "j1", .int c.j c.tj), (Str.ofString "k1", .int c.k c.tk), (Str.ofString "non_adjacent", .ref nal)]) [Str.ofString "i2", Str.ofString "j2", Str.ofString "k2"]
        (MsI rest nal rs) ⟨0, 0, 0, ?t1, ?t2, ?t3, [], 0, [], rest⟩ rfl (fun _ => .tail _ (.head _)) ?hrf F9 ?hN ?hk ⟨rfl, TupsAre.nil, fun _ hp => hp, hrn, Nat.zero_le _⟩ ?turn2 ?done2
      case hN => dsimp only; refine news_sub N9 ?_; ((repeat ((fail_if_success (k_extra "g2")); refine sub_cons (by k_mem) ?_)); first | exact sub_nil | (intro p9 hp9; (repeat (first | exact hp9 | refine List.Mem.tail _ ?_))))
      case hk => (k_extra "PS9")
      case hrf =>
        intro i v e
        obtain ⟨q, _, _, _, rfl, _⟩ := hBs.2 i v (by simpa using e)
        exact ⟨q, rfl⟩
      case turn2 =>
        rintro ⟨i, j, k, ti, tj2, tk2, vs2, n2, rs2, rest2⟩ idx T u2 h2 tk3 I oi hT ⟨hst, hO, hsub2, hne2, hlen⟩ hneI F7 N7
        obtain ⟨q, dm, tm, ⟨ai, bj, size⟩, e1, e2, e3⟩ := hBs.2 idx _ (by simpa using hT)
        have e1' := PySem.Value.ref.inj e1
        subst e1'
        clear e1
        (try dsimp only [kstB] at F7 N7 hst hO hsub2 hne2 hlen e3)
        (try dsimp only)
        have hTm : (T, (⟨.ref 135, some dm, .seq #[.int ai tm.1, .int bj tm.2.1, .int size tm.2.2] 0, #[]⟩ : Obj)) ∈ rest2 := hsub2 _ e3
        replace N7 := news_front N7 (.tail _ (.tail _ (.tail _ (.tail _ (.tail _ (.tail _ (.tail _ hTm)))))))
        have hTn := neN (hne2 _ hTm)
        have hIn := neN (hneI (nal, PySem.W.listOf vs2.toArray n2) (by k_mem))
        have hk100 : idx < 100 := by
          have := (List.getElem?_eq_some_iff.mp (by simpa using hT : vm[idx]? = some (Value.ref T))).1
          omega
        k_sweep
        k_extra "k24"
        refine n_assignM (fun hq => wpAny_up hq (Nat.le_of_ble_eq_true rfl) (Nat.le_of_ble_eq_true rfl)) (by assumption) (by assumption) X1 BO1 (by k_mem) ?_
        intro h8 tk8 F8 N8
        k_sweep
        k_extra "k25"
        all_goals (
          (rename News _ _ _ _ => nE)
          (try simp only [List.push_toArray] at nE)
          refine' merge_end (by assumption) nE (by k_mem) (by k_mem) (by k_mem) (by k_mem) (by k_mem) (by k_mem) (by k_mem) hIn (hneI (_, PySem.W.listOf vm.toArray n6) (by k_mem)) (hneI (_, instObj 242 d) (by k_mem)) (hneI (d, _) (by k_mem)) (hneI (la, _) (by k_mem)) (hneI (lb, _) (by k_mem)) ?hi ?hj ?hk ?ha ?hr hst e2 ?hst1 ?hO hsub2 ?hrest ?hl
          (case hi => with_unfolding_all exact rfl)
          (case hj => with_unfolding_all exact rfl)
          (case hk => with_unfolding_all exact rfl)
          (case ha => with_unfolding_all exact rfl)
          (case hr => ksw_same)
          (case hst1 =>
            (first
              | exact (mergeT_1 (r := (ai, bj, size)) (by assumption) (by assumption)).symm
              | exact (mergeT_d (r := (ai, bj, size)) (by assumption) (by assumption)).symm
              | exact (mergeT_c (r := (ai, bj, size)) (by assumption) (by assumption)).symm
              | exact (mergeT_b (r := (ai, bj, size)) (by assumption) (by assumption)).symm
              | exact (mergeT_a (r := (ai, bj, size)) (by assumption) (by assumption)).symm))
          (case hO =>
            (first
              | exact hO.sub fun p hp => but_mem (but_mem (by (repeat (first | exact hp | refine List.Mem.tail _ ?_))) (hne2 p hp)) (hneI p (by simp [hp]))
              | exact TupsAre.snoc (r := (i, j, k)) (hO.sub fun p hp => but_mem (but_mem (by (repeat (first | exact hp | refine List.Mem.tail _ ?_))) (hne2 p hp)) (hneI p (by simp [hp]))) (but_mem (but_mem (by k_mem) (neN (by omega))) (neN (by omega)))))
          (case hrest => exact fun p hp => ⟨by (repeat (first | exact hp | refine List.Mem.tail _ ?_)), hne2 p hp, hneI p (by simp [hp])⟩)
          (case hl => ((try simp only [List.length_append, List.length_cons, List.length_nil]); omega)))
      case done2 =>
        rintro ⟨i, j, k, ti, tj2, tk2, vs2, n2, rs2, rest2⟩ u2 h2 tk3 ⟨hst, hO, hsub2, hne2, hlen⟩ F7 N7
        (try dsimp only [kstB] at F7 N7 hst hO hsub2 hne2 hlen)
        (try dsimp only)
        k_sweep
        have hk4 : vs2.length ≤ 4 := Nat.le_trans hlen (by simpa using hlenV)
        repeat' ((k_extra "g0"); (k_extra "g1"); (k_extra "g3"); (fail_if_success (with_reducible show wpAny _ _ (exec (Stmt.If _ _ _ _) _) _ _ _)); k_extra "t0")
        (rename Fr _ _ _ _ => FJ)
        (rename News _ _ _ _ => NJ)
        refine jl (l := nal) (Str.ofString "k1") (fx := (mbl, PySem.W.listOf vm.toArray n6) :: (x, instObj 242 d) :: (d, PySem.W.dictOf [⟨PyData.keyHash w.params (Str.ofString "isjunk"), .str (Str.ofString "isjunk") (t 0), .none⟩, ⟨PyData.keyHash w.params (Str.ofString "a"), .str (Str.ofString "a") (t 1), .ref la⟩, ⟨PyData.keyHash w.params (Str.ofString "b"), .str (Str.ofString "b") (t 2), .ref lb⟩, ⟨PyData.keyHash w.params (Str.ofString "autojunk"), .str (Str.ofString "autojunk") (t 3), .bool true⟩, ⟨PyData.keyHash w.params (Str.ofString "matching_blocks"), .str (Str.ofString "matching_blocks") (t 4), .none⟩, ⟨PyData.keyHash w.params (Str.ofString "opcodes"), .str (Str.ofString "opcodes") (t 5), opv⟩, ⟨PyData.keyHash w.params (Str.ofString "fullbcount"), .str (Str.ofString "fullbcount") (t 6), .none⟩, ⟨PyData.keyHash w.params (Str.ofString "b2j"), .str (Str.ofString "b2j") (t 7), .ref bd⟩, ⟨PyData.keyHash w.params (Str.ofString "bjunk"), .str (Str.ofString "bjunk") (t 8), .ref sj⟩, ⟨PyData.keyHash w.params (Str.ofString "bpopular"), .str (Str.ofString "bpopular") (t 9), .ref sp⟩] 10) :: (la, PySem.W.listOf xs.toArray ea) :: (lb, PySem.W.listOf ys.toArray eb) :: []) (P := fun vs3 rest3 => TupsAre rest3 vs3 (mergeE (rs2, (i, j, k))) ∧ (∀ p ∈ rest2, p ∈ rest3) ∧ (∀ p ∈ rest3, p.1 ≠ nal) ∧ vs3.length ≤ 5) FJ ?jfirst ?jsecond
        case jfirst =>
          repeat' ((k_extra "g0"); (k_extra "g1"); (k_extra "g3"); (fail_if_success (with_reducible show JL _ _ _ _ _ _ _ _ _ _)); k_extra "t0")
          all_goals (
            (rename News _ _ _ _ => nE)
            (try simp only [List.push_toArray] at nE)
            (rename Fr _ _ _ _ => fE)
            (first
              | (rw [mergeE_0 (by assumption)]
                 refine' jl_mem (rest := rest2) fE ?jm nE ?hmm ?hff ?hrr ⟨hO, fun p hp => hp, hne2, Nat.le_succ_of_le hk4⟩)
              | (rw [mergeE_1 (by assumption)]
                 (rename _ ∧ _ => l7)
                 refine' jl_mem (rest := (firstA nE, firstO nE) :: rest2) fE ?jm nE ?hmm ?hff ?hrr ⟨TupsAre.snoc (r := (i, j, k)) (hO.sub fun p hp => .tail _ hp) (.head _), fun p hp => .tail _ hp, fun p hp => ?jn, by simp; omega⟩
                 (case jn =>
                   rcases List.mem_cons.mp hp with rfl | hp
                   · exact Nat.ne_of_gt l7.1
                   · exact hne2 p hp)))
            (case hmm => k_mem)
            (case jm => exact fun z hz => rfl)
            (case hff => (refine sub_cons (by k_mem) (sub_cons (by k_mem) (sub_cons (by k_mem) (sub_cons (by k_mem) (sub_cons (by k_mem) sub_nil))))))
            (case hrr =>
              intro p hp
              first
                | (refine (List.mem_cons.mp hp).elim (fun e => e ▸ .head _) (fun hp => ?_); (repeat (first | exact hp | refine List.Mem.tail _ ?_)); done)
                | ((repeat (first | exact hp | refine List.Mem.tail _ ?_)); done)))
        case jsecond =>
          clear FJ NJ
          intro hJ tkJ vs3 n3 rest3 uJ FJ NJ ⟨hO3, hs3, hne3, hl3⟩
          (try simp only [List.cons_append, List.nil_append] at NJ)
          (try dsimp only)
          k_extra "k4"
          (rename News _ _ _ _ => N8)
          (try simp only [List.push_toArray] at N8)
          (obtain ⟨qm8, rfl⟩ := nm0 N8)
          refine wpAny_up (n_map (q := qm8) (nl := nal) (by assumption) N8 X1 BO1 (by k_mem) ?_) (Nat.le_of_ble_eq_true rfl) (Nat.le_of_ble_eq_true rfl)
          intro M8 T8 I8 h9 tk9 F9 N9' hne9
          k_sweep
          k_extra "k4"
          have hap9 := And.intro (news_ne N9' (.head _) (.tail _ (.tail _ (.head _))) (fun e => absurd (Value.type.inj e) (by decide))) (news_ne N9' (.tail _ (.head _)) (.tail _ (.tail _ (.head _))) (fun e => absurd (Value.type.inj e) (by decide)))
          refine wpAny_up (n_listmap (nl := nal) (rs := mergeE (rs2, (i, j, k)) ++ [((ms.length : Int), (ns.length : Int), 0)]) B1 X1 BO1 T1 rfl ?h50 (by assumption) (third_front N9') ?hap (.head _) (.tail _ (.head _)) (by k_mem) (by k_mem) ?hTs ?ret) (Nat.le_of_ble_eq_true rfl) (Nat.le_of_ble_eq_true rfl)
          (case h50 =>
            have e1 := mergeE_len (st := rs2) (i := i) (j := j) (k := k)
            have e2 := hO3.1
            rw [List.length_append, List.length_singleton]
            omega)
          (case hap => exact ne_cons hap9.1 (ne_cons hap9.2 fun p hp => (hne9 p hp).2.2))
          (case hTs =>
            (try simp only [List.push_toArray])
            refine TupsAre.snoc (r := ((ms.length : Int), (ns.length : Int), 0)) (hO3.sub fun p hp => by (repeat (first | exact hp | refine List.Mem.tail _ ?_))) (by k_mem))
          (case ret =>
            intro S h10 tk10 vsr c10 rest10 F10 N10 hs10 hn10 hB10
            have hx10 : (x, instObj 242 d) ∈ rest10 := hs10 _ (by k_mem)
            have hd10 : (d, PySem.W.dictOf [⟨PyData.keyHash w.params (Str.ofString "isjunk"), .str (Str.ofString "isjunk") (t 0), .none⟩, ⟨PyData.keyHash w.params (Str.ofString "a"), .str (Str.ofString "a") (t 1), .ref la⟩, ⟨PyData.keyHash w.params (Str.ofString "b"), .str (Str.ofString "b") (t 2), .ref lb⟩, ⟨PyData.keyHash w.params (Str.ofString "autojunk"), .str (Str.ofString "autojunk") (t 3), .bool true⟩, ⟨PyData.keyHash w.params (Str.ofString "matching_blocks"), .str (Str.ofString "matching_blocks") (t 4), .none⟩, ⟨PyData.keyHash w.params (Str.ofString "opcodes"), .str (Str.ofString "opcodes") (t 5), opv⟩, ⟨PyData.keyHash w.params (Str.ofString "fullbcount"), .str (Str.ofString "fullbcount") (t 6), .none⟩, ⟨PyData.keyHash w.params (Str.ofString "b2j"), .str (Str.ofString "b2j") (t 7), .ref bd⟩, ⟨PyData.keyHash w.params (Str.ofString "bjunk"), .str (Str.ofString "bjunk") (t 8), .ref sj⟩, ⟨PyData.keyHash w.params (Str.ofString "bpopular"), .str (Str.ofString "bpopular") (t 9), .ref sp⟩] 10) ∈ rest10 := hs10 _ (by k_mem)
            have hr10 : ∀ p ∈ rest2, p ∈ rest10 := fun p hp => hs10 p (by (have hp := hs3 p hp); (repeat (first | exact hp | refine List.Mem.tail _ ?_)))
            have hSd := neN (hn10 _ hd10)
            have hSx := neN (hn10 _ hx10)
            have hxd9 : x ≠ d := hxd
            have hbd10 : ∀ p ∈ but d rest10, p.1 ≠ d := but_ne
            have N11 : News _ _ _ ((x, instObj 242 d) :: (d, PySem.W.dictOf [⟨PyData.keyHash w.params (Str.ofString "isjunk"), .str (Str.ofString "isjunk") (t 0), .none⟩, ⟨PyData.keyHash w.params (Str.ofString "a"), .str (Str.ofString "a") (t 1), .ref la⟩, ⟨PyData.keyHash w.params (Str.ofString "b"), .str (Str.ofString "b") (t 2), .ref lb⟩, ⟨PyData.keyHash w.params (Str.ofString "autojunk"), .str (Str.ofString "autojunk") (t 3), .bool true⟩, ⟨PyData.keyHash w.params (Str.ofString "matching_blocks"), .str (Str.ofString "matching_blocks") (t 4), .none⟩, ⟨PyData.keyHash w.params (Str.ofString "opcodes"), .str (Str.ofString "opcodes") (t 5), opv⟩, ⟨PyData.keyHash w.params (Str.ofString "fullbcount"), .str (Str.ofString "fullbcount") (t 6), .none⟩, ⟨PyData.keyHash w.params (Str.ofString "b2j"), .str (Str.ofString "b2j") (t 7), .ref bd⟩, ⟨PyData.keyHash w.params (Str.ofString "bjunk"), .str (Str.ofString "bjunk") (t 8), .ref sj⟩, ⟨PyData.keyHash w.params (Str.ofString "bpopular"), .str (Str.ofString "bpopular") (t 9), .ref sp⟩] 10) :: (S, PySem.W.listOf vsr.toArray c10) :: but d rest10) := news_sub N10 (sub_cons (.tail _ hx10) (sub_cons (.tail _ hd10) (sub_cons (.head _) fun p hp => .tail _ (but_sub p hp))))
            have hB11 : Blocks (but d rest10) vsr (mergeE (rs2, (i, j, k)) ++ [((ms.length : Int), (ns.length : Int), 0)]) := hB10.apart fun q9 d9 r9 t9 hm => but_mem hm (news_ne N10 (.tail _ hm) (.tail _ hd10) (fun e => by cases e))
            clear N10
            k_sweep
            k_extra "k4"
            (try dsimp only)
            (try k_unfold)
            refine leaveK_ (by assumption) (by assumption) fun kF kN => ?_
            (try dsimp only)
            have hin : ∀ p ∈ news, p.1 ≠ d → p ∈ but d rest10 := fun p hp hpd => but_mem (hr10 p (hsub2 p (hsub9 p (but_mem hp hpd)))) hpd
            refine hQ S _ _ _ vsr c10 kF kN (fun p hp hpd => .tail _ (.tail _ (.tail _ (hin p hp hpd)))) (fun p hp => ?q1) (by k_mem) ?q2 ?q3
            (case q1 =>
              by_cases hpd : p.1 = d
              · rw [hpd]; exact hSd
              · exact hn10 p (but_sub p (hin p hp hpd)))
            (case q2 =>
              have e9 : gmbF ms ns = mergeE (rs2, (i, j, k)) ++ [((ms.length : Int), (ns.length : Int), 0)] := by
                unfold gmbF
                rw [hrs]
                have e8 : rs.take vm.toArray.size = rs := List.take_of_length_le (by simp [hBs.1])
                rw [e8] at hst
                rw [← hst]
              rw [e9]
              exact hB11.sub fun p hp => .tail _ (.tail _ (.tail _ hp)))
            (case q3 =>
              have f1 := hB11.1
              have f2 := mergeE_len (st := rs2) (i := i) (j := j) (k := k)
              have f3 := hO3.1
              rw [List.length_append, List.length_singleton] at f1
              omega))
end
section --Flm
structure FS where
  bi : Int
  bj : Int
  bs : Int
  ti : Tok
  tj : Tok
  ts : Tok
  pv : Option (Int × Int)
  tv : Tok
  dj : Addr
  oj : Obj
theorem FS.all9 {P : FS → Prop} (h : ∀ x0 x1 x2 x3 x4 x5 x6 x7 x8 x9, P ⟨x0, x1, x2, x3, x4, x5, x6, x7, x8, x9⟩) : ∀ c, P c := fun ⟨x0, x1, x2, x3, x4, x5, x6, x7, x8, x9⟩ => h x0 x1 x2 x3 x4 x5 x6 x7 x8 x9
theorem neFS : Nonempty FS := ⟨by constructor <;> exact Classical.choice inferInstance⟩
noncomputable def FS.kj (c : FS) : List (Int × Value) := match c.pv with
  | none => []
  | some (j, k) => [(j, .int k c.tv)]
theorem kj_get (c : FS) (v : Int) (t0 : Tok) : ∃ t, (valueAt c.kj v).getD (.int 0 t0) = .int (prevK c.pv v) t := by
  obtain ⟨_, _, _, _, _, _, pv, tv, _, _⟩ := c
  unfold FS.kj prevK valueAt
  (try dsimp only)
  cases pv with
  | none => exact ⟨t0, rfl⟩
  | some p =>
    obtain ⟨j', k'⟩ := p
    by_cases h : j' = v
    · exact ⟨tv, by simp [h]⟩
    · exact ⟨t0, by simp [h]⟩
theorem flm {w : World} {loose : List Str} {mean : ExcName → Option Value} {mg mb : Str → Option Value} :
  ∀ (gd : Option (List Code)) (cn : Str) (cs : Scope) (a : Addr) (ccd : Value) (cl : List (Str × Addr)) (outer : List Env) (A₀ : Around) (base h₀ : Heap) (L : Addr) (m : Str → Option Value) (news : List (Addr × Obj)) (s : Shared)
    (Q E : Value → Shared → Prop) (x : Addr) (D : SmD) (mbv opv : Value) (ms ns : List Int) (alo ahi blo bhi : Nat) (k1 k2 k3 k4 : Tok),
    Below A₀ base outer h₀ → Fr h₀ L s.heap m → (Mine.hd0.heap_1 w.params).In h₀ → Boot w h₀ → News h₀ L s.heap (news) → Top topProg loose mean mg mb h₀ → cs.kind = .function →
    SmIn w news x D mbv opv ms ns → alo ≤ ahi → ahi ≤ ms.length → blo ≤ bhi → bhi ≤ ns.length → PySem.Challenge.rw_mr0378_01 = PySem.Challenge.rw_mr0378_01 →
    (∀ (q d : Addr) (h' : Heap) (tk : Nat) (new : List (Addr × Obj)) (t : Tok × Tok × Tok), Fr h₀ L h' m → News h₀ L h' (new ++ news) → (q, matchO d (flmP ms ns alo ahi blo bhi) t) ∈ new → Q (.ref q) { s with heap := h', toks := tk }) →
    wpAny (model PySem.Challenge.rw_mr0378_01.row.prog w) (ktrTop 400 400 gd cn cs L a ccd cl outer) (call (.ref 196) [.ref x, .int (alo : Int) k1, .int (ahi : Int) k2, .int (blo : Int) k3, .int (bhi : Int) k4]) Q E s := by
  w_top off
  k_fill
  revert w loose mean mg mb
  (with_reducible refine @wi5_ap _ _ _ _ _ ?ne9 _ ?_); (case ne9 => walk_at "NE0"); refine (?m9 : Al5 _) _ _ _ _ _; intros w loose mean mg mb; refine ap5 ?_
  rintro gd cn cs a ccd cl outer A₀ base h₀ L m news s Q E x ⟨d, la, lb, bd, sj, sp, xs, ys, ea, eb, t, ob, kvs, al, tj, led⟩ mbv opv ms ns alo ahi blo bhi k1 k2 k3 k4 B F X BO N T hk ⟨hmd, hmx, hmla, hmlb, hmbd, hmsj, hi1, hi2, hD, lo, hV, hL, hm4, hn4, hbdd⟩ ha1 ha2 hb1 hb2 _ hQ
  (try dsimp only at hmx hmd hmla hmlb hmbd hmsj hi1 hi2 hD lo hV hL)
  replace N := news_front (news_front (news_front (news_front (news_front (news_front N hmsj) (.tail _ hmbd)) (.tail _ (.tail _ hmlb))) (.tail _ (.tail _ (.tail _ hmla)))) (.tail _ (.tail _ (.tail _ (.tail _ hmd))))) (.tail _ (.tail _ (.tail _ (.tail _ (.tail _ hmx)))))
  refine wpAny_call ?_
  k_dflt (refine' code_def ?k1 ?k2 ?k3 ?k4 ?k5 ?kA ?kF ?kK ?k6 ?k7 ?k8 ?k9 ?kB ?_ ?c2 ?c3 ?c4 ?c5; (case kA => exact rfl); (case kF => exact rfl); (case kK => assumption); (case k1 => k_asm); (case k2 => k_asm); (case k3 => k_asm); (case k4 => k_asm); (case k5 => k_asm); (case k6 => k_is); (case k7 => k_is); (case k8 => ktr_room); (case k9 => first | exact BindsTo.of_eq rfl | exact binds_K (by k_in) rfl (by k_is) rfl rfl rfl); (case c5 => decide); (case kB => exact locs rfl); (case c2 => exact rfl); (case c3 => exact rfl); (case c4 => exact rfl); k_whole; intro g L1 h1 FG F1 N1 B1 X1 T1; (try dsimp only); (try k_fold))
  have BO1 : Boot w g := boot_keeps BO FG.keep
  k_steps
  refine wpAny_up (n_scont (by assumption) (by assumption) X1 BO1 (by k_mem) ?_) (Nat.le_of_ble_eq_true rfl) (Nat.le_of_ble_eq_true rfl)
  intro q h2 tk2 F2 N2 l2
  k_sweep
  repeat' ((k_extra "g0"); (k_extra "g1"); k_extra "t0")
  (rename Fr _ _ _ _ => lF9); (with_unfolding_all refine' For_invVF lF9 ?k1 ?k2 ?_; (case k1 => exact rfl); (case k2 => exact rfl); k_whole)
  k_extra "k0"
  rename_i D1 _ hT1 lD1 _ _ _ _ _ _ D2 _ hT2 lD2 _ _ _ _ _ d0 _ o0 lo0 _ _ hi0 _ hT3 ld0 _ l0 _ ll0 _ _ _ _ _ _ _ _ R5 F5 N5 _
  have hn : Builtin.Range.rangeSize (alo : Int) (ahi : Int) 1 = ((ahi - alo : Nat) : Int) := range_size ha1
  refine range_loop (σ := FS) (fun c => (c.dj, c.oj) :: (l0, PySem.W.listOf #[] 0) :: (q, bmO "set.__contains__" sj) :: (x, instObj 242 d) :: (d, PySem.W.dictOf [⟨PyData.keyHash w.params (Str.ofString "isjunk"), .str (Str.ofString "isjunk") (t 0), .none⟩, ⟨PyData.keyHash w.params (Str.ofString "a"), .str (Str.ofString "a") (t 1), .ref la⟩, ⟨PyData.keyHash w.params (Str.ofString "b"), .str (Str.ofString "b") (t 2), .ref lb⟩, ⟨PyData.keyHash w.params (Str.ofString "autojunk"), .str (Str.ofString "autojunk") (t 3), .bool true⟩, ⟨PyData.keyHash w.params (Str.ofString "matching_blocks"), .str (Str.ofString "matching_blocks") (t 4), mbv⟩, ⟨PyData.keyHash w.params (Str.ofString "opcodes"), .str (Str.ofString "opcodes") (t 5), opv⟩, ⟨PyData.keyHash w.params (Str.ofString "fullbcount"), .str (Str.ofString "fullbcount") (t 6), .none⟩, ⟨PyData.keyHash w.params (Str.ofString "b2j"), .str (Str.ofString "b2j") (t 7), .ref bd⟩, ⟨PyData.keyHash w.params (Str.ofString "bjunk"), .str (Str.ofString "bjunk") (t 8), .ref sj⟩, ⟨PyData.keyHash w.params (Str.ofString "bpopular"), .str (Str.ofString "bpopular") (t 9), .ref sp⟩] 10) :: (la, PySem.W.listOf xs.toArray ea) :: (lb, PySem.W.listOf ys.toArray eb) :: (bd, ob) :: (sj, setO led) :: news)
    (fun c => [(Str.ofString "besti", .int c.bi c.ti), (Str.ofString "bestj", .int c.bj c.tj), (Str.ofString "bestsize", .int c.bs c.ts), (Str.ofString "j2len", .ref c.dj)])
    [Str.ofString "j2lenget", Str.ofString "newj2len", Str.ofString "j", Str.ofString "k"]
    (fun i c => Obj.IsDictOf (intKind PySem.Challenge.rw_mr0378_01.row.prog w) c.oj c.kj ∧ (c.dj == sysModules) = false ∧ (c.bi, c.bj, c.bs, c.pv) = ffold ms ns alo blo bhi i)
    ⟨alo, blo, 0, k1, k3, ?t0, none, 0, d0, o0⟩ rfl R5 (small_one (by omega) (by omega) (by omega) (by omega)) hn F5 ?sub ?ps ⟨hi0, lo0, rfl⟩ ?turn ?done
  case ps => (k_extra "PS9")
  case sub =>
    (try dsimp only)
    refine news_sub N5 ?_
    ((repeat ((fail_if_success (k_extra "g2")); refine sub_cons (by k_mem) ?_)); first | exact sub_nil | (intro p9 hp9; (repeat (first | exact hp9 | refine List.Mem.tail _ ?_))))
  case turn =>
    rintro c i t1 u h tk I oi hlt ⟨hdj, loj, hst⟩ hneI F6 N6
    have hTI : ∀ p ∈ news, p.1 ≠ I := fun p hp => hneI p (by simp [hp])
    (try dsimp only [kstB] at F6 N6)
    k_sweep
    k_extra "k0"
    refine wpAny_up (n_dget (by assumption) (by assumption) X1 BO1 (by k_mem) hdj ?_) (Nat.le_of_ble_eq_true rfl) (Nat.le_of_ble_eq_true rfl)
    intro q2 h3 tk3 F7 N7 l7
    have hTq : ∀ p ∈ news, p.1 ≠ q2 := fun p hp => l7 p (by simp [hp])
    k_sweep
    k_extra "k0"
    (rename Fr _ _ _ _ => lF9); (with_unfolding_all refine' For_invVF lF9 ?k1 ?k2 ?_; (case k1 => exact rfl); (case k2 => exact rfl); k_whole)
    repeat' ((k_extra "g0"); (k_extra "g1"); (k_extra "g3"); (k_extra "g13"); k_extra "t0")
    have hlt2 : alo + i < ms.length := lt_item hlt ha1 ha2
    obtain ⟨ai9, hai9⟩ : ∃ a, ms[alo + i]? = some a := ⟨_, List.getElem?_eq_getElem hlt2⟩
    obtain ⟨ta, hta⟩ := ints_at hi1 hai9
    refine n_item (by assumption) (by k_mem) (by omega) (by omega) (by exact hta) ?_
    repeat' ((k_extra "g0"); (k_extra "g1"); (k_extra "g3"); (k_extra "g13"); (fail_if_success (with_reducible show wpAny _ _ (call (Value.builtin "dict.get") _ _) _ _ _)); k_extra "t0")
    refine opt_cases9 (ns.idxOf? ai9) ?none9 ?some9
    case none9 =>
      intro hix
      refine kdg_get2 (knd := intKind _ _) (by assumption) (by k_mem) hD lo (intKind_is _ _ _ _) none (by rw [hV, hix]; rfl) ?_
      (try dsimp only [Option.getD])
      rename_i d2 _ o2 lo2 _ _ hi2' _ ld2 _ N8
      have F8 := lF9
      refine list_loop (σ := Unit) (l := l0) (items := #[]) (nn := 0) (fun _ => (l0, PySem.W.listOf #[] 0) :: (d2, o2) :: (q2, bmO "dict.get" c.dj) :: (I, oi) :: (q, bmO "set.__contains__" sj) :: (x, instObj 242 d) :: (d, PySem.W.dictOf [⟨PyData.keyHash w.params (Str.ofString "isjunk"), .str (Str.ofString "isjunk") (t 0), .none⟩, ⟨PyData.keyHash w.params (Str.ofString "a"), .str (Str.ofString "a") (t 1), .ref la⟩, ⟨PyData.keyHash w.params (Str.ofString "b"), .str (Str.ofString "b") (t 2), .ref lb⟩, ⟨PyData.keyHash w.params (Str.ofString "autojunk"), .str (Str.ofString "autojunk") (t 3), .bool true⟩, ⟨PyData.keyHash w.params (Str.ofString "matching_blocks"), .str (Str.ofString "matching_blocks") (t 4), mbv⟩, ⟨PyData.keyHash w.params (Str.ofString "opcodes"), .str (Str.ofString "opcodes") (t 5), opv⟩, ⟨PyData.keyHash w.params (Str.ofString "fullbcount"), .str (Str.ofString "fullbcount") (t 6), .none⟩, ⟨PyData.keyHash w.params (Str.ofString "b2j"), .str (Str.ofString "b2j") (t 7), .ref bd⟩, ⟨PyData.keyHash w.params (Str.ofString "bjunk"), .str (Str.ofString "bjunk") (t 8), .ref sj⟩, ⟨PyData.keyHash w.params (Str.ofString "bpopular"), .str (Str.ofString "bpopular") (t 9), .ref sp⟩] 10) :: (la, PySem.W.listOf xs.toArray ea) :: (lb, PySem.W.listOf ys.toArray eb) :: (bd, ob) :: (sj, setO led) :: news)
        (fun _ => []) [Str.ofString "k"] (fun _ _ => True) () rfl (fun _ => .head _) F8 ?sub2 ?ps2 trivial ?turn2 ?done2
      case ps2 => (k_extra "PS9")
      case sub2 =>
        (try dsimp only)
        refine news_sub N8 ?_
        ((repeat ((fail_if_success (k_extra "g2")); refine sub_cons (by k_mem) ?_)); first | exact sub_nil | (intro p9 hp9; (repeat (first | exact hp9 | refine List.Mem.tail _ ?_))))
      case turn2 =>
        rintro e n v u2 h4 tk4 I2 oi2 hv
        simp at hv
      case done2 =>
        rintro e u2 h4 tk4 _ F9 N10
        (try dsimp only [kstB] at F9 N10)
        (try dsimp only)
        k_sweep
        repeat' ((k_extra "g0"); (k_extra "g1"); (k_extra "g3"); (k_extra "g12"); k_extra "t0")
        refine' turn_end (σ := FS) ⟨c.bi, c.bj, c.bs, _, _, _, none, 0, d2, o2⟩ (by assumption) (by assumption) ?hs ?hne ?hk ?hr ?hP
        case hk => (k_extra "PS9")
        case hs => dsimp only; ((repeat ((fail_if_success (k_extra "g2")); refine sub_cons (by k_mem) ?_)); first | exact sub_nil | (intro p9 hp9; (repeat (first | exact hp9 | refine List.Mem.tail _ ?_))))
        case hne => dsimp only; ((repeat (refine ne_cons ?_ ?_; (first | assumption | exact hneI2 (_, _) (by k_mem) | exact hneI (_, _) (by k_mem) | (refine Nat.ne_of_gt ?_; omega)))); first | exact ne_nil | assumption)
        case hr => kst_same
        case hP => exact ⟨hi2', lo2, by rw [ffold_succ2 hai9 hst, fstep_none hix]⟩
    case some9 =>
      intro j hix
      refine kdg_get2 (knd := intKind _ _) (by assumption) (by k_mem) hD lo (intKind_is _ _ _ _) (some (.ref (al j))) (by rw [hV, hix]; rfl) ?_
      (try dsimp only [Option.getD])
      rename_i d2 _ o2 lo2 _ _ hi2' _ ld2 _ N8
      have F8 := lF9
      have hj : j < ns.length := idxOf?_lt hix
      have hA := ltN (hT9 _ (hL j hj))
      refine list_loop (σ := FS) (l := al j) (items := #[.int (j : Int) (tj j)]) (nn := 1) (fun e => (al j, PySem.W.listOf #[.int (j : Int) (tj j)] 1) :: (d2, e.oj) :: (q2, bmO "dict.get" c.dj) :: (I, oi) :: (c.dj, c.oj) :: (l0, PySem.W.listOf #[] 0) :: (q, bmO "set.__contains__" sj) :: (x, instObj 242 d) :: (d, PySem.W.dictOf [⟨PyData.keyHash w.params (Str.ofString "isjunk"), .str (Str.ofString "isjunk") (t 0), .none⟩, ⟨PyData.keyHash w.params (Str.ofString "a"), .str (Str.ofString "a") (t 1), .ref la⟩, ⟨PyData.keyHash w.params (Str.ofString "b"), .str (Str.ofString "b") (t 2), .ref lb⟩, ⟨PyData.keyHash w.params (Str.ofString "autojunk"), .str (Str.ofString "autojunk") (t 3), .bool true⟩, ⟨PyData.keyHash w.params (Str.ofString "matching_blocks"), .str (Str.ofString "matching_blocks") (t 4), mbv⟩, ⟨PyData.keyHash w.params (Str.ofString "opcodes"), .str (Str.ofString "opcodes") (t 5), opv⟩, ⟨PyData.keyHash w.params (Str.ofString "fullbcount"), .str (Str.ofString "fullbcount") (t 6), .none⟩, ⟨PyData.keyHash w.params (Str.ofString "b2j"), .str (Str.ofString "b2j") (t 7), .ref bd⟩, ⟨PyData.keyHash w.params (Str.ofString "bjunk"), .str (Str.ofString "bjunk") (t 8), .ref sj⟩, ⟨PyData.keyHash w.params (Str.ofString "bpopular"), .str (Str.ofString "bpopular") (t 9), .ref sp⟩] 10) :: (la, PySem.W.listOf xs.toArray ea) :: (lb, PySem.W.listOf ys.toArray eb) :: (bd, ob) :: (sj, setO led) :: news)
        (fun e => [(Str.ofString "besti", .int e.bi e.ti), (Str.ofString "bestj", .int e.bj e.tj), (Str.ofString "bestsize", .int e.bs e.ts)])
        [Str.ofString "k"]
        (fun n e => if n = 0 then (e.bi, e.bj, e.bs) = (c.bi, c.bj, c.bs) ∧ Obj.IsDictOf (intKind PySem.Challenge.rw_mr0378_01.row.prog w) e.oj [] else Obj.IsDictOf (intKind PySem.Challenge.rw_mr0378_01.row.prog w) e.oj e.kj ∧ (e.bi, e.bj, e.bs, e.pv) = fstep ns blo bhi (alo + i) ai9 (c.bi, c.bj, c.bs, c.pv))
        ⟨c.bi, c.bj, c.bs, c.ti, c.tj, c.ts, none, 0, d2, o2⟩ rfl (fun _ => .head _) F8 ?sub2 ?ps2 ⟨rfl, hi2'⟩ ?turn2 ?done2
      case ps2 => (k_extra "PS9")
      case sub2 =>
        have N9 := news_front (p := (al j, PySem.W.listOf #[.int (j : Int) (tj j)] 1)) N8 (by simp [hL j hj])
        (try dsimp only)
        refine news_sub N9 ?_
        ((repeat ((fail_if_success (k_extra "g2")); refine sub_cons (by k_mem) ?_)); first | exact sub_nil | (intro p9 hp9; (repeat (first | exact hp9 | refine List.Mem.tail _ ?_))))
      case turn2 =>
        rintro ⟨ebi, ebj, ebs, eti, etj, ets, epv, etv, edj, eoj⟩ n v u2 h4 tk4 I2 oi2 hv hP2 hneI2 F9 N10
        cases n with
        | succ n => simp at hv
        | zero =>
          simp only [↓reduceIte, Prod.mk.injEq] at hP2
          obtain ⟨⟨e1, e2, e3⟩, hdo⟩ := hP2
          subst e1 e2 e3
          simp only [List.size_toArray, List.length_cons, List.length_nil, Nat.zero_add, Nat.lt_add_one, getElem?_pos, List.getElem_toArray, List.getElem_cons_zero, Option.some.injEq] at hv
          subst hv
          (try dsimp only [kstB] at F9 N10)
          have hI2 := neN (hneI2 (d2, eoj) (by k_mem))
          have hTI2 : ∀ p ∈ news, p.1 ≠ I2 := fun p hp => hneI2 p (by simp [hp])
          k_sweep
          k_extra "k29"
          · refine turn_end (σ := FS) ⟨c.bi, c.bj, c.bs, eti, etj, ets, none, etv, edj, eoj⟩ (by assumption) (by assumption) ?_ ?_ ?_ ?_ ?_
            · dsimp only; ((repeat ((fail_if_success (k_extra "g2")); refine sub_cons (by k_mem) ?_)); first | exact sub_nil | (intro p9 hp9; (repeat (first | exact hp9 | refine List.Mem.tail _ ?_))))
            · exact hneI2
            · (k_extra "PS9")
            · kst_same
            · rw [if_neg (Nat.succ_ne_zero 0)]
              exact ⟨hdo, by rw [fstep_low hix (by omega)]⟩
          · dsimp only [TurnP]
            k_extra "k17"
            refine' turn_end (σ := FS) ⟨c.bi, c.bj, c.bs, _, _, _, none, 0, d2, eoj⟩ (by assumption) (by assumption) ?hs ?hne ?hk ?hr ?hP
            case hk => (k_extra "PS9")
            case hs => dsimp only; ((repeat ((fail_if_success (k_extra "g2")); refine sub_cons (by k_mem) ?_)); first | exact sub_nil | (intro p9 hp9; (repeat (first | exact hp9 | refine List.Mem.tail _ ?_))))
            case hne => dsimp only; ((repeat (refine ne_cons ?_ ?_; (first | assumption | exact hneI2 (_, _) (by k_mem) | exact hneI (_, _) (by k_mem) | (refine Nat.ne_of_gt ?_; omega)))); first | exact ne_nil | assumption)
            case hr => kst_same
            case hP => exact ⟨hdo, lo2, by rw [ffold_succ2 hai9 hst, fstep_high hix (by omega) (by omega)]⟩
          · refine callWith_B "dict.get" c.dj ?_
            k_extra "k29"
            · exact (by assumption : News g L1 _ _).get (by k_mem)
            obtain ⟨tq, hq9⟩ := kj_get c ((j : Int) - 1) _
            refine n_dgetc (by assumption) (by k_mem) (by k_mem) hdj loj hq9 ?_
            repeat' ((k_extra "g0"); (k_extra "g1"); (k_extra "g3"); (k_extra "g5"); (k_extra "g4"); (fail_if_success (with_reducible show wpAny _ _ (setItem (Value.ref _) _ _) _ _ _)); k_extra "t0")
            k_dflt (refine' kda_set (knd := intKind _ _) ?F ?N ?U hdo (intKind_is _ _ _ _) (Nat.zero_le _) ?_; (case F => k_asm); (case N => k_asm); (case U => k_updF))
            intro h5 o5 F11 N11 hd5
            (try dsimp only at N11)
            rw [stored_nil] at hd5
            obtain ⟨tv5, hd5⟩ : ∃ tv, Obj.IsDictOf (intKind PySem.Challenge.rw_mr0378_01.row.prog w) o5 [((j : Int), Value.int (prevK c.pv ((j : Int) - 1) + 1) tv)] := ⟨_, hd5⟩
            k_sweep
            k_extra "k17"
            · refine' turn_end (σ := FS) ⟨(alo : Int) + (i : Int) - (prevK c.pv ((j : Int) - 1) + 1) + 1, (j : Int) - (prevK c.pv ((j : Int) - 1) + 1) + 1, prevK c.pv ((j : Int) - 1) + 1, _, _, _, some ((j : Int), prevK c.pv ((j : Int) - 1) + 1), tv5, edj, o5⟩ (by assumption) (by assumption) ?hs ?hne ?hk ?hr ?hP
              case hP =>
                rw [if_neg (Nat.succ_ne_zero 0)]
                exact ⟨hd5, by rw [fstep_gt hix (by omega) (by omega) (by omega)]⟩
              case hk => (k_extra "PS9")
              case hs => dsimp only; ((repeat ((fail_if_success (k_extra "g2")); refine sub_cons (by k_mem) ?_)); first | exact sub_nil | (intro p9 hp9; (repeat (first | exact hp9 | refine List.Mem.tail _ ?_))))
              case hne => dsimp only; ((repeat (refine ne_cons ?_ ?_; (first | assumption | exact hneI2 (_, _) (by k_mem) | exact hneI (_, _) (by k_mem) | (refine Nat.ne_of_gt ?_; omega)))); first | exact ne_nil | assumption)
              case hr => kst_same
            · refine' turn_end (σ := FS) ⟨c.bi, c.bj, c.bs, _, _, _, some ((j : Int), prevK c.pv ((j : Int) - 1) + 1), tv5, edj, o5⟩ (by assumption) (by assumption) ?hs ?hne ?hk ?hr ?hP
              case hP =>
                rw [if_neg (Nat.succ_ne_zero 0)]
                exact ⟨hd5, by rw [fstep_le hix (by omega) (by omega) (by omega)]⟩
              case hk => (k_extra "PS9")
              case hs => dsimp only; ((repeat ((fail_if_success (k_extra "g2")); refine sub_cons (by k_mem) ?_)); first | exact sub_nil | (intro p9 hp9; (repeat (first | exact hp9 | refine List.Mem.tail _ ?_))))
              case hne => dsimp only; ((repeat (refine ne_cons ?_ ?_; (first | assumption | exact hneI2 (_, _) (by k_mem) | exact hneI (_, _) (by k_mem) | (refine Nat.ne_of_gt ?_; omega)))); first | exact ne_nil | assumption)
              case hr => kst_same
      case done2 =>
        rintro ⟨ebi, ebj, ebs, eti, etj, ets, epv, etv, edj, eoj⟩ u2 h4 tk4 hP2 F9 N10
        have hP3 := (if_neg (c := (#[Value.int (j : Int) (tj j)] : Array Value).size = 0) (Nat.succ_ne_zero 0)).mp hP2
        obtain ⟨hdo, hst3⟩ := hP3
        (try dsimp only [kstB] at F9 N10)
        (try dsimp only)
        k_sweep
        k_extra "k17"
        refine' turn_end (σ := FS) ⟨ebi, ebj, ebs, _, _, _, epv, etv, d2, eoj⟩ (by assumption) (by assumption) ?hs ?hne ?hk ?hr ?hP
        case hk => (k_extra "PS9")
        case hs => dsimp only; ((repeat ((fail_if_success (k_extra "g2")); refine sub_cons (by k_mem) ?_)); first | exact sub_nil | (intro p9 hp9; (repeat (first | exact hp9 | refine List.Mem.tail _ ?_))))
        case hne => dsimp only; ((repeat (refine ne_cons ?_ ?_; (first | assumption | exact hneI2 (_, _) (by k_mem) | exact hneI (_, _) (by k_mem) | (refine Nat.ne_of_gt ?_; omega)))); first | exact ne_nil | assumption)
        case hr => kst_same
        case hP => exact ⟨hdo, lo2, by rw [ffold_succ2 hai9 hst]; exact hst3⟩
  case done =>
    rintro ⟨bi, bj, bs, ti, tj9, ts, pv, tv, dj, oj⟩ u h tk ⟨_, _, hst⟩ F6 N6
    (try dsimp only [kstB] at F6 N6)
    (try dsimp only)
    k_sweep
    have hinv := ffold_inv (ahi := (ahi : Int)) (by omega) (by omega) (by omega) (ahi - alo) bi bj bs pv (by omega) hst
    obtain ⟨i1, i2, i3, i4, _⟩ := hinv
    k_extra "k0"
    refine while_loop (σ := WS) (fun _ => (q, bmO "set.__contains__" sj) :: (x, instObj 242 d) :: (d, PySem.W.dictOf [⟨PyData.keyHash w.params (Str.ofString "isjunk"), .str (Str.ofString "isjunk") (t 0), .none⟩, ⟨PyData.keyHash w.params (Str.ofString "a"), .str (Str.ofString "a") (t 1), .ref la⟩, ⟨PyData.keyHash w.params (Str.ofString "b"), .str (Str.ofString "b") (t 2), .ref lb⟩, ⟨PyData.keyHash w.params (Str.ofString "autojunk"), .str (Str.ofString "autojunk") (t 3), .bool true⟩, ⟨PyData.keyHash w.params (Str.ofString "matching_blocks"), .str (Str.ofString "matching_blocks") (t 4), mbv⟩, ⟨PyData.keyHash w.params (Str.ofString "opcodes"), .str (Str.ofString "opcodes") (t 5), opv⟩, ⟨PyData.keyHash w.params (Str.ofString "fullbcount"), .str (Str.ofString "fullbcount") (t 6), .none⟩, ⟨PyData.keyHash w.params (Str.ofString "b2j"), .str (Str.ofString "b2j") (t 7), .ref bd⟩, ⟨PyData.keyHash w.params (Str.ofString "bjunk"), .str (Str.ofString "bjunk") (t 8), .ref sj⟩, ⟨PyData.keyHash w.params (Str.ofString "bpopular"), .str (Str.ofString "bpopular") (t 9), .ref sp⟩] 10) :: (la, PySem.W.listOf xs.toArray ea) :: (lb, PySem.W.listOf ys.toArray eb) :: (bd, ob) :: (sj, setO led) :: news) (fun c => [(Str.ofString "besti", .int c.bi c.ti), (Str.ofString "bestj", .int c.bj c.tj), (Str.ofString "bestsize", .int c.bs c.ts)]) []
      (fun c => ∃ n, (c.bi - alo).toNat ≤ n ∧ backP ms ns alo blo n (c.bi, c.bj, c.bs) = backP ms ns alo blo ms.length (bi, bj, bs) ∧ c.bi ≤ ahi ∧ c.bj ≤ bhi ∧ 0 ≤ c.bi + c.bs ∧ 0 ≤ c.bj + c.bs)
      (fun c => (c.bi - alo).toNat)
      (fun c => (c.bi, c.bj, c.bs) = backP ms ns alo blo ms.length (bi, bj, bs) ∧ c.bi ≤ ahi ∧ c.bj ≤ bhi ∧ 0 ≤ c.bi + c.bs ∧ 0 ≤ c.bj + c.bs)
      ⟨bi, bj, bs, ti, tj9, ts⟩ (by assumption) ?N1 ?hk1 ⟨ms.length, by (try dsimp only); omega, rfl, i1, i2, i3, i4⟩ ?turn1 ?done1
    case N1 => refine news_sub N6 ?_; ((repeat ((fail_if_success (k_extra "g2")); refine sub_cons (by k_mem) ?_)); first | exact sub_nil | (intro p9 hp9; (repeat (first | exact hp9 | refine List.Mem.tail _ ?_))))
    case hk1 => (k_extra "PS9")
    case turn1 =>
      clear F6 N6
      rintro ⟨b1, b2, b3, t1, t2, t3⟩ u4 h4 tk4 ⟨n, hn1, hb, j1, j2, j3, j4⟩ F6 N6
      (try dsimp only [kstB] at F6 N6 hn1 hb j1 j2 j3 j4)
      (try dsimp only)
      k_sweep
      k_extra "k11"
      · refine callWith_B "set.__contains__" sj ?_
        k_extra "k1"
        obtain ⟨tb9, htb⟩ := ints_atD hi2 (k := (b2 - 1).toNat) (by omega)
        refine n_item (by assumption) (by k_mem) (by omega) (by omega) htb ?_
        k_extra "k1"
        · exact (by assumption : News g L1 _ _).get (by k_mem)
        refine n_scon (by assumption) (by k_mem) (by k_mem) ?_
        k_extra "k1"
        obtain ⟨ta9, hta9⟩ := ints_atD hi1 (k := (b1 - 1).toNat) (by omega)
        refine n_item (by assumption) (by k_mem) (by omega) (by omega) hta9 ?_
        k_extra "k1"
        obtain ⟨tb8, htb8⟩ := ints_atD hi2 (k := (b2 - 1).toNat) (by omega)
        refine n_item (by assumption) (by k_mem) (by omega) (by omega) htb8 ?_
        k_extra "k1"
        · obtain ⟨n', rfl⟩ : ∃ n', n = n' + 1 := ⟨n - 1, by omega⟩
          refine' w_turn (σ := WS) ⟨b1 - 1, b2 - 1, b3 + 1, _, _, _⟩ (by assumption) (by assumption) ?hs ?hk ?hr ?hp ?hm
          case hk => (k_extra "PS9")
          case hs => (try dsimp only); ((repeat ((fail_if_success (k_extra "g2")); refine sub_cons (by k_mem) ?_)); first | exact sub_nil | (intro p9 hp9; (repeat (first | exact hp9 | refine List.Mem.tail _ ?_))))
          case hr => k_extra "hr2"
          case hp => exact ⟨n', by (try dsimp only); omega, by rw [← hb]; exact (backP_step (bi := b1) (bj := b2) (bs := b3) (by omega)).symm, by (try dsimp only); omega, by (try dsimp only); omega, by (try dsimp only); omega, by (try dsimp only); omega⟩
          case hm => (try dsimp only); omega
        · refine w_exit ⟨b1, b2, b3, t1, t2, t3⟩ (by assumption) (by assumption) ?hs ?hk ?hr ⟨by rw [← hb]; exact (backP_stop (bi := b1) (bj := b2) (bs := b3) (by omega) n).symm, j1, j2, j3, j4⟩
          case hs => (try dsimp only); ((repeat ((fail_if_success (k_extra "g2")); refine sub_cons (by k_mem) ?_)); first | exact sub_nil | (intro p9 hp9; (repeat (first | exact hp9 | refine List.Mem.tail _ ?_))))
          case hk => (k_extra "PS9")
          case hr => k_extra "hr2"
      · refine w_exit ⟨b1, b2, b3, t1, t2, t3⟩ (by assumption) (by assumption) ?hs ?hk ?hr ⟨by rw [← hb]; exact (backP_stop (bi := b1) (bj := b2) (bs := b3) (by omega) n).symm, j1, j2, j3, j4⟩
        case hs => (try dsimp only); ((repeat ((fail_if_success (k_extra "g2")); refine sub_cons (by k_mem) ?_)); first | exact sub_nil | (intro p9 hp9; (repeat (first | exact hp9 | refine List.Mem.tail _ ?_))))
        case hk => (k_extra "PS9")
        case hr => k_extra "hr2"
      · refine w_exit ⟨b1, b2, b3, t1, t2, t3⟩ (by assumption) (by assumption) ?hs ?hk ?hr ⟨by rw [← hb]; exact (backP_stop (bi := b1) (bj := b2) (bs := b3) (by omega) n).symm, j1, j2, j3, j4⟩
        case hs => (try dsimp only); ((repeat ((fail_if_success (k_extra "g2")); refine sub_cons (by k_mem) ?_)); first | exact sub_nil | (intro p9 hp9; (repeat (first | exact hp9 | refine List.Mem.tail _ ?_))))
        case hk => (k_extra "PS9")
        case hr => k_extra "hr2"
    clear F6 N6
    rintro ⟨b1, b2, b3, t1, t2, t3⟩ u4 h4 tk4 ⟨hb, j1, j2, j3, j4⟩ F6 N6
    (try dsimp only [kstB] at F6 N6 hb j1 j2 j3 j4)
    (try dsimp only)
    k_sweep
    k_extra "k0"
    refine while_loop (σ := WS) (fun _ => (q, bmO "set.__contains__" sj) :: (x, instObj 242 d) :: (d, PySem.W.dictOf [⟨PyData.keyHash w.params (Str.ofString "isjunk"), .str (Str.ofString "isjunk") (t 0), .none⟩, ⟨PyData.keyHash w.params (Str.ofString "a"), .str (Str.ofString "a") (t 1), .ref la⟩, ⟨PyData.keyHash w.params (Str.ofString "b"), .str (Str.ofString "b") (t 2), .ref lb⟩, ⟨PyData.keyHash w.params (Str.ofString "autojunk"), .str (Str.ofString "autojunk") (t 3), .bool true⟩, ⟨PyData.keyHash w.params (Str.ofString "matching_blocks"), .str (Str.ofString "matching_blocks") (t 4), mbv⟩, ⟨PyData.keyHash w.params (Str.ofString "opcodes"), .str (Str.ofString "opcodes") (t 5), opv⟩, ⟨PyData.keyHash w.params (Str.ofString "fullbcount"), .str (Str.ofString "fullbcount") (t 6), .none⟩, ⟨PyData.keyHash w.params (Str.ofString "b2j"), .str (Str.ofString "b2j") (t 7), .ref bd⟩, ⟨PyData.keyHash w.params (Str.ofString "bjunk"), .str (Str.ofString "bjunk") (t 8), .ref sj⟩, ⟨PyData.keyHash w.params (Str.ofString "bpopular"), .str (Str.ofString "bpopular") (t 9), .ref sp⟩] 10) :: (la, PySem.W.listOf xs.toArray ea) :: (lb, PySem.W.listOf ys.toArray eb) :: (bd, ob) :: (sj, setO led) :: news) (fun c => [(Str.ofString "besti", .int c.bi c.ti), (Str.ofString "bestj", .int c.bj c.tj), (Str.ofString "bestsize", .int c.bs c.ts)]) []
      (fun c => ∃ n, (ahi - (c.bi + c.bs)).toNat ≤ n ∧ fwdP ms ns ahi bhi n (c.bi, c.bj, c.bs) = fwdP ms ns ahi bhi ms.length (b1, b2, b3) ∧ c.bi ≤ ahi ∧ c.bj ≤ bhi ∧ 0 ≤ c.bi + c.bs ∧ 0 ≤ c.bj + c.bs)
      (fun c => (ahi - (c.bi + c.bs)).toNat)
      (fun c => (c.bi, c.bj, c.bs) = fwdP ms ns ahi bhi ms.length (b1, b2, b3) ∧ c.bi ≤ ahi ∧ c.bj ≤ bhi ∧ 0 ≤ c.bi + c.bs ∧ 0 ≤ c.bj + c.bs)
      ⟨b1, b2, b3, t1, t2, t3⟩ (by assumption) ?N2 ?hk2 ⟨ms.length, by (try dsimp only); omega, rfl, j1, j2, j3, j4⟩ ?turn2 ?done2
    case N2 => refine news_sub N6 ?_; ((repeat ((fail_if_success (k_extra "g2")); refine sub_cons (by k_mem) ?_)); first | exact sub_nil | (intro p9 hp9; (repeat (first | exact hp9 | refine List.Mem.tail _ ?_))))
    case hk2 => (k_extra "PS9")
    case turn2 =>
      clear F6 N6
      rintro ⟨c1, c2, c3, t4, t5, t6⟩ u4 h4 tk4 ⟨n, hn1, hc, j1, j2, k3, k4⟩ F6 N6
      (try dsimp only [kstB] at F6 N6 hn1 hc j1 j2 k3 k4)
      (try dsimp only)
      k_sweep
      k_extra "k11"
      · refine callWith_B "set.__contains__" sj ?_
        k_extra "k1"
        obtain ⟨tb9, htb⟩ := ints_atD hi2 (k := (c2 + c3).toNat) (by omega)
        refine n_item (by assumption) (by k_mem) (by omega) (by omega) htb ?_
        k_extra "k1"
        · exact (by assumption : News g L1 _ _).get (by k_mem)
        refine n_scon (by assumption) (by k_mem) (by k_mem) ?_
        k_extra "k1"
        obtain ⟨ta9, hta9⟩ := ints_atD hi1 (k := (c1 + c3).toNat) (by omega)
        refine n_item (by assumption) (by k_mem) (by omega) (by omega) hta9 ?_
        k_extra "k1"
        obtain ⟨tb8, htb8⟩ := ints_atD hi2 (k := (c2 + c3).toNat) (by omega)
        refine n_item (by assumption) (by k_mem) (by omega) (by omega) htb8 ?_
        k_extra "k1"
        · obtain ⟨n', rfl⟩ : ∃ n', n = n' + 1 := ⟨n - 1, by omega⟩
          refine' w_turn (σ := WS) ⟨c1, c2, c3 + 1, _, _, _⟩ (by assumption) (by assumption) ?hs ?hk ?hr ?hp ?hm
          case hk => (k_extra "PS9")
          case hs => (try dsimp only); ((repeat ((fail_if_success (k_extra "g2")); refine sub_cons (by k_mem) ?_)); first | exact sub_nil | (intro p9 hp9; (repeat (first | exact hp9 | refine List.Mem.tail _ ?_))))
          case hr => k_extra "hr2"
          case hp => exact ⟨n', by (try dsimp only); omega, by rw [← hc]; exact (fwdP_step (bi := c1) (bj := c2) (bs := c3) (by omega)).symm, by (try dsimp only); omega, by (try dsimp only); omega, by (try dsimp only); omega, by (try dsimp only); omega⟩
          case hm => (try dsimp only); omega
        · refine w_exit ⟨c1, c2, c3, t4, t5, t6⟩ (by assumption) (by assumption) ?hs ?hk ?hr ⟨by rw [← hc]; exact (fwdP_stop (bi := c1) (bj := c2) (bs := c3) (by omega) n).symm, j1, j2, k3, k4⟩
          case hs => (try dsimp only); ((repeat ((fail_if_success (k_extra "g2")); refine sub_cons (by k_mem) ?_)); first | exact sub_nil | (intro p9 hp9; (repeat (first | exact hp9 | refine List.Mem.tail _ ?_))))
          case hk => (k_extra "PS9")
          case hr => k_extra "hr2"
      · refine w_exit ⟨c1, c2, c3, t4, t5, t6⟩ (by assumption) (by assumption) ?hs ?hk ?hr ⟨by rw [← hc]; exact (fwdP_stop (bi := c1) (bj := c2) (bs := c3) (by omega) n).symm, j1, j2, k3, k4⟩
        case hs => (try dsimp only); ((repeat ((fail_if_success (k_extra "g2")); refine sub_cons (by k_mem) ?_)); first | exact sub_nil | (intro p9 hp9; (repeat (first | exact hp9 | refine List.Mem.tail _ ?_))))
        case hk => (k_extra "PS9")
        case hr => k_extra "hr2"
      · refine w_exit ⟨c1, c2, c3, t4, t5, t6⟩ (by assumption) (by assumption) ?hs ?hk ?hr ⟨by rw [← hc]; exact (fwdP_stop (bi := c1) (bj := c2) (bs := c3) (by omega) n).symm, j1, j2, k3, k4⟩
        case hs => (try dsimp only); ((repeat ((fail_if_success (k_extra "g2")); refine sub_cons (by k_mem) ?_)); first | exact sub_nil | (intro p9 hp9; (repeat (first | exact hp9 | refine List.Mem.tail _ ?_))))
        case hk => (k_extra "PS9")
        case hr => k_extra "hr2"
    clear F6 N6
    rintro ⟨c1, c2, c3, t4, t5, t6⟩ u4 h4 tk4 ⟨hc, k1', k2', k3', k4'⟩ F6 N6
    (try dsimp only [kstB] at F6 N6 hc k1' k2' k3' k4')
    (try dsimp only)
    k_sweep
    k_extra "k0"
    refine while_loop (σ := Unit) (fun _ => (q, bmO "set.__contains__" sj) :: (x, instObj 242 d) :: (d, PySem.W.dictOf [⟨PyData.keyHash w.params (Str.ofString "isjunk"), .str (Str.ofString "isjunk") (t 0), .none⟩, ⟨PyData.keyHash w.params (Str.ofString "a"), .str (Str.ofString "a") (t 1), .ref la⟩, ⟨PyData.keyHash w.params (Str.ofString "b"), .str (Str.ofString "b") (t 2), .ref lb⟩, ⟨PyData.keyHash w.params (Str.ofString "autojunk"), .str (Str.ofString "autojunk") (t 3), .bool true⟩, ⟨PyData.keyHash w.params (Str.ofString "matching_blocks"), .str (Str.ofString "matching_blocks") (t 4), mbv⟩, ⟨PyData.keyHash w.params (Str.ofString "opcodes"), .str (Str.ofString "opcodes") (t 5), opv⟩, ⟨PyData.keyHash w.params (Str.ofString "fullbcount"), .str (Str.ofString "fullbcount") (t 6), .none⟩, ⟨PyData.keyHash w.params (Str.ofString "b2j"), .str (Str.ofString "b2j") (t 7), .ref bd⟩, ⟨PyData.keyHash w.params (Str.ofString "bjunk"), .str (Str.ofString "bjunk") (t 8), .ref sj⟩, ⟨PyData.keyHash w.params (Str.ofString "bpopular"), .str (Str.ofString "bpopular") (t 9), .ref sp⟩] 10) :: (la, PySem.W.listOf xs.toArray ea) :: (lb, PySem.W.listOf ys.toArray eb) :: (bd, ob) :: (sj, setO led) :: news) (fun _ => []) [] (fun _ => True) (fun _ => 0) (fun _ => True) () (by assumption) ?N3 (fun _ hp => nomatch hp) trivial ?turn3 ?done3
    case N3 => refine news_sub N6 ?_; ((repeat ((fail_if_success (k_extra "g2")); refine sub_cons (by k_mem) ?_)); first | exact sub_nil | (intro p9 hp9; (repeat (first | exact hp9 | refine List.Mem.tail _ ?_))))
    case turn3 =>
      clear F6 N6
      rintro _ u4 h4 tk4 _ F6 N6
      (try dsimp only [kstB] at F6 N6)
      (try dsimp only)
      k_sweep
      k_extra "k11"
      · refine callWith_B "set.__contains__" sj ?_
        k_extra "k1"
        obtain ⟨tb9, htb⟩ := ints_atD hi2 (k := (c2 - 1).toNat) (by omega)
        refine n_item (by assumption) (by k_mem) (by omega) (by omega) htb ?_
        k_extra "k1"
        · exact (by assumption : News g L1 _ _).get (by k_mem)
        refine n_scon (by assumption) (by k_mem) (by k_mem) ?_
        k_extra "k1"
        refine w_exit () (by assumption) (by assumption) ?hs ?hk ?hr trivial
        case hs => (try dsimp only); ((repeat ((fail_if_success (k_extra "g2")); refine sub_cons (by k_mem) ?_)); first | exact sub_nil | (intro p9 hp9; (repeat (first | exact hp9 | refine List.Mem.tail _ ?_))))
        case hk => exact fun _ hp => nomatch hp
        case hr => k_extra "hr2"
      · refine w_exit () (by assumption) (by assumption) ?hs ?hk ?hr trivial
        case hs => (try dsimp only); ((repeat ((fail_if_success (k_extra "g2")); refine sub_cons (by k_mem) ?_)); first | exact sub_nil | (intro p9 hp9; (repeat (first | exact hp9 | refine List.Mem.tail _ ?_))))
        case hk => exact fun _ hp => nomatch hp
        case hr => k_extra "hr2"
      · refine w_exit () (by assumption) (by assumption) ?hs ?hk ?hr trivial
        case hs => (try dsimp only); ((repeat ((fail_if_success (k_extra "g2")); refine sub_cons (by k_mem) ?_)); first | exact sub_nil | (intro p9 hp9; (repeat (first | exact hp9 | refine List.Mem.tail _ ?_))))
        case hk => exact fun _ hp => nomatch hp
        case hr => k_extra "hr2"
    clear F6 N6
    rintro _ u5 h5 tk5 _ F6 N6
    (try dsimp only [kstB] at F6 N6)
    (try dsimp only)
    k_sweep
    k_extra "k0"
    refine while_loop (σ := Unit) (fun _ => (q, bmO "set.__contains__" sj) :: (x, instObj 242 d) :: (d, PySem.W.dictOf [⟨PyData.keyHash w.params (Str.ofString "isjunk"), .str (Str.ofString "isjunk") (t 0), .none⟩, ⟨PyData.keyHash w.params (Str.ofString "a"), .str (Str.ofString "a") (t 1), .ref la⟩, ⟨PyData.keyHash w.params (Str.ofString "b"), .str (Str.ofString "b") (t 2), .ref lb⟩, ⟨PyData.keyHash w.params (Str.ofString "autojunk"), .str (Str.ofString "autojunk") (t 3), .bool true⟩, ⟨PyData.keyHash w.params (Str.ofString "matching_blocks"), .str (Str.ofString "matching_blocks") (t 4), mbv⟩, ⟨PyData.keyHash w.params (Str.ofString "opcodes"), .str (Str.ofString "opcodes") (t 5), opv⟩, ⟨PyData.keyHash w.params (Str.ofString "fullbcount"), .str (Str.ofString "fullbcount") (t 6), .none⟩, ⟨PyData.keyHash w.params (Str.ofString "b2j"), .str (Str.ofString "b2j") (t 7), .ref bd⟩, ⟨PyData.keyHash w.params (Str.ofString "bjunk"), .str (Str.ofString "bjunk") (t 8), .ref sj⟩, ⟨PyData.keyHash w.params (Str.ofString "bpopular"), .str (Str.ofString "bpopular") (t 9), .ref sp⟩] 10) :: (la, PySem.W.listOf xs.toArray ea) :: (lb, PySem.W.listOf ys.toArray eb) :: (bd, ob) :: (sj, setO led) :: news) (fun _ => []) [] (fun _ => True) (fun _ => 0) (fun _ => True) () (by assumption) ?N4 (fun _ hp => nomatch hp) trivial ?turn4 ?done4
    case N4 => refine news_sub N6 ?_; ((repeat ((fail_if_success (k_extra "g2")); refine sub_cons (by k_mem) ?_)); first | exact sub_nil | (intro p9 hp9; (repeat (first | exact hp9 | refine List.Mem.tail _ ?_))))
    case turn4 =>
      clear F6 N6
      rintro _ u4 h4 tk4 _ F6 N6
      (try dsimp only [kstB] at F6 N6)
      (try dsimp only)
      k_sweep
      k_extra "k11"
      · refine callWith_B "set.__contains__" sj ?_
        k_extra "k1"
        obtain ⟨tb9, htb⟩ := ints_atD hi2 (k := (c2 + c3).toNat) (by omega)
        refine n_item (by assumption) (by k_mem) (by omega) (by omega) htb ?_
        k_extra "k1"
        · exact (by assumption : News g L1 _ _).get (by k_mem)
        refine n_scon (by assumption) (by k_mem) (by k_mem) ?_
        k_extra "k1"
        refine w_exit () (by assumption) (by assumption) ?hs ?hk ?hr trivial
        case hs => (try dsimp only); ((repeat ((fail_if_success (k_extra "g2")); refine sub_cons (by k_mem) ?_)); first | exact sub_nil | (intro p9 hp9; (repeat (first | exact hp9 | refine List.Mem.tail _ ?_))))
        case hk => exact fun _ hp => nomatch hp
        case hr => k_extra "hr2"
      · refine w_exit () (by assumption) (by assumption) ?hs ?hk ?hr trivial
        case hs => (try dsimp only); ((repeat ((fail_if_success (k_extra "g2")); refine sub_cons (by k_mem) ?_)); first | exact sub_nil | (intro p9 hp9; (repeat (first | exact hp9 | refine List.Mem.tail _ ?_))))
        case hk => exact fun _ hp => nomatch hp
        case hr => k_extra "hr2"
      · refine w_exit () (by assumption) (by assumption) ?hs ?hk ?hr trivial
        case hs => (try dsimp only); ((repeat ((fail_if_success (k_extra "g2")); refine sub_cons (by k_mem) ?_)); first | exact sub_nil | (intro p9 hp9; (repeat (first | exact hp9 | refine List.Mem.tail _ ?_))))
        case hk => exact fun _ hp => nomatch hp
        case hr => k_extra "hr2"
    clear F6 N6
    rintro _ u5 h5 tk5 _ F6 N6
    (try dsimp only [kstB] at F6 N6)
    (try dsimp only)
    k_sweep
    k_extra "k8"
    refine wpAny_up (n_matchK B1 (by assumption) X1 BO1 (by assumption) T1 rfl ?_) (Nat.le_of_ble_eq_true rfl) (Nat.le_of_ble_eq_true rfl)
    intro q8 d8 h8 tk8 new8 F8 N8 hq8
    (try k_unfold)
    refine leaveK_ F8 N8 fun kF kN => ?_
    refine hQ q8 d8 h8 tk8 new8 (t4, t5, t6) kF (news_sub kN ?_) ?_
    · intro p hp
      rcases List.mem_append.mp hp with hp | hp
      · exact List.mem_append_left _ hp
      · refine List.mem_append_right _ ?_
        (repeat (first | exact hp | refine List.Mem.tail _ ?_))
    · have e9 : flmP ms ns alo ahi blo bhi = (c1, c2, c3) := by
        unfold flmP
        rw [← hst]
        (try dsimp only)
        rw [← hb, ← hc]
      rw [e9]
      exact hq8
end
theorem p1 : True := ⟨⟩
section --Sk_try
open PySem PySem.W PySem.Spec PySem.Calls PyProof.Rows PySem.W.X
noncomputable def KeysAre (kc : Addr) (l : List (Addr × Obj)) (ks : List Value) (ms : List Int) : Prop := ks.length = ms.length ∧ ∀ (i : Nat) (v : Value), ks[i]? = some v → ∃ (q d : Addr) (t : Tok) (x : Int), v = Value.ref q ∧ ms[i]? = some x ∧ (q, instO kc d (.int x t)) ∈ l
theorem KeysAre.snoc {kc q d : Addr} {l : List (Addr × Obj)} {ks : List Value} {ms : List Int} {x : Int} {t : Tok} (h : KeysAre kc l ks ms) (hq : (q, instO kc d (.int x t)) ∈ l) : KeysAre kc l (ks ++ [.ref q]) (ms ++ [x]) :=
  gsnoc (R := fun (v : Value) (y : Option Int) => ∃ (q d : Addr) (t : Tok) (x : Int), v = Value.ref q ∧ y = some x ∧ (q, instO kc d (.int x t)) ∈ l) h.1 h.2 ⟨q, d, t, x, rfl, rfl, hq⟩
theorem KeysAre.sub {kc : Addr} {l l' : List (Addr × Obj)} {ks : List Value} {ms : List Int} (h : KeysAre kc l ks ms) (hs : ∀ p ∈ l, p ∈ l') : KeysAre kc l' ks ms :=
  ⟨h.1, fun i v e => by obtain ⟨q, d, t, x, e1, e2, e3⟩ := h.2 i v e; exact ⟨q, d, t, x, e1, e2, hs _ e3⟩⟩
theorem kas_inv {α : Type} {n : Nat} {lt : Nat → Nat → Bool} {cmp : Nat → Nat → (Bool → Shared → Prop) → Shared → Prop} {Q : α → Shared → Prop} {Inv : Shared → Prop}
    (hc : ∀ i j C s, i < n → j < n → Inv s → (∀ s', Inv s' → C (lt i j) s') → cmp i j C s) : ∀ (t : KasT α) (s : Shared), kasOk n t = true → Inv s → (∀ s', Inv s' → Q (kasRun lt t) s') → t.kasWp cmp Q s
  | .ret a, s, _, hi, h => h s hi
  | .ask i j k, s, ok, hi, h => by
    unfold kasOk at ok
    simp only [Bool.and_eq_true, decide_eq_true_eq] at ok
    refine hc i j _ s ok.1.1.1 ok.1.1.2 hi fun s' hi' => kas_inv hc (k (lt i j)) s' ?_ hi' h
    cases lt i j
    · exact ok.2
    · exact ok.1.2
section
variable {w : World} {loose : List Str} {mean : ExcName → Option Value} {mg mb : Str → Option Value} {gd : Option (List Code)} {cn : Str} {cs : Scope} {a : Addr} {ccd : Value} {cl : List (Str × Addr)} {outer : List Env} {A₀ : Around} {base h₀ : Heap} {L kc f kS D : Addr} {m : Str → Option Value} {L0 L1 : List (Addr × Obj)} {cmp : Int → Int → Int}
theorem kat_keysK {Fin : List Value → Nat → Shared → Prop} (B : Below A₀ base outer h₀) (X : (Mine.hd0.heap_1 w.params).In h₀) (BO : Boot w h₀) (T : Top topProg loose mean mg mb h₀) (hk : cs.kind = .function) (hKi : KiC w loose mean mg mb kc L0) :
    ∀ (r : List Value) (mr : List Int) (ks : List Value) (ms : List Int) (e : Nat) (rest : List (Addr × Obj)) (s : Shared), IntsAre r mr → Fr h₀ L s.heap m → News h₀ L s.heap ((kS, seqObj "list" (List.toArray ks) e) :: rest) → (∀ p ∈ rest, p.1 ≠ kS) → (∀ p ∈ L0, p ∈ rest) → KeysAre kc rest ks ms →
      (∀ ks' e' rest' h' tk, Fr h₀ L h' m → News h₀ L h' ((kS, seqObj "list" (List.toArray ks') e') :: rest') → (∀ p ∈ rest', p.1 ≠ kS) → (∀ p ∈ rest, p ∈ rest') → KeysAre kc rest' ks' (ms ++ mr) → Fin ks' e' { s with heap := h', toks := tk }) →
      KatKeys PySem.Challenge.rw_mr0378_01.row.prog w (ktrTop 400 502 gd cn cs L a ccd cl outer) h₀ L m kS (.ref kc) Fin r ks e s
  | [], mr, ks, ms, e, rest, s, hi, F, N, hne, hL, hK, h => by
    cases hi
    exact KatKeys.nil (h ks e rest s.heap s.toks F N hne (fun _ hp => hp) (by simpa using hK))
  | v :: r, mr, ks, ms, e, rest, s, hi, F, N, hne, hL, hK, h => by
    cases hi with
    | cons x t hi =>
    refine KatKeys.cons ?_
    refine wpAny_up (hKi gd cn cs a ccd cl outer A₀ base h₀ L m _ s _ _ (.int x t) ⟨B, F, X, BO, N, T, hk⟩ (fun p hp => .tail _ (hL p hp)) fun q d h' tk F' N' l1 l2 => ?_) (Nat.le_of_ble_eq_true rfl) (Nat.le_of_ble_eq_true rfl)
    have hq : @Ne Nat q kS := Ne.symm (Nat.ne_of_lt (l1 _ (.tail _ (.head _))))
    have hd : @Ne Nat d kS := Ne.symm (Nat.ne_of_lt (l2 _ (.head _)))
    have hne' : ∀ p ∈ (q, instO kc d (.int x t)) :: (d, dictOf [] 0) :: rest, p.1 ≠ kS := fun p hp => by
      rcases List.mem_cons.mp hp with rfl | hp
      · exact hq
      · rcases List.mem_cons.mp hp with rfl | hp
        · exact hd
        · exact hne p hp
    refine KatBack.intro (news := (kS, seqObj "list" (List.toArray ks) e) :: (q, instO kc d (.int x t)) :: (d, dictOf [] 0) :: rest) F' (news_sub N' fun p hp => ?_) (.head hne') fun h'' c F'' N'' => ?_
    · rcases List.mem_cons.mp hp with rfl | hp
      · exact .tail _ (.tail _ (.head _))
      · rcases List.mem_cons.mp hp with rfl | hp
        · exact .head _
        · rcases List.mem_cons.mp hp with rfl | hp
          · exact .tail _ (.head _)
          · exact .tail _ (.tail _ (.tail _ hp))
    · refine kat_keysK B X BO T hk hKi r _ (ks ++ [.ref q]) (ms ++ [x]) c _ { s with heap := h'', toks := tk } hi F'' N'' hne' (fun p hp => .tail _ (.tail _ (hL p hp))) ((hK.sub fun p hp => .tail _ (.tail _ hp)).snoc (.head _)) fun ks' e' rest' h3 tk3 F3 N3 hne3 hs3 hK3 => ?_
      exact h ks' e' rest' h3 tk3 F3 N3 hne3 (fun p hp => hs3 p (.tail _ (.tail _ hp))) (by simpa using hK3)
theorem n_sortKey {vs : List Value} {ms : List Int} {n : Nat} {l : Addr} {news : List (Addr × Obj)} {s : Shared} {Q E : Value → Shared → Prop} (HH : Here w loose mean mg mb cs outer A₀ base h₀ L m news s.heap) (hi : IntsAre vs ms) (hb : ∀ x ∈ ms, 0 ≤ x ∧ x ≤ 6) (h2 : 2 ≤ vs.length) (h4 : vs.length ≤ 4) (hl : (l, PySem.W.listOf vs.toArray n) ∈ news)
    (hL0 : ∀ p ∈ L0, p ∈ news) (hKi : KiC w loose mean mg mb kc L0) (hKl : KltC w loose mean mg mb kc f L0) (hC : CmpC w loose mean mg mb f L1 cmp) (hL1 : ∀ p ∈ L1, p ∈ news) (hfn : ∃ oc od fd sl, (f, (⟨oc, od, .func fd, sl⟩ : Obj)) ∈ L1)
    (h : ∀ D n' h' tk, Fr h₀ L h' m → News h₀ L h' ((D, PySem.W.listOf (sortV 0 (fun a b => decide (cmp a b < 0)) ms vs).toArray n') :: news) → (∀ p ∈ news, p.1 ≠ D) → Q (.ref D) { s with heap := h', toks := tk }) :
    wpAny (model PySem.Challenge.rw_mr0378_01.row.prog w) (ktrTop 400 500 gd cn cs L a ccd cl outer) (call (.builtin "sorted") [.ref l] [(Str.ofString "key", .ref kc)]) Q E s := by
  obtain ⟨B, F, X, BO, N, T, hk⟩ := HH
  refine kat_sortedK (vs := vs) F N ⟨_, N.get hl, rfl, n, rfl⟩ h2 (by omega) (ksk_s1 _ _) (fun x => ksk_l1 _ _) (fun x => ksk_t1 kc x) fun D kS e1 h1 F1 N1 l0 l1 => ?_
  have hneD : ∀ p ∈ news, p.1 ≠ D := fun p hp => Nat.ne_of_lt (l1 p hp)
  have hneK : ∀ p ∈ (D, seqObj "list" #[] e1) :: news, p.1 ≠ kS := fun p hp => by
    rcases List.mem_cons.mp hp with rfl | hp
    · exact Nat.ne_of_lt l0
    · exact Nat.ne_of_lt (Nat.lt_trans (l1 p hp) l0)
  refine kat_keysK B X BO T hk hKi vs ms [] [] 0 ((D, seqObj "list" #[] e1) :: news) { s with heap := h1 } hi F1 N1 hneK (fun p hp => .tail _ (hL0 p hp)) ⟨rfl, fun i v e => by simp at e⟩ fun ks e rest h2' tk2 F2 N2 hne2 hs2 hK2 => ?_
  rw [List.nil_append] at hK2
  have hlk : ks.length = vs.length := hK2.1.trans hi.length.symm
  have at_ : ∀ i, i < vs.length → ∃ q d t, ks.getD i Value.none = .ref q ∧ (q, instO kc d (.int (ms.getD i 0) t)) ∈ rest := fun i hlt => by
    have hlt' : i < ks.length := hlk ▸ hlt
    obtain ⟨q, d, t, x, e1, e2, e3⟩ := hK2.2 i _ (List.getElem?_eq_getElem hlt')
    refine ⟨q, d, t, by rw [List.getD_eq_getElem?_getD, List.getElem?_eq_getElem hlt']; exact e1, ?_⟩
    rw [List.getD_eq_getElem?_getD, e2]; exact e3
  have bd : ∀ i, i < vs.length → 0 ≤ ms.getD i 0 ∧ ms.getD i 0 ≤ 6 := fun i hlt => by
    have hlt' : i < ms.length := hi.length ▸ hlt
    rw [List.getD_eq_getElem?_getD, List.getElem?_eq_getElem hlt']
    exact hb _ (List.getElem_mem hlt')
  refine kas_kind (T := .ref kc) (by omega) (fun v hv => ?_) (by rfl) (by simp) ?_
  · obtain ⟨i, hlt, rfl⟩ := List.mem_iff_getElem.mp hv
    obtain ⟨q, d, t, e2, e3⟩ := at_ i (hlk ▸ hlt)
    rw [List.getD_eq_getElem?_getD, List.getElem?_eq_getElem hlt] at e2
    dsimp only [Option.getD_some] at e2
    rw [e2]
    exact (Looks.ld (part := none) (N2 _ (.tail _ e3)).1).andThen .now
  · refine kas_inv (n := vs.length) (lt := fun i j => decide (cmp (ms.getD i 0) (ms.getD j 0) < 0)) (Inv := fun s' => ∃ h9 tk9, s' = { s with heap := h9, toks := tk9 } ∧ Fr h₀ L h9 m ∧ News h₀ L h9 ((kS, seqObj "list" (List.toArray ks) e) :: rest))
      (fun i j C s' hi hj hs hC' => ?_) _ _ (kas_ok _ h4) ⟨_, _, rfl, F2, N2⟩ fun s' hs => ?_
    · obtain ⟨h9, tk9, rfl, F9, N9⟩ := hs
      obtain ⟨q, d, t, e2, e3⟩ := at_ i hi
      obtain ⟨q', d', t', e2', e3'⟩ := at_ j hj
      unfold kas_ask
      show wpAny _ _ (keyLt' oneType' (ks.getD i Value.none) (ks.getD j Value.none)) _ _ _
      rw [e2, e2']
      refine wpAny_up (hKl gd cn cs a ccd cl outer A₀ base h₀ L m _ { s with heap := h9, toks := tk9 } _ _ q q' d d' _ _ _ _ L1 cmp ⟨B, F9, X, BO, N9, T, hk⟩ (fun p hp => .tail _ (hs2 _ (.tail _ (hL0 p hp)))) hC (fun p hp => .tail _ (hs2 _ (.tail _ (hL1 p hp)))) hfn (bd i hi).1 (bd i hi).2 (bd j hj).1 (bd j hj).2 (.tail _ e3) (.tail _ e3') fun h' tk F' N' => ?_) (Nat.le_of_ble_eq_true rfl) (Nat.le_of_ble_eq_true rfl)
      exact hC' _ ⟨h', tk, rfl, F', N'⟩
    · obtain ⟨h9, tk9, rfl, F9, N9⟩ := hs
      refine KatFin.intro F9 N9 (.head hne2) fun h3 c3 F3 N3 => ?_
      refine KasFin.intro (news := (D, seqObj "list" #[] e1) :: news) F3 (news_sub N3 fun p hp => .tail _ (hs2 p hp)) (.head hneD) fun h4' c4 F4 N4 => ?_
      refine h D c4 h4' _ F4 ?_ hneD
      unfold sortV
      rw [if_neg (by rw [← hi.length]; omega), ← hi.length]
      exact N4
end
end
section --Ss_try
open PySem PySem.W PySem.Spec PySem.Calls PyProof.Rows PySem.W.X
section
variable {prog : Program} {w : World} {A : Around} {E : Value → Shared → Prop} {s : Shared} {h₀ : Heap} {L a : Addr} {m : Str → Option Value} {rest : List (Addr × Obj)} {vs : List Value}
theorem newList_any {news : List (Addr × Obj)} {vs : List Value} {Q : Value → Shared → Prop} {M : Model} (F : Fr h₀ L s.heap m) (N : News h₀ L s.heap news)
    (h : ∀ l h', Fr h₀ L h' m → News h₀ L h' ((l, { cls := .type "list", data := .seq vs.toArray }) :: news) → (∀ p ∈ news, p.1 < l) → Q (.ref l) { s with heap := h' }) (hsz : vs.length ≤ sizeLine) : wpAny M A (newList vs) Q E s :=
  newList_N F N (fun h' F' N' => h _ h' F' N' fun p hp => Heap.lt_size (N p hp).1) hsz
theorem key_short {n : Nat} {f : Value} {P : PySem.Fin → Shared → Prop} (F : Fr h₀ L s.heap m) (N : News h₀ L s.heap ((a, seqObj "list" vs.toArray n) :: rest)) (hne : ∀ p ∈ rest, p.1 ≠ a) (h2 : vs.length < 2)
    (h : ∀ kS e1 h', Fr h₀ L h' m → News h₀ L h' ((kS, seqObj "list" #[] 0) :: (a, seqObj "list" #[] e1) :: rest) → (∀ q ∈ (a, seqObj "list" #[] e1) :: rest, q.1 < kS) →
      KatKeys prog w A h₀ L m kS f (fun ks e s' => KatFin h₀ L m kS a ks e e1 vs (fun s4 => P (.done (.ret .none)) s4) s') vs [] 0 { s with heap := h' }) :
    wpAny (model prog w) A (ksk_tree a f false) P E s := by
  have nz := N (a, seqObj "list" vs.toArray n) (.head _)
  have s1 := Heap.SameBut.update s.heap a (Obj.mapSeq fun _ => (#[] : Array Value))
  obtain ⟨e1, ho1⟩ : ∃ e1, (s.heap.update a (Obj.mapSeq fun _ => (#[] : Array Value))).get? a = some (seqObj "list" #[] e1) := ⟨_, get?_update_seq nz.1 fun _ => #[]⟩
  have F1 : Fr h₀ L (s.heap.update a (Obj.mapSeq fun _ => (#[] : Array Value))) m := kas_fr F s1 nz.2.1 nz.2.2
  have N1 : News h₀ L (s.heap.update a (Obj.mapSeq fun _ => (#[] : Array Value))) ((a, seqObj "list" #[] e1) :: rest) := fun p hp => by
    rcases List.mem_cons.mp hp with rfl | hp
    · exact ⟨ho1, nz.2⟩
    · exact kas_news (fun p hp => N p (.tail _ hp)) s1 hne p hp
  unfold ksk_tree
  refine wpAny_bind (listItems_at nz.1 rfl ?_)
  refine wpAny_bind (listUpdate_at nz.1 rfl ?_ (by rw [List.size_toArray, sizeLine_eq]; omega) (Nat.zero_le _))
  refine wpAny_bind (seqEpoch_at ho1 rfl ?_)
  refine wpAny_bind (wpAny_newTuple ?_ (by show vs.length ≤ _; rw [sizeLine_eq]; omega))
  refine wpAny_bind (newList_any (s := { s with heap := (s.heap.update a (Obj.mapSeq fun _ => (#[] : Array Value))).push { cls := .type "tuple", data := .seq vs.toArray } }) (news := (a, seqObj "list" #[] e1) :: rest) (F1.push _) (N1.grown fun b x e => Heap.get?_push_of_some _ e) (fun kS h' F' N' l1 => ?_) (Nat.zero_le _))
  have KK := h kS e1 h' F' N' l1
  refine wpAny_holding ?_
  unfold ksk_rest
  refine wpAny_bind (wpAny_rule ?_)
  rw [← Array.forIn_toList]
  refine wpAny_bind (wpAny_mono (kat_fold (n := vs.length) (by omega) (fun x ks e s' C hz hx => ?_) vs [] 0 _ (by simp) (N' (kS, _) (.head _)).1 KK) (fun _ s' hd => ?_) fun _ _ x => x)
  · refine wpAny_bind (wpAny_attempt (wpAny_mono hx (fun k s'' hk => ?_) fun _ _ hF => hF.elim))
    obtain ⟨news', g, F', N', U, c⟩ := hk
    obtain ⟨pre, post, e0, hg, x1, x2⟩ := U.split
    rw [e0] at N'
    have nk := N' (kS, seqObj "list" (List.toArray ks) e) (List.mem_append_right _ (.head _))
    have s1 := Heap.SameBut.update s''.heap kS (Obj.mapSeq (·.push k))
    have ea : (List.toArray ks).push k = List.toArray (ks ++ [k]) := by simp
    have hc2 := get?_update_seq nk.1 (·.push k)
    rw [ea] at hc2
    dsimp only
    refine wpAny_bind (listUpdate_at nk.1 rfl ?_ (by rw [List.size_toArray, sizeLine_eq]; omega) (Nat.le_trans (Nat.le_of_eq (Array.size_push ..)) (by rw [List.size_toArray, sizeLine_eq]; omega)))
    exact wpAny_pure ⟨rfl, k, _, hc2, c _ _ (kas_fr F' s1 nk.2.1 nk.2.2) (by rw [hg]; exact news_set N' x1 x2 s1 hc2)⟩
  · obtain ⟨ks, e, hk', hl, fin⟩ := hd
    refine wpAny_bind (listItems_at hk' rfl ?_)
    have hn2 : vs.toArray.size < 2 := by rw [List.size_toArray]; exact h2
    unfold ksk_end
    dsimp only
    rw [if_neg (by decide), if_pos hn2, if_pos hn2]
    refine wpAny_bind (wpAny_pure ?_)
    refine wpAny_bind (wpAny_pure ?_)
    dsimp only
    refine kat_tail (b := false) (out := vs) ?_ (by omega) (by omega) rfl fin
    show ((List.toArray ks).zip vs.toArray).map (·.2) = vs.toArray
    apply Array.toList_inj.mp
    simp [List.map_snd_zip, hl]
end
section
variable {w : World} {loose : List Str} {mean : ExcName → Option Value} {mg mb : Str → Option Value} {gd : Option (List Code)} {cn : Str} {cs : Scope} {a : Addr} {ccd : Value} {cl : List (Str × Addr)} {outer : List Env} {A₀ : Around} {base h₀ : Heap} {L kc f kS D : Addr} {m : Str → Option Value} {L0 L1 : List (Addr × Obj)} {cmp : Int → Int → Int}
theorem n_sortShort {vs : List Value} {ms : List Int} {n : Nat} {l : Addr} {news : List (Addr × Obj)} {s : Shared} {Q E : Value → Shared → Prop} (HH : Here w loose mean mg mb cs outer A₀ base h₀ L m news s.heap) (hi : IntsAre vs ms) (h2 : vs.length < 2) (hl : (l, PySem.W.listOf vs.toArray n) ∈ news)
    (hL0 : ∀ p ∈ L0, p ∈ news) (hKi : KiC w loose mean mg mb kc L0)
    (h : ∀ D n' h' tk, Fr h₀ L h' m → News h₀ L h' ((D, PySem.W.listOf vs.toArray n') :: news) → (∀ p ∈ news, p.1 ≠ D) → Q (.ref D) { s with heap := h', toks := tk }) :
    wpAny (model PySem.Challenge.rw_mr0378_01.row.prog w) (ktrTop 400 500 gd cn cs L a ccd cl outer) (call (.builtin "sorted") [.ref l] [(Str.ofString "key", .ref kc)]) Q E s := by
  obtain ⟨B, F, X, BO, N, T, hk⟩ := HH
  refine call_function_entry_kw kind_sorted plain_sorted entry_sorted (ksk_s1 _ _) ?_
  unfold Builtin.«sorted»
  refine wpAny_bind (m := checkCount "sorted" 1 1 _) (wpAny_pure ?_)
  refine wpAny_bind (collect_list ⟨_, N.get hl, rfl, n, rfl⟩ ?_ (by rw [sizeLine_eq]; omega))
  have keep : ∀ b o, s.heap.get? b = some o → ((s.heap.push (seqObj "list" #[] 0)).update s.heap.objs.size (Obj.mapSeq (· ++ vs.toArray))).get? b = some o := fun b o q => by
    have hlt : b < s.heap.objs.size := Heap.lt_size q
    rw [Heap.get?_update_ne _ _ _ _ (Nat.ne_of_lt hlt), Heap.get?_push_ne _ _ _ (Nat.ne_of_lt hlt)]
    exact q
  refine wpAny_bind (newList_any (news := news) (F.kept keep) (N.grown keep) (fun D h1 F1 N1 l1 => ?_) (by rw [sizeLine_eq]; omega))
  have hneD : ∀ p ∈ news, p.1 ≠ D := fun p hp => Nat.ne_of_lt (l1 p hp)
  refine wpAny_bind (wpAny_holding (wpAny_call_entry_kw slot_list_sort ⟨_, (N1 _ (.head _)).1, rfl⟩ entry_list_sort ?body (ksk_l1 _ _)))
  case body =>
    refine key_short (n := 0) F1 N1 hneD h2 fun kS e1 h2' F2 N2 l2 => ?_
    refine kat_keysK B X BO T hk hKi vs ms [] [] 0 ((D, seqObj "list" #[] e1) :: news) { s with heap := h2' } hi F2 N2 (fun p hp => Nat.ne_of_lt (l2 p hp)) (fun p hp => .tail _ (hL0 p hp)) ⟨rfl, fun i v e => by simp at e⟩ fun ks e rest h3 tk3 F3 N3 hne3 hs3 hK3 => ?_
    refine KatFin.intro F3 N3 (.head hne3) fun h4 c4 F4 N4 => ?_
    refine KasFin.intro (news := (D, seqObj "list" #[] e1) :: news) F4 (news_sub N4 fun p hp => .tail _ (hs3 p hp)) (.head hneD) fun h5 c5 F5 N5 => ?_
    exact ⟨_, rfl, wpAny_pure ⟨_, rfl, h D c5 h5 _ F5 N5 hneD⟩⟩
theorem ints_map {f : Nat → Value} {g : Nat → Int} : ∀ (l : List Nat), (∀ i ∈ l, ∃ t, f i = .int (g i) t) → IntsAre (l.map f) (l.map g)
  | [], _ => .nil
  | i :: l, h => by
    obtain ⟨t, e⟩ := h i (.head _)
    rw [List.map_cons, List.map_cons, e]
    exact .cons _ _ (ints_map l fun j hj => h j (.tail _ hj))
theorem sortV_ints {lt : Int → Int → Bool} {vs : List Value} {ms : List Int} (hi : IntsAre vs ms) (h4 : vs.length ≤ 4) : IntsAre (sortV 0 lt ms vs) (sortP 0 lt ms) := by
  unfold sortV sortP
  split
  · exact hi
  · have hp := kas_perm (hi.length ▸ h4) (lt := fun i j => lt (ms.getD i 0) (ms.getD j 0))
    refine ints_map _ fun i hi' => ?_
    have hlt := hp.2 i hi'
    obtain ⟨t, e⟩ := hi.get i _ (List.getElem?_eq_getElem hlt)
    exact ⟨t, by rw [List.getD_eq_getElem?_getD, e, List.getD_eq_getElem?_getD, List.getElem?_eq_getElem hlt]; rfl⟩
theorem n_sortRow {vs : List Value} {ms : List Int} {n : Nat} {l : Addr} {news : List (Addr × Obj)} {s : Shared} {Q E : Value → Shared → Prop} (HH : Here w loose mean mg mb cs outer A₀ base h₀ L m news s.heap) (hi : IntsAre vs ms) (hb : ∀ x ∈ ms, 0 ≤ x ∧ x ≤ 6) (h4 : vs.length ≤ 4) (hl : (l, PySem.W.listOf vs.toArray n) ∈ news)
    (hL0 : ∀ p ∈ L0, p ∈ news) (hKi : KiC w loose mean mg mb kc L0) (hKl : KltC w loose mean mg mb kc f L0) (hC : CmpC w loose mean mg mb f L1 cmp) (hL1 : ∀ p ∈ L1, p ∈ news) (hfn : ∃ oc od fd sl, (f, (⟨oc, od, .func fd, sl⟩ : Obj)) ∈ L1)
    (h : ∀ D n' h' tk zs, Fr h₀ L h' m → News h₀ L h' ((D, PySem.W.listOf zs.toArray n') :: news) → (∀ p ∈ news, p.1 ≠ D) → IntsAre zs (sortP 0 (fun a b => decide (cmp a b < 0)) ms) → Q (.ref D) { s with heap := h', toks := tk }) :
    wpAny (model PySem.Challenge.rw_mr0378_01.row.prog w) (ktrTop 400 500 gd cn cs L a ccd cl outer) (call (.builtin "sorted") [.ref l] [(Str.ofString "key", .ref kc)]) Q E s := by
  by_cases h2 : vs.length < 2
  · refine n_sortShort HH hi h2 hl hL0 hKi fun D n' h' tk F N hne => h D n' h' tk vs F N hne ?_
    have := sortV_ints (lt := fun a b => decide (cmp a b < 0)) hi h4
    unfold sortV at this
    rw [if_pos (hi.length ▸ h2)] at this
    exact this
  · exact n_sortKey HH hi hb (by omega) h4 hl hL0 hKi hKl hC hL1 hfn fun D n' h' tk F N hne => h D n' h' tk _ F N hne (sortV_ints hi h4)
end
end
section --Pl
open PySem
theorem getD_get {l : List Int} {i : Nat} (h : i < l.length) : l.getD i 0 = l[i] := by rw [List.getD_eq_getElem?_getD, List.getElem?_eq_getElem h]; rfl
theorem idx_iff {ns : List Int} {a : Int} {j : Nat} (nd : ns.Nodup) (hj : j < ns.length) : ns.idxOf? a = some j ↔ a = ns.getD j 0 := by
  constructor
  · intro h
    have := idxOf?_get h
    rw [List.getElem?_eq_getElem hj] at this
    rw [getD_get hj]; exact (Option.some.inj this).symm
  · intro h
    rw [getD_get hj] at h
    cases e : ns.idxOf? a with
    | none => exact absurd (h ▸ List.getElem_mem hj) (List.idxOf?_eq_none_iff.mp e)
    | some k =>
      have hk := idxOf?_lt e
      have := idxOf?_get e
      rw [List.getElem?_eq_getElem hk] at this
      have e2 : ns[k] = ns[j] := by rw [Option.some.inj this, h]
      exact congrArg some ((List.getElem_inj nd).mp e2)
structure Rel (ms ns ms' ns' : List Int) : Prop where
  l1 : ms.length = ms'.length
  l2 : ns.length = ns'.length
  ix : ∀ i, i < ms.length → ns.idxOf? (ms.getD i 0) = ns'.idxOf? (ms'.getD i 0)
  nd : ns.Nodup
  nd' : ns'.Nodup
variable {ms ns ms' ns' : List Int}
theorem Rel.eq (R : Rel ms ns ms' ns') {i j : Nat} (hi : i < ms.length) (hj : j < ns.length) : (ms.getD i 0 = ns.getD j 0) = (ms'.getD i 0 = ns'.getD j 0) := by
  rw [← idx_iff R.nd hj, ← idx_iff R.nd' (R.l2 ▸ hj), R.ix i hi]
theorem fstep_congr {ai ai' blo bhi i : Int} {st : Int × Int × Int × Option (Int × Int)} (h : ns.idxOf? ai = ns'.idxOf? ai') : fstep ns blo bhi i ai st = fstep ns' blo bhi i ai' st := by
  obtain ⟨a, b, c, d⟩ := st
  unfold fstep
  rw [h]
theorem ffold_congr (R : Rel ms ns ms' ns') {alo : Nat} {blo bhi : Int} : ∀ (n : Nat), alo + n ≤ ms.length → ffold ms ns alo blo bhi n = ffold ms' ns' alo blo bhi n
  | 0, _ => rfl
  | n + 1, h => by
    rw [ffold, ffold, ffold_congr R n (by omega)]
    refine fstep_congr (R.ix _ ?_)
    omega
theorem backP_congr (R : Rel ms ns ms' ns') {alo blo ahi bhi : Int} (h0 : 0 ≤ alo) (h1 : 0 ≤ blo) (ha : ahi ≤ ms.length) (hb : bhi ≤ ns.length) : ∀ (n : Nat) (bi bj bs : Int), alo ≤ bi ∧ blo ≤ bj ∧ 0 ≤ bs ∧ bi + bs ≤ ahi ∧ bj + bs ≤ bhi →
    backP ms ns alo blo n (bi, bj, bs) = backP ms' ns' alo blo n (bi, bj, bs)
  | 0, _, _, _, _ => rfl
  | n + 1, bi, bj, bs, h => by
    rw [backP, backP]
    by_cases hc : alo < bi ∧ blo < bj
    · have e := R.eq (i := (bi - 1).toNat) (j := (bj - 1).toNat) (by omega) (by omega)
      simp only [hc.1, hc.2, true_and, e]
      split
      · exact backP_congr R h0 h1 ha hb n _ _ _ (by omega)
      · rfl
    · rw [if_neg (fun q => hc ⟨q.1, q.2.1⟩), if_neg (fun q => hc ⟨q.1, q.2.1⟩)]
theorem fwdP_congr (R : Rel ms ns ms' ns') {alo blo ahi bhi : Int} (h0 : 0 ≤ alo) (h1 : 0 ≤ blo) (ha : ahi ≤ ms.length) (hb : bhi ≤ ns.length) : ∀ (n : Nat) (bi bj bs : Int), alo ≤ bi ∧ blo ≤ bj ∧ 0 ≤ bs ∧ bi + bs ≤ ahi ∧ bj + bs ≤ bhi →
    fwdP ms ns ahi bhi n (bi, bj, bs) = fwdP ms' ns' ahi bhi n (bi, bj, bs)
  | 0, _, _, _, _ => rfl
  | n + 1, bi, bj, bs, h => by
    rw [fwdP, fwdP]
    by_cases hc : bi + bs < ahi ∧ bj + bs < bhi
    · have e := R.eq (i := (bi + bs).toNat) (j := (bj + bs).toNat) (by omega) (by omega)
      simp only [hc.1, hc.2, true_and, e]
      split
      · exact fwdP_congr R h0 h1 ha hb n _ _ _ (by omega)
      · rfl
    · rw [if_neg (fun q => hc ⟨q.1, q.2.1⟩), if_neg (fun q => hc ⟨q.1, q.2.1⟩)]
theorem flm_congr (R : Rel ms ns ms' ns') {p : Q4} (hp : p.1 ≤ p.2.1 ∧ p.2.1 ≤ ms.length ∧ p.2.2.1 ≤ p.2.2.2 ∧ p.2.2.2 ≤ ns.length) : flmP ms ns p.1 p.2.1 p.2.2.1 p.2.2.2 = flmP ms' ns' p.1 p.2.1 p.2.2.1 p.2.2.2 := by
  unfold flmP
  rw [← R.l1, ffold_congr R (p.2.1 - p.1) (by omega)]
  generalize hst : ffold ms' ns' (p.1 : Int) (p.2.2.1 : Int) (p.2.2.2 : Int) (p.2.1 - p.1) = st
  obtain ⟨bi, bj, bs, pv⟩ := st
  have h1 := (ffold_bd (ahi := (p.2.1 : Int)) (by omega) (p.2.1 - p.1) bi bj bs pv (by omega) hst.symm).1
  dsimp only
  rw [backP_congr R (ahi := (p.2.1 : Int)) (bhi := (p.2.2.2 : Int)) (by omega) (by omega) (by omega) (by omega) ms.length bi bj bs h1]
  have h2 := backP_bd (ms := ms') (ns := ns') ms.length bi bj bs h1
  generalize backP ms' ns' (p.1 : Int) (p.2.2.1 : Int) ms.length (bi, bj, bs) = b at h2 ⊢
  obtain ⟨c1, c2, c3⟩ := b
  exact fwdP_congr R (alo := (p.1 : Int)) (blo := (p.2.2.1 : Int)) (by omega) (by omega) (by omega) (by omega) ms.length c1 c2 c3 h2
theorem gq_congr (R : Rel ms ns ms' ns') : ∀ (n : Nat) (st : List Q4) (acc : List I3), QOk ms ns st → gq ms ns n st acc = gq ms' ns' n st acc
  | 0, _, _, _ => rfl
  | n + 1, [], _, _ => rfl
  | n + 1, p :: st, acc, h => by
    have hp := h p (.head _)
    have e := flm_congr R hp
    have hb := flm_bd (ms := ms) (ns := ns) (p := p) hp.1 hp.2.2.1
    rw [gq, gq, ← e]
    split
    · exact gq_congr R n st acc h.tail.1
    · rename_i hk
      exact gq_congr R n _ _ (h.next hb hk).1
theorem gmbF_congr (R : Rel ms ns ms' ns') : gmbF ms ns = gmbF ms' ns' := by
  unfold gmbF
  rw [← R.l1, ← R.l2, gq_congr R]
  intro p hp; cases List.mem_singleton.mp hp; exact ⟨Nat.zero_le _, Nat.le_refl _, Nat.zero_le _, Nat.le_refl _⟩
theorem opsF_congr (R : Rel ms ns ms' ns') : opsF ms ns = opsF ms' ns' := by unfold opsF; rw [gmbF_congr R]
theorem second_congr (R : Rel ms ns ms' ns') (n : Nat) : secondP ns ms[n]? = secondP ns' ms'[n]? := by
  by_cases h : n < ms.length
  · have h' : n < ms'.length := R.l1 ▸ h
    have := R.ix n h
    rw [getD_get h, getD_get h'] at this
    rw [List.getElem?_eq_getElem h, List.getElem?_eq_getElem h']
    unfold secondP
    dsimp only
    rw [this]
  · rw [List.getElem?_eq_none (by omega), List.getElem?_eq_none (by rw [← R.l1]; omega)]
    unfold secondP
    dsimp only
    rw [R.l2]
theorem codesT_congr {st : List Op × Int × Int} {pl : Int} {a b : Option Int} (h : secondP ns a = secondP ns' b) (hs : a.isSome = b.isSome) : codesT ns st pl a = codesT ns' st pl b := by
  cases a <;> cases b <;> first | cases hs | skip
  · unfold codesT; rw [h]
  · unfold codesT; rw [h]
theorem codesF_congr (R : Rel ms ns ms' ns') : ∀ n, codesF ms ns n = codesF ms' ns' n
  | 0 => rfl
  | n + 1 => by
    rw [codesF, codesF, codesF_congr R n]
    refine codesT_congr (second_congr R n) ?_
    by_cases h : n < ms.length
    · rw [List.getElem?_eq_getElem h, List.getElem?_eq_getElem (R.l1 ▸ h)]; rfl
    · rw [List.getElem?_eq_none (by omega), List.getElem?_eq_none (by rw [← R.l1]; omega)]
theorem codesP_congr (R : Rel ms ns ms' ns') : codesP ms ns = codesP ms' ns' := by unfold codesP; rw [R.l1, codesF_congr R]
end
section --Pm
open PySem
noncomputable def nsC (lb : Nat) : List Int := (List.range lb).map Int.ofNat
noncomputable def msAt (lb : Nat) : Nat → List (Option Nat) → List Int
  | _, [] => []
  | i, some j :: r => (j : Int) :: msAt lb (i + 1) r
  | i, none :: r => ((lb + i : Nat) : Int) :: msAt lb (i + 1) r
noncomputable def msC (lb : Nat) (ix : List (Option Nat)) : List Int := msAt lb 0 ix
noncomputable def allIx (lb : Nat) : Nat → List (List (Option Nat))
  | 0 => [[]]
  | la + 1 => (allIx lb la).flatMap fun l => (none :: (List.range lb).map some).map fun o => o :: l
noncomputable def incB : List Nat → Bool
  | a :: b :: r => decide (a < b) && incB (b :: r)
  | _ => true
noncomputable def okB (la : Nat) (o : Op) : Bool := decide (0 ≤ o.nums.1) && decide (o.nums.1 ≤ o.nums.2.1) && decide (o.nums.2.1 ≤ (la : Int))
noncomputable def chk (lb : Nat) (ix : List (Option Nat)) : Bool :=
  decide (opsF (msC lb ix) (nsC lb) = codesP (msC lb ix) (nsC lb)) && decide ((opsF (msC lb ix) (nsC lb)).length ≤ 50) && (opsF (msC lb ix) (nsC lb)).all (okB ix.length) &&
    decide (sharedP (nsC ix.length) (opsF (msC lb ix) (nsC lb)) = (nsC ix.length).filter fun i => (ix.getD i.toNat none).isSome)
noncomputable def chkAll (la lb : Nat) : Bool := (allIx lb la).all fun ix => !incB (ix.filterMap id) || chk lb ix
theorem chk_0 : (List.range 5).all (chkAll 0) = true := by decide +kernel
theorem chk_1 : (List.range 5).all (chkAll 1) = true := by decide +kernel
theorem chk_3 : (List.range 5).all (chkAll 3) = true := by decide +kernel
theorem chk_4 : (List.range 5).all (chkAll 4) = true := by decide +kernel
theorem chk_2 : (List.range 5).all (chkAll 2) = true := by decide +kernel
end
section --Pn
open PySem
theorem msAt_len (lb : Nat) : ∀ (ix : List (Option Nat)) (k : Nat), (msAt lb k ix).length = ix.length
  | [], _ => rfl
  | some _ :: r, k => by simp [msAt, msAt_len lb r]
  | none :: r, k => by simp [msAt, msAt_len lb r]
theorem msAt_get (lb : Nat) : ∀ (ix : List (Option Nat)) (k i : Nat) (h : i < ix.length), (msAt lb k ix).getD i 0 = match ix[i] with
    | some j => (j : Int)
    | none => ((lb + (k + i) : Nat) : Int)
  | some j :: r, k, 0, h => rfl
  | none :: r, k, 0, h => rfl
  | some j :: r, k, i + 1, h => by
    have := msAt_get lb r (k + 1) i (by simpa using h)
    have e : k + 1 + i = k + (i + 1) := by omega
    rw [e] at this
    simpa [msAt] using this
  | none :: r, k, i + 1, h => by
    have := msAt_get lb r (k + 1) i (by simpa using h)
    have e : k + 1 + i = k + (i + 1) := by omega
    rw [e] at this
    simpa [msAt] using this
theorem nsC_len (lb : Nat) : (nsC lb).length = lb := by simp [nsC]
theorem nsC_get {lb j : Nat} (h : j < lb) : (nsC lb).getD j 0 = (j : Int) := by
  rw [getD_get (by rw [nsC_len]; exact h)]
  simp [nsC]
theorem nsC_nd (lb : Nat) : (nsC lb).Nodup := by
  unfold nsC
  exact List.Pairwise.map _ (fun a b h e => h (Int.ofNat.inj e)) List.nodup_range
noncomputable def ixOf (ms ns : List Int) : List (Option Nat) := ms.map fun a => ns.idxOf? a
theorem ixOf_len {ms ns : List Int} : (ixOf ms ns).length = ms.length := by simp [ixOf]
theorem rel_canon {ms ns : List Int} (nd : ns.Nodup) : Rel ms ns (msC ns.length (ixOf ms ns)) (nsC ns.length) where
  l1 := by unfold msC; rw [msAt_len, ixOf_len]
  l2 := (nsC_len _).symm
  nd := nd
  nd' := nsC_nd _
  ix := fun i hi => by
    unfold msC
    rw [msAt_get _ _ _ _ (by rw [ixOf_len]; exact hi)]
    have e : (ixOf ms ns)[i]'(by rw [ixOf_len]; exact hi) = ns.idxOf? (ms.getD i 0) := by
      rw [getD_get hi]; simp [ixOf]
    rw [e]
    cases h : ns.idxOf? (ms.getD i 0) with
    | some j =>
      have hj := idxOf?_lt h
      exact ((idx_iff (nsC_nd _) (by rw [nsC_len]; exact hj)).mpr (nsC_get hj).symm).symm
    | none =>
      refine (List.idxOf?_eq_none_iff.mpr fun hm => ?_).symm
      unfold nsC at hm
      obtain ⟨j, hj, ej⟩ := List.mem_map.mp hm
      have := Int.ofNat.inj ej
      have := List.mem_range.mp hj
      omega
theorem mem_allIx {lb : Nat} : ∀ {ix : List (Option Nat)}, (∀ o ∈ ix, ∀ j, o = some j → j < lb) → ix ∈ allIx lb ix.length
  | [], _ => .head _
  | o :: r, h => by
    show o :: r ∈ (allIx lb r.length).flatMap _
    refine List.mem_flatMap.mpr ⟨r, mem_allIx fun o' ho' => h o' (.tail _ ho'), List.mem_map.mpr ⟨o, ?_, rfl⟩⟩
    cases o with
    | none => exact .head _
    | some j => exact .tail _ (List.mem_map.mpr ⟨j, List.mem_range.mpr (h _ (.head _) j rfl), rfl⟩)
theorem and5 {a b c d e : Bool} (ha : a = true) (hb : b = true) (hc : c = true) (hd : d = true) (he : e = true) : (a && (b && (c && (d && (e && true))))) = true := by rw [ha, hb, hc, hd, he]; rfl
theorem chk_of {la lb : Nat} {ix : List (Option Nat)} (ha : la ≤ 4) (hb : lb ≤ 4) (hl : ix.length = la) (hm : ∀ o ∈ ix, ∀ j, o = some j → j < lb) (hi : incB (ix.filterMap id) = true) : chk lb ix = true := by
  have all : (List.range 5).all (fun la => (List.range 5).all (chkAll la)) = true := and5 chk_0 chk_1 chk_2 chk_3 chk_4
  have h1 := List.all_eq_true.mp (List.all_eq_true.mp all la (List.mem_range.mpr (Nat.lt_succ_of_le ha))) lb (List.mem_range.mpr (Nat.lt_succ_of_le hb))
  have h2 := List.all_eq_true.mp h1 ix (hl ▸ mem_allIx hm)
  rw [hi] at h2
  simpa using h2
theorem shared_map {f : Int → Int} {l : List Int} : ∀ (ops : List Op) (acc : List Int), ops.foldl (sharedT (l.map f)) (acc.map f) = (ops.foldl (sharedT l) acc).map f
  | [], _ => rfl
  | o :: r, acc => by
    have e : sharedT (l.map f) (acc.map f) o = (sharedT l acc o).map f := by
      unfold sharedT
      split
      · rw [List.map_append, List.map_take, List.map_drop]
      · rfl
    rw [List.foldl_cons, List.foldl_cons, e]
    exact shared_map r _
theorem within_filter {ms ns : List Int} : ∀ (acc : List Int), ms.foldl (fun l k => if ns.contains k = true then l ++ [k] else l) acc = acc ++ ms.filter (ns.contains ·) := by
  induction ms with
  | nil => intro acc; simp
  | cons a r ih =>
    intro acc
    rw [List.foldl_cons, ih]
    by_cases h : ns.contains a = true
    · rw [if_pos h, List.filter_cons_of_pos h, List.append_assoc]; rfl
    · rw [if_neg h, List.filter_cons_of_neg h]
theorem range_map (ms : List Int) : ms = (nsC ms.length).map fun i => ms.getD i.toNat 0 := by
  apply List.ext_getElem
  · simp [nsC]
  · intro i h1 h2
    simp only [List.getElem_map, nsC, List.getElem_range]
    exact (getD_get h1).symm
theorem plain_ops {ms ns : List Int} (nd : ns.Nodup) (ha : ms.length ≤ 4) (hb : ns.length ≤ 4) (hi : incB ((ixOf ms ns).filterMap id) = true) :
    opsF ms ns = codesP ms ns ∧ OpsOk ms ns ∧ sharedP ms (opsF ms ns) = withinP ms ns := by
  have R := rel_canon (ms := ms) nd
  have hc := chk_of ha hb ixOf_len (fun o ho j e => by
    obtain ⟨a, _, rfl⟩ := List.mem_map.mp ho
    exact idxOf?_lt e) hi
  unfold chk at hc
  simp only [Bool.and_eq_true, decide_eq_true_eq] at hc
  obtain ⟨⟨⟨h1, h2⟩, h3⟩, h4⟩ := hc
  rw [← opsF_congr R] at h1 h2 h3 h4
  rw [← codesP_congr R] at h1
  refine ⟨h1, ⟨h2, fun o ho => ?_⟩, ?_⟩
  · have := List.all_eq_true.mp h3 o ho
    unfold okB at this
    simp only [Bool.and_eq_true, decide_eq_true_eq, ixOf_len] at this
    exact ⟨this.1.1, this.1.2, this.2⟩
  · rw [ixOf_len] at h4
    have e1 : sharedP ms (opsF ms ns) = (sharedP (nsC ms.length) (opsF ms ns)).map fun i => ms.getD i.toNat 0 := by
      have := shared_map (f := fun i => ms.getD i.toNat 0) (l := nsC ms.length) (opsF ms ns) []
      rw [← range_map ms] at this
      exact this
    rw [e1, h4]
    have e2 : withinP ms ns = ms.filter (ns.contains ·) := by unfold withinP; rw [within_filter]; rfl
    rw [e2]
    conv => rhs; rw [range_map ms]
    rw [List.filter_map]
    congr 1
    refine List.filter_congr fun i him => ?_
    unfold nsC at him
    obtain ⟨k, hk, rfl⟩ := List.mem_map.mp him
    have hk := List.mem_range.mp hk
    show ((ixOf ms ns).getD k none).isSome = ns.contains (ms.getD k 0)
    have e : (ixOf ms ns).getD k none = ns.idxOf? (ms.getD k 0) := by
      rw [List.getD_eq_getElem?_getD, List.getElem?_eq_getElem (by rw [ixOf_len]; exact hk), getD_get hk]
      simp [ixOf]
    rw [e]
    by_cases hm : ms.getD k 0 ∈ ns
    · rw [List.contains_iff_mem.mpr hm]
      cases h : ns.idxOf? (ms.getD k 0) with
      | none => exact absurd hm (List.idxOf?_eq_none_iff.mp h)
      | some j => rfl
    · rw [List.idxOf?_eq_none_iff.mpr hm]
      have : ns.contains (ms.getD k 0) = false := by simpa using hm
      rw [this]; rfl
end
section --Po
open PySem
noncomputable def keyP (mult a : Int) : Int := a * mult % 7
noncomputable def ltK (mult a b : Int) : Bool := decide (keyP mult a - keyP mult b < 0)
noncomputable def toldP (mult : Int) (row : List Int) : List Int := sortP 0 (ltK mult) row
noncomputable def lineP (mult : Int) (row : List Int) : List Int := (nsC 7).flatMap fun place => row.filter fun n => n * mult % 7 == place
noncomputable def allL : Nat → List (List Int)
  | 0 => [[]]
  | n + 1 => (allL n).flatMap fun l => (nsC 7).map fun a => a :: l
noncomputable def nodupB : List Int → Bool
  | [] => true
  | a :: r => !r.contains a && nodupB r
noncomputable def incK (mult : Int) : List Int → Bool
  | a :: b :: r => decide (keyP mult a < keyP mult b) && incK mult (b :: r)
  | _ => true
noncomputable def chkRow (mult : Int) (row : List Int) : Bool := !nodupB row || (decide (toldP mult row = lineP mult row) && incK mult (toldP mult row))
theorem row_all : (List.range 5).all (fun n => (allL n).all (chkRow 1)) = true := by decide +kernel
theorem key_inj : ([1, 2, 3, 4, 5, 6] : List Int).all (fun m => (nsC 7).all fun a => (nsC 7).all fun b => !decide (keyP m a = keyP m b) || decide (a = b)) = true := by decide +kernel
theorem key_range {m a : Int} : keyP m a ∈ nsC 7 := by
  have h1 : 0 ≤ keyP m a := Int.emod_nonneg _ (by decide)
  have h2 : keyP m a < 7 := Int.emod_lt_of_pos _ (by decide)
  unfold nsC
  exact List.mem_map.mpr ⟨(keyP m a).toNat, List.mem_range.mpr (by omega), Int.toNat_of_nonneg h1⟩
theorem key_key {m a : Int} : keyP 1 (keyP m a) = keyP m a := by
  unfold keyP; rw [Int.mul_one, Int.emod_emod_of_dvd _ (Int.dvd_refl 7)]
theorem key_zero {m : Int} : keyP m 0 = 0 := by unfold keyP; rw [Int.zero_mul]; rfl
theorem inj_of {m a b : Int} (hm : m ∈ ([1, 2, 3, 4, 5, 6] : List Int)) (ha : a ∈ nsC 7) (hb : b ∈ nsC 7) (h : keyP m a = keyP m b) : a = b := by
  have := List.all_eq_true.mp (List.all_eq_true.mp (List.all_eq_true.mp key_inj m hm) a ha) b hb
  simpa [h] using this
theorem mem_allL : ∀ {l : List Int}, (∀ a ∈ l, a ∈ nsC 7) → l ∈ allL l.length
  | [], _ => .head _
  | a :: r, h => List.mem_flatMap.mpr ⟨r, mem_allL fun b hb => h b (.tail _ hb), List.mem_map.mpr ⟨a, h a (.head _), rfl⟩⟩
theorem nodupB_of : ∀ {l : List Int}, l.Nodup → nodupB l = true
  | [], _ => rfl
  | a :: r, h => by
    have h := List.nodup_cons.mp h
    unfold nodupB
    rw [nodupB_of h.2]
    simpa using h.1
theorem getD_map {m : Int} {row : List Int} (i : Nat) : (row.map (keyP m)).getD i 0 = keyP m (row.getD i 0) := by
  rw [List.getD_eq_getElem?_getD, List.getD_eq_getElem?_getD, List.getElem?_map]
  cases row[i]? with
  | none => exact key_zero.symm
  | some a => rfl
theorem told_map {m : Int} {row : List Int} : (toldP m row).map (keyP m) = toldP 1 (row.map (keyP m)) := by
  unfold toldP sortP
  rw [List.length_map]
  split
  · rfl
  · have e : (fun i j => ltK 1 ((row.map (keyP m)).getD i 0) ((row.map (keyP m)).getD j 0)) = fun i j => ltK m (row.getD i 0) (row.getD j 0) := by
      funext i j
      unfold ltK
      rw [getD_map, getD_map, key_key, key_key]
    rw [e, List.map_map]
    refine List.map_congr_left fun i _ => ?_
    exact (getD_map i).symm
theorem line_map {m : Int} {row : List Int} : (lineP m row).map (keyP m) = lineP 1 (row.map (keyP m)) := by
  unfold lineP
  rw [List.map_flatMap]
  congr 1
  funext place
  rw [List.filter_map]
  congr 1
  refine List.filter_congr fun a _ => ?_
  show (keyP m a == place) = (keyP 1 (keyP m a) == place)
  rw [key_key]
theorem map_inj_mem {m : Int} {row : List Int} (hm : m ∈ ([1, 2, 3, 4, 5, 6] : List Int)) (hr : ∀ a ∈ row, a ∈ nsC 7) : ∀ {l1 l2 : List Int}, (∀ a ∈ l1, a ∈ row) → (∀ a ∈ l2, a ∈ row) → l1.map (keyP m) = l2.map (keyP m) → l1 = l2
  | [], [], _, _, _ => rfl
  | [], _ :: _, _, _, h => by cases h
  | _ :: _, [], _, _, h => by cases h
  | a :: l1, b :: l2, h1, h2, h => by
    rw [List.map_cons, List.map_cons] at h
    obtain ⟨e1, e2⟩ := List.cons.inj h
    rw [inj_of hm (hr a (h1 a (.head _))) (hr b (h2 b (.head _))) e1, map_inj_mem hm hr (fun x hx => h1 x (.tail _ hx)) (fun x hx => h2 x (.tail _ hx)) e2]
theorem told_mem {m : Int} {row : List Int} (h4 : row.length ≤ 4) : ∀ a ∈ toldP m row, a ∈ row := by
  unfold toldP sortP
  split
  · exact fun a h => h
  · intro a h
    obtain ⟨i, hi, rfl⟩ := List.mem_map.mp h
    have := (kas_perm h4).2 i hi
    rw [getD_get this]
    exact List.getElem_mem this
theorem told_len {m : Int} {row : List Int} (h4 : row.length ≤ 4) : (toldP m row).length = row.length := by
  unfold toldP sortP
  split
  · rfl
  · rw [List.length_map, (kas_perm h4).1]
theorem incK_map {m : Int} : ∀ {l : List Int}, incK 1 (l.map (keyP m)) = incK m l
  | [] => rfl
  | [_] => rfl
  | a :: b :: r => by
    show (decide (keyP 1 (keyP m a) < keyP 1 (keyP m b)) && incK 1 ((b :: r).map (keyP m))) = (decide (keyP m a < keyP m b) && incK m (b :: r))
    rw [key_key, key_key, incK_map]
theorem plain_row {m : Int} {row : List Int} (hm : m ∈ ([1, 2, 3, 4, 5, 6] : List Int)) (hr : ∀ a ∈ row, a ∈ nsC 7) (nd : row.Nodup) (h4 : row.length ≤ 4) : toldP m row = lineP m row ∧ incK m (toldP m row) = true := by
  have hin : ∀ a ∈ row.map (keyP m), a ∈ nsC 7 := fun a h => by
    obtain ⟨b, _, rfl⟩ := List.mem_map.mp h
    exact key_range
  have hnd : (row.map (keyP m)).Nodup := by
    refine (List.pairwise_map.mpr ?_)
    exact List.Pairwise.imp_of_mem (fun {a b} ha hb hne e => hne (inj_of hm (hr a ha) (hr b hb) e)) nd
  have hc := List.all_eq_true.mp (List.all_eq_true.mp row_all row.length (List.mem_range.mpr (by omega))) (row.map (keyP m)) (by have := mem_allL hin; rw [List.length_map] at this; exact this)
  unfold chkRow at hc
  rw [nodupB_of hnd] at hc
  simp only [Bool.not_true, Bool.false_or, Bool.and_eq_true, decide_eq_true_eq] at hc
  refine ⟨map_inj_mem hm hr (told_mem h4) (fun a h => ?_) (by rw [told_map, line_map]; exact hc.1), ?_⟩
  · unfold lineP at h
    obtain ⟨p, _, h⟩ := List.mem_flatMap.mp h
    exact (List.mem_filter.mp h).1
  · rw [← incK_map, told_map]; exact hc.2
theorem incK_pair {m : Int} : ∀ {l : List Int}, incK m l = true → l.Pairwise fun a b => keyP m a < keyP m b
  | [], _ => .nil
  | [_], _ => .cons (fun _ h => nomatch h) .nil
  | a :: b :: r, h => by
    have h' : decide (keyP m a < keyP m b) = true ∧ incK m (b :: r) = true := by simpa [incK] using h
    have ih := incK_pair h'.2
    have hab := of_decide_eq_true h'.1
    refine .cons (fun c hc => ?_) ih
    rcases List.mem_cons.mp hc with rfl | hc
    · exact hab
    · exact Int.lt_trans hab ((List.pairwise_cons.mp ih).1 c hc)
theorem incB_of : ∀ {l : List Nat}, l.Pairwise (· < ·) → incB l = true
  | [], _ => rfl
  | [_], _ => rfl
  | a :: b :: r, h => by
    have h := List.pairwise_cons.mp h
    show (decide (a < b) && incB (b :: r)) = true
    rw [incB_of h.2, decide_eq_true (h.1 b (.head _))]; rfl
theorem inc_ix {m : Int} {ms ns : List Int} (h1 : ms.Pairwise fun a b => keyP m a < keyP m b) (h2 : ns.Pairwise fun a b => keyP m a < keyP m b) : incB ((ixOf ms ns).filterMap id) = true := by
  refine incB_of ?_
  unfold ixOf
  rw [List.filterMap_map]
  refine List.Pairwise.filterMap _ (fun {a a'} hlt b hb b' hb' => ?_) h1
  have hb : ns.idxOf? a = some b := by simpa using hb
  have hb' : ns.idxOf? a' = some b' := by simpa using hb'
  have e := idxOf?_get hb
  have e' := idxOf?_get hb'
  obtain ⟨l, e⟩ := List.getElem?_eq_some_iff.mp e
  obtain ⟨l', e'⟩ := List.getElem?_eq_some_iff.mp e'
  rcases Nat.lt_trichotomy b b' with h | h | h
  · exact h
  · subst h
    rw [← e, ← e'] at hlt
    exact absurd hlt (Int.lt_irrefl _)
  · have := List.pairwise_iff_getElem.mp h2 b' b l' l h
    rw [e, e'] at this
    exact absurd (Int.lt_trans hlt this) (Int.lt_irrefl _)
end
section --Pq
open PySem
noncomputable def Row3 (ms ns ps : List Int) : Prop := opsF ms ns = codesP ms ns ∧ OpsOk ms ns ∧ sharedP ms (opsF ms ns) = withinP ms ns ∧ OpsOk (withinP ms ns) ps ∧ sharedP (withinP ms ns) (opsF (withinP ms ns) ps) = withinP (withinP ms ns) ps ∧ (withinP ms ns).length ≤ 4 ∧ ns.Nodup ∧ ps.Nodup
noncomputable def RowOk (n : Nat) (l : List Int) : Prop := l.Nodup ∧ (∀ x ∈ l, 0 ≤ x ∧ x ≤ 6) ∧ l.length ≤ n
theorem addP_ok {n : Nat} {l : List Int} {x : Int} (h : RowOk n l) : RowOk (n + 1) (addP l (x % 7)) := by
  obtain ⟨h1, h2, h3⟩ := h
  unfold addP
  split
  · exact ⟨h1, h2, by omega⟩
  · rename_i hc
    refine ⟨List.nodup_append.mpr ⟨h1, List.nodup_cons.mpr ⟨fun h => (nomatch h), .nil⟩, fun a ha b hb e => ?_⟩, fun y hy => ?_, by rw [List.length_append]; simp only [List.length_cons, List.length_nil]; omega⟩
    · rw [List.mem_singleton.mp hb] at e
      rw [e] at ha
      exact hc (List.contains_iff_mem.mpr ha)
    · rcases List.mem_append.mp hy with hy | hy
      · exact h2 y hy
      · rw [List.mem_singleton.mp hy]
        have a := Int.emod_nonneg x (by decide : (7 : Int) ≠ 0)
        have b := Int.emod_lt_of_pos x (by decide : (0 : Int) < 7)
        omega
theorem RowOk.mono {n k : Nat} {l : List Int} (h : RowOk n l) (hk : n ≤ k) : RowOk k l := ⟨h.1, h.2.1, Nat.le_trans h.2.2 hk⟩
theorem rowsF_ok (ks : List Int) : ∀ n, RowOk ((n + 2) / 3) (rowsF ks n).1 ∧ RowOk ((n + 1) / 3) (rowsF ks n).2.1 ∧ RowOk (n / 3) (rowsF ks n).2.2
  | 0 => ⟨⟨.nil, fun _ h => (nomatch h), Nat.zero_le _⟩, ⟨.nil, fun _ h => (nomatch h), Nat.zero_le _⟩, ⟨.nil, fun _ h => (nomatch h), Nat.zero_le _⟩⟩
  | n + 1 => by
    obtain ⟨a, b, c⟩ := rowsF_ok ks n
    show RowOk _ (rowsT (rowsF ks n) n _).1 ∧ RowOk _ (rowsT (rowsF ks n) n _).2.1 ∧ RowOk _ (rowsT (rowsF ks n) n _).2.2
    unfold rowsT
    split
    · exact ⟨(addP_ok a).mono (by omega), b.mono (by omega), c.mono (by omega)⟩
    · split
      · exact ⟨a.mono (by omega), (addP_ok b).mono (by omega), c.mono (by omega)⟩
      · exact ⟨a.mono (by omega), b.mono (by omega), (addP_ok c).mono (by omega)⟩
theorem in_nsC {l : List Int} (h : ∀ x ∈ l, 0 ≤ x ∧ x ≤ 6) : ∀ a ∈ l, a ∈ nsC 7 := fun a ha => by
  have := h a ha
  unfold nsC
  exact List.mem_map.mpr ⟨a.toNat, List.mem_range.mpr (by omega), Int.toNat_of_nonneg this.1⟩
theorem mult_mem {mv : Int} (h1 : 1 ≤ mv) (h6 : mv ≤ 6) : mv ∈ ([1, 2, 3, 4, 5, 6] : List Int) := by
  have H : ∀ n : _root_.Fin 7, 1 ≤ (n.val : Int) → (n.val : Int) ∈ ([1, 2, 3, 4, 5, 6] : List Int) := by decide
  obtain ⟨n, rfl⟩ := Int.eq_ofNat_of_zero_le (Int.le_trans (by decide) h1)
  exact H ⟨n, Nat.lt_succ_of_le (Int.ofNat_le.mp h6)⟩ h1
structure LineOk (mv : Int) (l : List Int) : Prop where
  up : l.Pairwise fun a b => keyP mv a < keyP mv b
  len : l.length ≤ 4
theorem LineOk.nd {mv : Int} {l : List Int} (h : LineOk mv l) : l.Nodup := h.up.imp fun {a b} hlt e => by rw [e] at hlt; exact Int.lt_irrefl _ hlt
theorem line_ok {mv : Int} {m : List Int} (h1 : 1 ≤ mv) (h6 : mv ≤ 6) (h : RowOk 4 m) : LineOk mv (lineP mv m) ∧ toldP mv m = lineP mv m := by
  obtain ⟨e, hi⟩ := plain_row (mult_mem h1 h6) (in_nsC h.2.1) h.1 h.2.2
  refine ⟨⟨?_, ?_⟩, e⟩
  · rw [← e]; exact incK_pair hi
  · rw [← e, told_len h.2.2]; exact h.2.2
theorem within_fold {ns : List Int} : ∀ (ms l : List Int), ms.foldl (fun l k => if ns.contains k = true then l ++ [k] else l) l = l ++ ms.filter fun k => ns.contains k
  | [], l => (List.append_nil l).symm
  | a :: r, l => by
    rw [List.foldl_cons, within_fold r, List.filter_cons]
    split <;> simp
theorem LineOk.within {mv : Int} {l k : List Int} (h : LineOk mv l) : LineOk mv (withinP l k) := by
  rw [show withinP l k = l.filter fun x => k.contains x from (within_fold l []).trans (List.nil_append _)]
  exact ⟨h.up.filter _, Nat.le_trans (List.length_filter_le _ _) h.len⟩
theorem row3_of {mv : Int} {c0 c1 c2 : List Int} (h0 : LineOk mv c0) (h1 : LineOk mv c1) (h2 : LineOk mv c2) : Row3 c0 c1 c2 := by
  obtain ⟨a, b, c⟩ := plain_ops h1.nd h0.len h1.len (inc_ix h0.up h1.up)
  obtain ⟨_, b', c'⟩ := plain_ops h2.nd h0.within.len h2.len (inc_ix (h0.within (k := c1)).up h2.up)
  exact ⟨a, b, c, b', c', h0.within.len, h1.nd, h2.nd⟩
theorem told_is {mv : Int} {m : List Int} : sortP 0 (fun a b => decide (a * mv % 7 - b * mv % 7 < 0)) m = toldP mv m := rfl
end
section --Ly
open PySem PySem.W PySem.Spec PySem.Calls PyProof.Rows PySem.SeqAt
noncomputable def opPy (o : Op) : PyData := .tuple [.str o.tag, .int o.nums.1, .int o.nums.2.1, .int o.nums.2.2.1, .int o.nums.2.2.2]
theorem reads_op {h₀ h : Heap} {L T : Addr} {news : List (Addr × Obj)} {o : Op} {t : Tok × Tok × Tok × Tok × Tok} (N : News h₀ L h news) (hm : (T, opO o t) ∈ news) : Reads h (.ref T) (opPy o) [] := by
  refine Reads.tuple (N _ hm).1 rfl rfl ?_
  exact ReadsAll.cons (Reads.str _ _) (ReadsAll.cons (Reads.int _ _) (ReadsAll.cons (Reads.int _ _) (ReadsAll.cons (Reads.int _ _) (ReadsAll.cons (Reads.int _ _) .nil))))
theorem reads_opsL {h₀ h : Heap} {L : Addr} {news : List (Addr × Obj)} (N : News h₀ L h news) : ∀ (vs : List Value) (os : List Op), OpsAre news vs os → ReadsAll h vs (os.map opPy) []
  | [], [], _ => .nil
  | [], _ :: _, H => by have := H.1; simp at this
  | _ :: _, [], H => by have := H.1; simp at this
  | v :: vs, o :: os, H => by
    obtain ⟨T, t, o', rfl, ho, hm⟩ := H.2 0 v rfl
    cases (Option.some.inj ho)
    refine ReadsAll.cons (as := []) (bs := []) (reads_op N hm) (reads_opsL N vs os ⟨by have := H.1; simpa using this, fun i v e => ?_⟩)
    exact H.2 (i + 1) v (by simpa using e)
theorem tag_ok (o : Op) : PyData.strOk o.tag = true := by
  cases o
  · show PyData.strOk (Str.ofString "replace") = true; decide +kernel
  · show PyData.strOk (Str.ofString "delete") = true; decide +kernel
  · show PyData.strOk (Str.ofString "insert") = true; decide +kernel
  · show PyData.strOk (Str.ofString "equal") = true; decide +kernel
theorem canLay_ops : ∀ os : List Op, PyData.canLayAll0 (os.map opPy) = true
  | [] => by simp [PyData.canLayAll0]
  | n :: r => by simp [PyData.canLayAll0, PyData.canLay0, canLay_ops r, opPy, tag_ok]
theorem depth_ops : ∀ os : List Op, PyData.depthAll (os.map opPy) ≤ 3
  | [] => Nat.zero_le _
  | _ :: r => Nat.max_le.mpr ⟨Nat.le_of_ble_eq_true rfl, depth_ops r⟩
theorem shaped_ops (os : List Op) : shaped (.list (os.map opPy)) = true := by
  have h1 := depth_ops os
  have h2 : PyData.depth (.list (os.map opPy)) ≤ 64 := by simp only [PyData.depth]; omega
  show (PyData.canLay0 (.list (os.map opPy)) && decide (PyData.depth (.list (os.map opPy)) ≤ 64)) = true
  rw [Bool.and_eq_true]
  exact ⟨by simp only [PyData.canLay0]; exact canLay_ops os, decide_eq_true h2⟩
theorem noMix_ops : ∀ os : List Op, noMixAll (os.map opPy) (os.map opPy) = true
  | [] => by simp [noMixAll]
  | _ :: r => by simp [noMixAll, noMix, noMix_ops r, opPy]
theorem same_ops : ∀ os : List Op, PySem.Spec.sameAll (os.map opPy) (os.map opPy) = true
  | [] => by simp [PySem.Spec.sameAll]
  | _ :: r => by simp [PySem.Spec.sameAll, PySem.Spec.same, same_ops r, opPy]
section
variable {prog : Program} {w : World} {A : Around} {E : Value → Shared → Prop} {s : Shared} {h₀ : Heap} {L : Addr} {news : List (Addr × Obj)}
theorem n_nops {a b : Addr} {vs us : List Value} {na nb : Nat} {os : List Op} {Q : Value → Shared → Prop} (N : News h₀ L s.heap news) (hl : (a, PySem.W.listOf vs.toArray na) ∈ news) (hi : OpsAre news vs os) (hl' : (b, PySem.W.listOf us.toArray nb) ∈ news) (hi' : OpsAre news us os) (hu : A.units + 64 < cLine)
    (h : Q (.bool false) s) : wpAny (model prog w) A (compareOp .NotEq (.ref a) (.ref b)) Q E s := by
  refine ne_dataH_same (Reads.list (N _ hl).1 rfl rfl (reads_opsL N _ _ hi)) (Reads.list (N _ hl').1 rfl rfl (reads_opsL N _ _ hi')) (shaped_ops os) (shaped_ops os) hu (by simp only [noMix]; exact noMix_ops os) ?_
  simp only [PySem.Spec.same]; rw [same_ops]; exact h
end
inductive LsAre (news : List (Addr × Obj)) : List Value → List (List Int) → Prop
  | nil : LsAre news [] []
  | cons {a : Addr} {zs : List Value} {n : Nat} {ms : List Int} {vs : List Value} {mss : List (List Int)} : (a, PySem.W.listOf zs.toArray n) ∈ news → IntsAre zs ms → LsAre news vs mss → LsAre news (.ref a :: vs) (ms :: mss)
theorem LsAre.inv {news : List (Addr × Obj)} {vs : List Value} {ms : List Int} {mss : List (List Int)} : LsAre news vs (ms :: mss) → ∃ (a : Addr) (zs : List Value) (n : Nat) (vs2 : List Value), vs = .ref a :: vs2 ∧ (a, PySem.W.listOf zs.toArray n) ∈ news ∧ IntsAre zs ms ∧ LsAre news vs2 mss
  | .cons (a := a) (zs := zs) (n := n) h1 h2 h3 => ⟨a, zs, n, _, rfl, h1, h2, h3⟩
theorem LsAre.inv0 {news : List (Addr × Obj)} {vs : List Value} : LsAre news vs [] → vs = []
  | .nil => rfl
theorem LsAre.sub {n1 n2 : List (Addr × Obj)} {vs : List Value} {mss : List (List Int)} (H : LsAre n1 vs mss) (h : ∀ p ∈ n1, p ∈ n2) : LsAre n2 vs mss := by
  induction H with
  | nil => exact .nil
  | cons a b _ ih => exact .cons (h _ a) b ih
theorem LsAre.snoc {news : List (Addr × Obj)} {a : Addr} {zs : List Value} {n : Nat} {ms : List Int} (hm : (a, PySem.W.listOf zs.toArray n) ∈ news) (hi : IntsAre zs ms) {vs : List Value} {mss : List (List Int)} (H : LsAre news vs mss) : LsAre news (vs ++ [.ref a]) (mss ++ [ms]) := by
  induction H with
  | nil => exact .cons hm hi .nil
  | cons a b _ ih => exact .cons a b ih
theorem LsAre.but {h₀ h : Heap} {L I : Addr} {o : Obj} {n : List (Addr × Obj)} (N : News h₀ L h n) (hI : (I, o) ∈ n) (hc : o.cls = .type "list_iterator") {vs : List Value} {mss : List (List Int)} (H : LsAre n vs mss) : LsAre (but I n) vs mss := by
  induction H with
  | nil => exact .nil
  | cons a b _ ih => exact .cons (but_mem a (news_ne N a hI (by rw [hc]; show Value.type "list" ≠ Value.type "list_iterator"; decide))) b ih
noncomputable def lsPy (ms : List Int) : PyData := .list (ms.map PyData.int)
theorem reads_lsL {h₀ h : Heap} {L : Addr} {news : List (Addr × Obj)} (N : News h₀ L h news) {vs : List Value} {mss : List (List Int)} (H : LsAre news vs mss) : ∃ as, ReadsAll h vs (mss.map lsPy) as := by
  induction H with
  | nil => exact ⟨_, .nil⟩
  | cons hm hi _ ih =>
    obtain ⟨as, ha⟩ := ih
    exact ⟨_, ReadsAll.cons (reads_of_ints ⟨_, (N _ hm).1, rfl, _, rfl⟩ hi) ha⟩
theorem canLay_ls : ∀ os : List (List Int), PyData.canLayAll0 (os.map lsPy) = true
  | [] => by simp [PyData.canLayAll0]
  | n :: r => by simp [PyData.canLayAll0, PyData.canLay0, canLay_ls r, lsPy, canLayAll0_ints]
theorem depth_ls : ∀ os : List (List Int), PyData.depthAll (os.map lsPy) ≤ 3
  | [] => Nat.zero_le _
  | n :: r => Nat.max_le.mpr ⟨Nat.le_trans (Nat.add_le_add_right (PySem.W.depthAll_ints n) 1) (Nat.le_of_ble_eq_true rfl), depth_ls r⟩
theorem shaped_ls (os : List (List Int)) : shaped (.list (os.map lsPy)) = true := by
  have h1 := depth_ls os
  have h2 : PyData.depth (.list (os.map lsPy)) ≤ 64 := by simp only [PyData.depth]; omega
  show (PyData.canLay0 (.list (os.map lsPy)) && decide (PyData.depth (.list (os.map lsPy)) ≤ 64)) = true
  rw [Bool.and_eq_true]
  exact ⟨by simp only [PyData.canLay0]; exact canLay_ls os, decide_eq_true h2⟩
theorem noMix_ls : ∀ os : List (List Int), noMixAll (os.map lsPy) (os.map lsPy) = true
  | [] => by simp [noMixAll]
  | a :: r => by simp [noMixAll, noMix, noMix_ls r, lsPy, noMix_ints]
theorem same_ls : ∀ os : List (List Int), PySem.Spec.sameAll (os.map lsPy) (os.map lsPy) = true
  | [] => by simp [PySem.Spec.sameAll]
  | _ :: r => by simp [PySem.Spec.sameAll, PySem.Spec.same, same_ls r, lsPy, same_ints]
section
variable {prog : Program} {w : World} {A : Around} {E : Value → Shared → Prop} {s : Shared} {h₀ : Heap} {L : Addr} {news : List (Addr × Obj)}
theorem n_nls {a b : Addr} {vs us : List Value} {na nb : Nat} {os : List (List Int)} {Q : Value → Shared → Prop} (N : News h₀ L s.heap news) (hl : (a, PySem.W.listOf vs.toArray na) ∈ news) (hi : LsAre news vs os) (hl' : (b, PySem.W.listOf us.toArray nb) ∈ news) (hi' : LsAre news us os) (hu : A.units + 64 < cLine)
    (h : Q (.bool false) s) : wpAny (model prog w) A (compareOp .NotEq (.ref a) (.ref b)) Q E s := by
  obtain ⟨as, h1⟩ := reads_lsL N hi
  obtain ⟨bs, h2⟩ := reads_lsL N hi'
  refine ne_dataH_same (Reads.list (N _ hl).1 rfl rfl h1) (Reads.list (N _ hl').1 rfl rfl h2) (shaped_ls os) (shaped_ls os) hu (by simp only [noMix]; exact noMix_ls os) ?_
  simp only [PySem.Spec.same]; rw [same_ls]; exact h
end
end
section --B4
local macro_rules | `(tactic| walk_at "PS") => `(tactic| k_extra "wde850")
local macro_rules | `(tactic| k_gentoks) => `(tactic| k_extra "wc12c1")
local macro_rules | `(tactic| kst_same) => `(tactic| k_extra "w04242")
set_option hygiene false in
local macro_rules | `(tactic| k_lt $h:ident) => `(tactic| ((try (have hT9 := $h; k_extra "w90843")); replace $h := allLt_of $h; simp only [AllLt, and_true] at $h:ident))
local macro_rules | `(tactic| k_all) => `(tactic| k_extra "w7203b")
noncomputable abbrev objT {h₀ h : Heap} {L a : Addr} {o : Obj} {p q : Addr × Obj} {l : List (Addr × Obj)} (_ : News h₀ L h (p :: q :: (a, o) :: l)) : Obj := o
theorem turn4 {w : World} {loose : List Str} {mean : ExcName → Option Value} {mg mb : Str → Option Value} :
  ∀ (gd : Option (List Code)) (a : Addr) (outer : List Env) (A₀ : Around) (base h₀ : Heap) (L ck cr cm : Addr) (m : Str → Option Value) (news : List (Addr × Obj)) (s : Shared)
    (Q : Flow → Shared → Prop) (cc S e0 e1 e2 w1 w2 : Addr) (x y z z1 z2 : List Value) (nS nx ny nz n1 n2 : Nat) (ms ns ps a1 : List Int),
    Below A₀ base outer h₀ → Fr h₀ L s.heap (fun y => if y = Str.ofString "steps" then some (.ref S) else if y = Str.ofString "last" then some (.ref e2) else if y = Str.ofString "other" then some (.ref e1) else if y = Str.ofString "one" then some (.ref e0) else m y) → (Mine.hd0.heap_1 w.params).In h₀ → Boot w h₀ → News h₀ L s.heap ((283, tabObj #[rawInt 547, rawInt 21, .ref cc]) :: (S, PySem.W.listOf #[.ref e0, .ref w1, .ref w2] nS) :: (w1, PySem.W.listOf z1.toArray n1) :: (w2, PySem.W.listOf z2.toArray n2) :: (e0, PySem.W.listOf x.toArray nx) :: (e1, PySem.W.listOf y.toArray ny) :: (e2, PySem.W.listOf z.toArray nz) :: news) → Top topProg loose mean mg mb h₀ →
    CodeHd h₀ 285 283 → SmC w → GocC w → IntsAre x ms → IntsAre y ns → IntsAre z ps → ms.length ≤ 4 → ns.length ≤ 4 → ps.length ≤ 4 → ns.Nodup → ps.Nodup → (∀ p ∈ news, @Ne Nat p.1 283) → IntsAre z1 a1 → IntsAre z2 (withinP a1 ps) → sharedP ms (opsF ms ns) = a1 → sharedP a1 (opsF a1 ps) = withinP a1 ps → OpsOk ms ns → OpsOk a1 ps → a1.length ≤ 4 → PySem.Challenge.rw_mr0378_01 = PySem.Challenge.rw_mr0378_01 →
    (∀ (h' : Heap) (tk : Nat) (c2 : Addr) (oc : Obj) (vs9 : Array Value) (t9 : Tok), Fr h₀ L h' (fun y => if y = Str.ofString "steps" then some (.ref S) else if y = Str.ofString "last" then some (.ref e2) else if y = Str.ofString "other" then some (.ref e1) else if y = Str.ofString "one" then some (.ref e0) else m y) → News h₀ L h' ((283, tabObj #[rawInt 547, rawInt 21, .ref cc, rawInt 557, rawInt 18, .ref c2]) :: (c2, oc) :: (S, PySem.W.listOf #[.ref e0, .ref w1, .ref w2] nS) :: (w1, PySem.W.listOf z1.toArray n1) :: (w2, PySem.W.listOf z2.toArray n2) :: (e0, PySem.W.listOf x.toArray nx) :: (e1, PySem.W.listOf y.toArray ny) :: (e2, PySem.W.listOf z.toArray nz) :: news) → oc.data = Data.fields vs9 → vs9[1]? = some (Value.str ((Str.ofString "law" ++ Str.ofString ".<locals>." ++ Str.ofString "<lambda>")) t9) → (∀ p ∈ news, p.1 < c2) → Q .next { s with heap := h', toks := tk }) →
    wpAny (model PySem.Challenge.rw_mr0378_01.row.prog w) (ktrTop 302 20 gd (Str.ofString "law") lawScope L a (.ref 285) [(Str.ofString "mult", cm), (Str.ofString "row", cr), (Str.ofString "key", ck)] outer) (exec (lawTurn 3) (envX (Str.ofString "law") lawScope L a (.ref 285) [(Str.ofString "mult", cm), (Str.ofString "row", cr), (Str.ofString "key", ck)])) Q (fun _ _ => False) s := by
  w_top off
  k_fill
  rintro gd a outer A₀ base h₀ L ck cr cm m news s Q cc S e0 e1 e2 w1 w2 x y z z1 z2 nS nx ny nz n1 n2 ms ns ps a1 B F X BO N T CH hS hG i0 i1 i2 l0 l1 l2 nd1 nd2 n283 j1 j2 p1 p2 ok1 ok2 la1 _ hQ
  conv in (lawTurn _) => whnf
  conv in (occs := *) lawScope => (all_goals whnf)
  have u1 : @Ne Nat S 283 := news_ne N (.tail _ (.head _)) (.head _) (by intro e; cases e)
  have u2 : @Ne Nat w1 283 := news_ne N (.tail _ (.tail _ (.head _))) (.head _) (by intro e; cases e)
  have u3 : @Ne Nat w2 283 := news_ne N (.tail _ (.tail _ (.tail _ (.head _)))) (.head _) (by intro e; cases e)
  have u4 : @Ne Nat e0 283 := news_ne N (.tail _ (.tail _ (.tail _ (.tail _ (.head _))))) (.head _) (by intro e; cases e)
  have u5 : @Ne Nat e1 283 := news_ne N (.tail _ (.tail _ (.tail _ (.tail _ (.tail _ (.head _)))))) (.head _) (by intro e; cases e)
  have u6 : @Ne Nat e2 283 := news_ne N (.tail _ (.tail _ (.tail _ (.tail _ (.tail _ (.tail _ (.head _))))))) (.head _) (by intro e; cases e)
  k_extra "k10"
  rename_i f c oc vs9 t9 ct9 _ _ d1 d2 hT1 lt1 lt2 l2' _ hT2 lt3 l3' _ F1 N1 lt4
  replace N1 : News h₀ L _ ((l3', PySem.W.listOf #[.ref e0] 0) :: (l2', PySem.W.listOf #[.ref e1, .ref e2] 0) :: (f, _) :: (c, oc) :: (283, tabObj #[rawInt 547, rawInt 21, .ref cc, rawInt 557, rawInt 18, .ref c]) :: (S, PySem.W.listOf #[.ref e0, .ref w1, .ref w2] nS) :: (w1, PySem.W.listOf z1.toArray n1) :: (w2, PySem.W.listOf z2.toArray n2) :: (e0, PySem.W.listOf x.toArray nx) :: (e1, PySem.W.listOf y.toArray ny) :: (e2, PySem.W.listOf z.toArray nz) :: news) := N1
  obtain ⟨oF, hoF⟩ : ∃ o : Obj, o = objT N1 := ⟨_, rfl⟩
  have N2 : News h₀ L _ ((f, objT N1) :: (c, oc) :: (e0, PySem.W.listOf x.toArray nx) :: (e1, PySem.W.listOf y.toArray ny) :: (e2, PySem.W.listOf z.toArray nz) :: (l3', PySem.W.listOf #[.ref e0] 0) :: (l2', PySem.W.listOf #[.ref e1, .ref e2] 0) :: (S, PySem.W.listOf #[.ref e0, .ref w1, .ref w2] nS) :: (w1, PySem.W.listOf z1.toArray n1) :: (w2, PySem.W.listOf z2.toArray n2) :: (283, tabObj #[rawInt 547, rawInt 21, .ref cc, rawInt 557, rawInt 18, .ref c]) :: news)   := news_sub N1 (by dsimp only [objT]; k_extra "sub")
  rw [← hoF] at N2
  dsimp only [objT] at hoF
  obtain ⟨LM, hLM⟩ : ∃ LM : List (Addr × Obj), LM = [(f, oF), (c, oc), (e0, PySem.W.listOf x.toArray nx), (e1, PySem.W.listOf y.toArray ny), (e2, PySem.W.listOf z.toArray nz)] := ⟨_, rfl⟩
  have hRF : RedF w f [.ref e1, .ref e2] (fun k v n => (∀ p ∈ LM, p ∈ n) ∧ ∃ b vs, v = .ref b ∧ (b, PySem.W.listOf (List.toArray vs) 0) ∈ n ∧ LsAre n vs ([ms, a1, withinP a1 ps].take (k + 1))) := by
    intro gd2 cn2 cs2 a2 ccd2 cl2 outer2 A2 base2 h2 L2 m2 news2 s2 loose2 mean2 mg2 mb2 Q2 E2 k v item B2 F2 X2 BO2 N5 T2 hk2 hit hInv hR
    obtain ⟨hL, b, vs, rfl, hb, hls⟩ := hInv
    have hL0 := hL
    rw [hLM] at hL
    rw [hoF] at hL
    clear hLM N1 N2 F1
    replace N5 := news_app N5 hL
    simp only [List.cons_append, List.nil_append] at N5
    have N6 := news_front N5 (.tail _ (.tail _ (.tail _ (.tail _ (.tail _ hb)))))
    have hk01 : k = 0 ∨ k = 1 := by
      have := (List.getElem?_eq_some_iff.mp hit).1
      simp at this; omega
    rcases hk01 with rfl | rfl
    · have hit2 : Value.ref e1 = item := Option.some.inj hit
      subst hit2
      have hls1 : LsAre _ vs [ms] := hls
      obtain ⟨r1, x1, c1, vs1, hv1, q1, q2, q3⟩ := hls1.inv
      have hv3 := q3.inv0
      subst hv3
      subst hv1
      have N7 := news_front N6 (.tail _ (.tail _ (.tail _ (.tail _ (.tail _ (.tail _ q1))))))
      refine wpAny_call ?_
      refine kla_code B2 F2 X2 N7 T2 rfl rfl hk2 (.tail _ (.tail _ (.head _))) (codeRec_news N7 (.tail _ (.tail _ (.tail _ (.head _)))) d1 d2) (Nat.le_of_ble_eq_true (by kernel_rfl)) rfl (locs rfl) ?_ rfl rfl rfl (by decide)
      clear F2 N5 N6 N7
      intro g L9 h1 FG F6 N6 B6 X6 T6
      have BO6 : Boot w g := boot_keeps BO2 FG.keep
      try dsimp only
      k_extra "k3"
      refine wpAny_up (sh _ _ _ _ _ _ _ _ _ g L9 _ _ _ _ _ _ e1 _ y _ ny ms ns B6 F6 X6 BO6 N6 T6 rfl hS hG (.head _) (by k_mem) q2 i1 l0 l1 nd1 ok1 rfl ?ret) (Nat.le_of_ble_eq_true rfl) (Nat.le_of_ble_eq_true rfl)
      case ret =>
        intro D7 h7 tk7 zs7 n7 news7 F7 N7 hs7 hm7 hr7 hz7
        rw [p1] at hz7
        have hq1 := hs7 _ (.head _)
        have hq2 := hs7 _ (.tail _ (.head _))
        have hN2 : ∀ p ∈ news2, p ∈ news7 := fun p hp => hs7 p ((by k_extra "sub" : ∀ p ∈ _, p ∈ _) p hp)
        replace N7 := news_front (news_front (news_front N7 hm7) (.tail _ hq1)) (.tail _ (.tail _ hq2))
        clear F6 N6 hs7
        k_extra "k3"
        refine leaveK_ (by assumption) (by assumption) fun kF kN => ?_
        exact hR _ _ _ _ kF kN (fun p hp => .tail _ (.tail _ (.tail _ (.tail _ (.tail _ (hN2 p hp)))))) ⟨fun p hp => .tail _ (.tail _ (.tail _ (.tail _ (.tail _ (hN2 p (hL0 p hp)))))), _, _, rfl, .head _, .cons (.tail _ (.tail _ (.tail _ (.head _)))) q2 (.cons (.tail _ (.tail _ (.tail _ (.tail _ (.head _))))) hz7 .nil)⟩
    · have hit2 : Value.ref e2 = item := Option.some.inj hit
      subst hit2
      have hls1 : LsAre _ vs [ms, a1] := hls
      obtain ⟨r1, x1, c1, vs1, hv1, q1, q2, q3⟩ := hls1.inv
      obtain ⟨r2, x2, c2, vs2, hv2, q4, q5, q6⟩ := q3.inv
      have hv3 := q6.inv0
      subst hv3
      subst hv2
      subst hv1
      have N7 := news_front (news_front N6 (.tail _ (.tail _ (.tail _ (.tail _ (.tail _ (.tail _ q1))))))) (.tail _ (.tail _ (.tail _ (.tail _ (.tail _ (.tail _ (.tail _ q4)))))))
      refine wpAny_call ?_
      refine kla_code B2 F2 X2 N7 T2 rfl rfl hk2 (.tail _ (.tail _ (.tail _ (.head _)))) (codeRec_news N7 (.tail _ (.tail _ (.tail _ (.tail _ (.head _))))) d1 d2) (Nat.le_of_ble_eq_true (by kernel_rfl)) rfl (locs rfl) ?_ rfl rfl rfl (by decide)
      clear F2 N5 N6 N7
      intro g L9 h1 FG F6 N6 B6 X6 T6
      have BO6 : Boot w g := boot_keeps BO2 FG.keep
      try dsimp only
      k_extra "k3"
      refine wpAny_up (sh _ _ _ _ _ _ _ _ _ g L9 _ _ _ _ _ _ e2 _ z _ nz a1 ps B6 F6 X6 BO6 N6 T6 rfl hS hG (.head _) (by k_mem) q5 i2 la1 l2 nd2 ok2 rfl ?ret) (Nat.le_of_ble_eq_true rfl) (Nat.le_of_ble_eq_true rfl)
      case ret =>
        intro D7 h7 tk7 zs7 n7 news7 F7 N7 hs7 hm7 hr7 hz7
        rw [p2] at hz7
        have hq1 := hs7 _ (.head _)
        have hq3 := hs7 _ (.tail _ (.head _))
        have hq2 := hs7 _ (.tail _ (.tail _ (.head _)))
        have hN2 : ∀ p ∈ news2, p ∈ news7 := fun p hp => hs7 p ((by k_extra "sub" : ∀ p ∈ _, p ∈ _) p hp)
        replace N7 := news_front (news_front (news_front (news_front N7 hm7) (.tail _ hq1)) (.tail _ (.tail _ hq3))) (.tail _ (.tail _ (.tail _ hq2)))
        clear F6 N6 hs7
        k_extra "k3"
        refine leaveK_ (by assumption) (by assumption) fun kF kN => ?_
        exact hR _ _ _ _ kF kN (fun p hp => .tail _ (.tail _ (.tail _ (.tail _ (.tail _ (.tail _ (hN2 p hp))))))) ⟨fun p hp => .tail _ (.tail _ (.tail _ (.tail _ (.tail _ (.tail _ (hN2 p (hL0 p hp))))))), _, _, rfl, .head _, .cons (by k_mem) q2 (.cons (by k_mem) q5 (.cons (by k_mem) hz7 .nil))⟩
  have N3 := N2
  rw [hoF] at N3
  refine wpAny_up (rd2 _ _ _ _ _ _ _ A₀ base h₀ L _ _ _ _ _ f l2' l3' _ _ _ _ _ _ [.ref e1, .ref e2] _ _ B F1 X BO N3 T rfl (by k_mem) (.head _) (by k_mem) (Nat.le_of_ble_eq_true rfl) ?hI0 ?hmono ?hbut hRF rfl ?ret9) (Nat.le_of_ble_eq_true rfl) (Nat.le_of_ble_eq_true rfl)
  case hI0 =>
    refine ⟨?_, l3', [.ref e0], rfl, by k_mem, .cons (by k_mem) i0 .nil⟩
    rw [hLM, hoF]
    k_extra "sub"
  case hmono =>
    rintro k v n1 n2 ⟨h1, b, vs, hv, hb, hl⟩ hs
    exact ⟨fun p hp => hs p (h1 p hp), b, vs, hv, hs _ hb, hl.sub hs⟩
  case hbut =>
    rintro k v n h₀' h' L' I o N' hI hc hne ⟨h1, b, vs, hv, hb, hl⟩
    have hLMn : ∀ p ∈ LM, p.1 ≠ I := fun p hp => hne p ((by first | (rw [hLM]; k_extra "sub") | (rw [hLM, hoF]; k_extra "sub") : ∀ p ∈ LM, p ∈ _) p hp)
    refine ⟨fun p hp => but_mem (h1 p hp) (hLMn p hp), b, vs, hv, but_mem hb (news_ne N' hb hI (by rw [hc]; show Value.type "list" ≠ Value.type "list_iterator"; decide)), ?_⟩
    exact LsAre.but N' hI hc hl
  case ret9 =>
    rintro v h9 tk9 news9 F9 N9 hs9 ⟨_, b, vs, rfl, hb, hl⟩
    have hl' : LsAre news9 vs [ms, a1, withinP a1 ps] := hl
    clear hRF
    (try clear hLM)
    (try clear N2)
    (try clear N1)
    (try clear F1)
    k_extra "k6"
    refine n_nls N9 hb hl' (us := [.ref e0, .ref w1, .ref w2]) (nb := nS) (hs9 _ (by k_mem)) (.cons (hs9 _ (by k_mem)) i0 (.cons (hs9 _ (by k_mem)) j1 (.cons (hs9 _ (by k_mem)) j2 .nil))) (Nat.le_of_ble_eq_true rfl) ?_
    k_extra "k6"
    exact hQ _ _ c oc vs9 t9 F9 (news_sub N9 (fun p hp => hs9 p (by simp only [List.mem_cons] at hp ⊢; grind))) d1 d2 hT1
end
section --B4h
local macro_rules | `(tactic| walk_at "PS") => `(tactic| k_extra "wde850")
local macro_rules | `(tactic| k_gentoks) => `(tactic| k_extra "wc12c1")
local macro_rules | `(tactic| kst_same) => `(tactic| k_extra "w04242")
set_option hygiene false in
local macro_rules | `(tactic| k_lt $h:ident) => `(tactic| ((try (have hT9 := $h; k_extra "w90843")); replace $h := allLt_of $h; simp only [AllLt, and_true] at $h:ident))
local macro_rules | `(tactic| k_all) => `(tactic| k_extra "w7203b")
noncomputable abbrev objH {h₀ h : Heap} {L a : Addr} {o : Obj} {p q : Addr × Obj} {l : List (Addr × Obj)} (_ : News h₀ L h (p :: q :: (a, o) :: l)) : Obj := o
theorem turn4h {w : World} {loose : List Str} {mean : ExcName → Option Value} {mg mb : Str → Option Value} :
  ∀ (gd : Option (List Code)) (a : Addr) (outer : List Env) (A₀ : Around) (base h₀ : Heap) (L ck cr cm : Addr) (m : Str → Option Value) (news : List (Addr × Obj)) (s : Shared)
    (Q : Flow → Shared → Prop) (cc c : Addr) (oc : Obj) (vs9 : Array Value) (t9 : Tok) (S e0 e1 e2 w1 w2 : Addr) (x y z z1 z2 : List Value) (nS nx ny nz n1 n2 : Nat) (ms ns ps a1 : List Int),
    Below A₀ base outer h₀ → Fr h₀ L s.heap (fun y => if y = Str.ofString "steps" then some (.ref S) else if y = Str.ofString "last" then some (.ref e2) else if y = Str.ofString "other" then some (.ref e1) else if y = Str.ofString "one" then some (.ref e0) else m y) → (Mine.hd0.heap_1 w.params).In h₀ → Boot w h₀ → News h₀ L s.heap ((283, tabObj #[rawInt 547, rawInt 21, .ref cc, rawInt 557, rawInt 18, .ref c]) :: (c, oc) :: (S, PySem.W.listOf #[.ref e0, .ref w1, .ref w2] nS) :: (w1, PySem.W.listOf z1.toArray n1) :: (w2, PySem.W.listOf z2.toArray n2) :: (e0, PySem.W.listOf x.toArray nx) :: (e1, PySem.W.listOf y.toArray ny) :: (e2, PySem.W.listOf z.toArray nz) :: news) → Top topProg loose mean mg mb h₀ →
    oc.data = Data.fields vs9 → vs9[1]? = some (Value.str (Str.ofString "law" ++ Str.ofString ".<locals>." ++ Str.ofString "<lambda>") t9) → @Ne Nat c 283 → CodeHd h₀ 285 283 → SmC w → GocC w → IntsAre x ms → IntsAre y ns → IntsAre z ps → ms.length ≤ 4 → ns.length ≤ 4 → ps.length ≤ 4 → ns.Nodup → ps.Nodup → (∀ p ∈ news, @Ne Nat p.1 283) → IntsAre z1 a1 → IntsAre z2 (withinP a1 ps) → sharedP ms (opsF ms ns) = a1 → sharedP a1 (opsF a1 ps) = withinP a1 ps → OpsOk ms ns → OpsOk a1 ps → a1.length ≤ 4 → PySem.Challenge.rw_mr0378_01 = PySem.Challenge.rw_mr0378_01 →
    (∀ (h' : Heap) (tk : Nat), Fr h₀ L h' (fun y => if y = Str.ofString "steps" then some (.ref S) else if y = Str.ofString "last" then some (.ref e2) else if y = Str.ofString "other" then some (.ref e1) else if y = Str.ofString "one" then some (.ref e0) else m y) → News h₀ L h' ((283, tabObj #[rawInt 547, rawInt 21, .ref cc, rawInt 557, rawInt 18, .ref c]) :: (c, oc) :: (S, PySem.W.listOf #[.ref e0, .ref w1, .ref w2] nS) :: (w1, PySem.W.listOf z1.toArray n1) :: (w2, PySem.W.listOf z2.toArray n2) :: (e0, PySem.W.listOf x.toArray nx) :: (e1, PySem.W.listOf y.toArray ny) :: (e2, PySem.W.listOf z.toArray nz) :: news) → Q .next { s with heap := h', toks := tk }) →
    wpAny (model PySem.Challenge.rw_mr0378_01.row.prog w) (ktrTop 302 20 gd (Str.ofString "law") lawScope L a (.ref 285) [(Str.ofString "mult", cm), (Str.ofString "row", cr), (Str.ofString "key", ck)] outer) (exec (lawTurn 3) (envX (Str.ofString "law") lawScope L a (.ref 285) [(Str.ofString "mult", cm), (Str.ofString "row", cr), (Str.ofString "key", ck)])) Q (fun _ _ => False) s := by
  w_top off
  k_fill
  rintro gd a outer A₀ base h₀ L ck cr cm m news s Q cc c oc vs9 t9 S e0 e1 e2 w1 w2 x y z z1 z2 nS nx ny nz n1 n2 ms ns ps a1 B F X BO N T d1 d2 u7 CH hS hG i0 i1 i2 l0 l1 l2 nd1 nd2 n283 j1 j2 p1 p2 ok1 ok2 la1 _ hQ
  conv in (lawTurn _) => whnf
  conv in (occs := *) lawScope => (all_goals whnf)
  have u1 : @Ne Nat S 283 := news_ne N (.tail _ (.tail _ (.head _))) (.head _) (by intro e; cases e)
  have u2 : @Ne Nat w1 283 := news_ne N (.tail _ (.tail _ (.tail _ (.head _)))) (.head _) (by intro e; cases e)
  have u3 : @Ne Nat w2 283 := news_ne N (.tail _ (.tail _ (.tail _ (.tail _ (.head _))))) (.head _) (by intro e; cases e)
  have u4 : @Ne Nat e0 283 := news_ne N (.tail _ (.tail _ (.tail _ (.tail _ (.tail _ (.head _)))))) (.head _) (by intro e; cases e)
  have u5 : @Ne Nat e1 283 := news_ne N (.tail _ (.tail _ (.tail _ (.tail _ (.tail _ (.tail _ (.head _))))))) (.head _) (by intro e; cases e)
  have u6 : @Ne Nat e2 283 := news_ne N (.tail _ (.tail _ (.tail _ (.tail _ (.tail _ (.tail _ (.tail _ (.head _)))))))) (.head _) (by intro e; cases e)
  k_extra "k10"
  rename_i f ct9 _ _ hT1 lt1 l2' _ hT2 lt3 l3' _ F1 N1 lt4
  replace N1 : News h₀ L _ ((l3', PySem.W.listOf #[.ref e0] 0) :: (l2', PySem.W.listOf #[.ref e1, .ref e2] 0) :: (f, _) :: (283, tabObj #[rawInt 547, rawInt 21, .ref cc, rawInt 557, rawInt 18, .ref c]) :: (c, oc) :: (S, PySem.W.listOf #[.ref e0, .ref w1, .ref w2] nS) :: (w1, PySem.W.listOf z1.toArray n1) :: (w2, PySem.W.listOf z2.toArray n2) :: (e0, PySem.W.listOf x.toArray nx) :: (e1, PySem.W.listOf y.toArray ny) :: (e2, PySem.W.listOf z.toArray nz) :: news) := N1
  obtain ⟨oF, hoF⟩ : ∃ o : Obj, o = objH N1 := ⟨_, rfl⟩
  have N2 : News h₀ L _ ((f, objH N1) :: (c, oc) :: (e0, PySem.W.listOf x.toArray nx) :: (e1, PySem.W.listOf y.toArray ny) :: (e2, PySem.W.listOf z.toArray nz) :: (l3', PySem.W.listOf #[.ref e0] 0) :: (l2', PySem.W.listOf #[.ref e1, .ref e2] 0) :: (S, PySem.W.listOf #[.ref e0, .ref w1, .ref w2] nS) :: (w1, PySem.W.listOf z1.toArray n1) :: (w2, PySem.W.listOf z2.toArray n2) :: (283, tabObj #[rawInt 547, rawInt 21, .ref cc, rawInt 557, rawInt 18, .ref c]) :: news)   := news_sub N1 (by dsimp only [objH]; k_extra "sub")
  rw [← hoF] at N2
  dsimp only [objH] at hoF
  obtain ⟨LM, hLM⟩ : ∃ LM : List (Addr × Obj), LM = [(f, oF), (c, oc), (e0, PySem.W.listOf x.toArray nx), (e1, PySem.W.listOf y.toArray ny), (e2, PySem.W.listOf z.toArray nz)] := ⟨_, rfl⟩
  have hRF : RedF w f [.ref e1, .ref e2] (fun k v n => (∀ p ∈ LM, p ∈ n) ∧ ∃ b vs, v = .ref b ∧ (b, PySem.W.listOf (List.toArray vs) 0) ∈ n ∧ LsAre n vs ([ms, a1, withinP a1 ps].take (k + 1))) := by
    intro gd2 cn2 cs2 a2 ccd2 cl2 outer2 A2 base2 h2 L2 m2 news2 s2 loose2 mean2 mg2 mb2 Q2 E2 k v item B2 F2 X2 BO2 N5 T2 hk2 hit hInv hR
    obtain ⟨hL, b, vs, rfl, hb, hls⟩ := hInv
    have hL0 := hL
    rw [hLM] at hL
    rw [hoF] at hL
    clear hLM N1 N2 F1
    replace N5 := news_app N5 hL
    simp only [List.cons_append, List.nil_append] at N5
    have N6 := news_front N5 (.tail _ (.tail _ (.tail _ (.tail _ (.tail _ hb)))))
    have hk01 : k = 0 ∨ k = 1 := by
      have := (List.getElem?_eq_some_iff.mp hit).1
      simp at this; omega
    rcases hk01 with rfl | rfl
    · have hit2 : Value.ref e1 = item := Option.some.inj hit
      subst hit2
      have hls1 : LsAre _ vs [ms] := hls
      obtain ⟨r1, x1, c1, vs1, hv1, q1, q2, q3⟩ := hls1.inv
      have hv3 := q3.inv0
      subst hv3
      subst hv1
      have N7 := news_front N6 (.tail _ (.tail _ (.tail _ (.tail _ (.tail _ (.tail _ q1))))))
      refine wpAny_call ?_
      refine kla_code B2 F2 X2 N7 T2 rfl rfl hk2 (.tail _ (.tail _ (.head _))) (codeRec_news N7 (.tail _ (.tail _ (.tail _ (.head _)))) d1 d2) (Nat.le_of_ble_eq_true (by kernel_rfl)) rfl (locs rfl) ?_ rfl rfl rfl (by decide)
      clear F2 N5 N6 N7
      intro g L9 h1 FG F6 N6 B6 X6 T6
      have BO6 : Boot w g := boot_keeps BO2 FG.keep
      try dsimp only
      k_extra "k3"
      refine wpAny_up (sh _ _ _ _ _ _ _ _ _ g L9 _ _ _ _ _ _ e1 _ y _ ny ms ns B6 F6 X6 BO6 N6 T6 rfl hS hG (.head _) (by k_mem) q2 i1 l0 l1 nd1 ok1 rfl ?ret) (Nat.le_of_ble_eq_true rfl) (Nat.le_of_ble_eq_true rfl)
      case ret =>
        intro D7 h7 tk7 zs7 n7 news7 F7 N7 hs7 hm7 hr7 hz7
        rw [p1] at hz7
        have hq1 := hs7 _ (.head _)
        have hq2 := hs7 _ (.tail _ (.head _))
        have hN2 : ∀ p ∈ news2, p ∈ news7 := fun p hp => hs7 p ((by k_extra "sub" : ∀ p ∈ _, p ∈ _) p hp)
        replace N7 := news_front (news_front (news_front N7 hm7) (.tail _ hq1)) (.tail _ (.tail _ hq2))
        clear F6 N6 hs7
        k_extra "k3"
        refine leaveK_ (by assumption) (by assumption) fun kF kN => ?_
        exact hR _ _ _ _ kF kN (fun p hp => .tail _ (.tail _ (.tail _ (.tail _ (.tail _ (hN2 p hp)))))) ⟨fun p hp => .tail _ (.tail _ (.tail _ (.tail _ (.tail _ (hN2 p (hL0 p hp)))))), _, _, rfl, .head _, .cons (.tail _ (.tail _ (.tail _ (.head _)))) q2 (.cons (.tail _ (.tail _ (.tail _ (.tail _ (.head _))))) hz7 .nil)⟩
    · have hit2 : Value.ref e2 = item := Option.some.inj hit
      subst hit2
      have hls1 : LsAre _ vs [ms, a1] := hls
      obtain ⟨r1, x1, c1, vs1, hv1, q1, q2, q3⟩ := hls1.inv
      obtain ⟨r2, x2, c2, vs2, hv2, q4, q5, q6⟩ := q3.inv
      have hv3 := q6.inv0
      subst hv3
      subst hv2
      subst hv1
      have N7 := news_front (news_front N6 (.tail _ (.tail _ (.tail _ (.tail _ (.tail _ (.tail _ q1))))))) (.tail _ (.tail _ (.tail _ (.tail _ (.tail _ (.tail _ (.tail _ q4)))))))
      refine wpAny_call ?_
      refine kla_code B2 F2 X2 N7 T2 rfl rfl hk2 (.tail _ (.tail _ (.tail _ (.head _)))) (codeRec_news N7 (.tail _ (.tail _ (.tail _ (.tail _ (.head _))))) d1 d2) (Nat.le_of_ble_eq_true (by kernel_rfl)) rfl (locs rfl) ?_ rfl rfl rfl (by decide)
      clear F2 N5 N6 N7
      intro g L9 h1 FG F6 N6 B6 X6 T6
      have BO6 : Boot w g := boot_keeps BO2 FG.keep
      try dsimp only
      k_extra "k3"
      refine wpAny_up (sh _ _ _ _ _ _ _ _ _ g L9 _ _ _ _ _ _ e2 _ z _ nz a1 ps B6 F6 X6 BO6 N6 T6 rfl hS hG (.head _) (by k_mem) q5 i2 la1 l2 nd2 ok2 rfl ?ret) (Nat.le_of_ble_eq_true rfl) (Nat.le_of_ble_eq_true rfl)
      case ret =>
        intro D7 h7 tk7 zs7 n7 news7 F7 N7 hs7 hm7 hr7 hz7
        rw [p2] at hz7
        have hq1 := hs7 _ (.head _)
        have hq3 := hs7 _ (.tail _ (.head _))
        have hq2 := hs7 _ (.tail _ (.tail _ (.head _)))
        have hN2 : ∀ p ∈ news2, p ∈ news7 := fun p hp => hs7 p ((by k_extra "sub" : ∀ p ∈ _, p ∈ _) p hp)
        replace N7 := news_front (news_front (news_front (news_front N7 hm7) (.tail _ hq1)) (.tail _ (.tail _ hq3))) (.tail _ (.tail _ (.tail _ hq2)))
        clear F6 N6 hs7
        k_extra "k3"
        refine leaveK_ (by assumption) (by assumption) fun kF kN => ?_
        exact hR _ _ _ _ kF kN (fun p hp => .tail _ (.tail _ (.tail _ (.tail _ (.tail _ (.tail _ (hN2 p hp))))))) ⟨fun p hp => .tail _ (.tail _ (.tail _ (.tail _ (.tail _ (.tail _ (hN2 p (hL0 p hp))))))), _, _, rfl, .head _, .cons (by k_mem) q2 (.cons (by k_mem) q5 (.cons (by k_mem) hz7 .nil))⟩
  have N3 := N2
  rw [hoF] at N3
  refine wpAny_up (rd2 _ _ _ _ _ _ _ A₀ base h₀ L _ _ _ _ _ f l2' l3' _ _ _ _ _ _ [.ref e1, .ref e2] _ _ B F1 X BO N3 T rfl (by k_mem) (.head _) (by k_mem) (Nat.le_of_ble_eq_true rfl) ?hI0 ?hmono ?hbut hRF rfl ?ret9) (Nat.le_of_ble_eq_true rfl) (Nat.le_of_ble_eq_true rfl)
  case hI0 =>
    refine ⟨?_, l3', [.ref e0], rfl, by k_mem, .cons (by k_mem) i0 .nil⟩
    rw [hLM, hoF]
    k_extra "sub"
  case hmono =>
    rintro k v n1 n2 ⟨h1, b, vs, hv, hb, hl⟩ hs
    exact ⟨fun p hp => hs p (h1 p hp), b, vs, hv, hs _ hb, hl.sub hs⟩
  case hbut =>
    rintro k v n h₀' h' L' I o N' hI hc hne ⟨h1, b, vs, hv, hb, hl⟩
    have hLMn : ∀ p ∈ LM, p.1 ≠ I := fun p hp => hne p ((by first | (rw [hLM]; k_extra "sub") | (rw [hLM, hoF]; k_extra "sub") : ∀ p ∈ LM, p ∈ _) p hp)
    refine ⟨fun p hp => but_mem (h1 p hp) (hLMn p hp), b, vs, hv, but_mem hb (news_ne N' hb hI (by rw [hc]; show Value.type "list" ≠ Value.type "list_iterator"; decide)), ?_⟩
    exact LsAre.but N' hI hc hl
  case ret9 =>
    rintro v h9 tk9 news9 F9 N9 hs9 ⟨_, b, vs, rfl, hb, hl⟩
    have hl' : LsAre news9 vs [ms, a1, withinP a1 ps] := hl
    clear hRF
    (try clear hLM)
    (try clear N2)
    (try clear N1)
    (try clear F1)
    k_extra "k6"
    refine n_nls N9 hb hl' (us := [.ref e0, .ref w1, .ref w2]) (nb := nS) (hs9 _ (by k_mem)) (.cons (hs9 _ (by k_mem)) i0 (.cons (hs9 _ (by k_mem)) j1 (.cons (hs9 _ (by k_mem)) j2 .nil))) (Nat.le_of_ble_eq_true rfl) ?_
    k_extra "k6"
    exact hQ _ _ F9 (news_sub N9 (fun p hp => hs9 p (by simp only [List.mem_cons] at hp ⊢; grind)))
end
theorem w2 : True := ⟨⟩
section --L6
theorem law6 {w : World} {loose : List Str} {mean : ExcName → Option Value} {mg mb : Str → Option Value} :
  ∀ (gd : Option (List Code)) (a : Addr) (outer : List Env) (A₀ : Around) (base h₀ : Heap) (L ck cr cm : Addr) (m : Str → Option Value) (news : List (Addr × Obj)) (s : Shared)
    (Q : Flow → Shared → Prop) (ok : Obj) (kc f R r0 r1 r2 : Addr) (v0 v1 v2 : List Value) (m0 m1 m2 : List Int) (nR n0 n1 n2 : Nat) (L0 L1 : List (Addr × Obj)) (cmp : Int → Int → Int),
    Below A₀ base outer h₀ → Fr h₀ L s.heap (fun y => if y = Str.ofString "rows" then some (.ref R) else m y) → (Mine.hd0.heap_1 w.params).In h₀ → Boot w h₀ → News h₀ L s.heap ((ck, ok) :: (R, PySem.W.listOf #[.ref r0, .ref r1, .ref r2] nR) :: (r0, PySem.W.listOf v0.toArray n0) :: (r1, PySem.W.listOf v1.toArray n1) :: (r2, PySem.W.listOf v2.toArray n2) :: news) → Top topProg loose mean mg mb h₀ →
    ok.data = .cell (some (.ref kc)) → IntsAre v0 m0 → IntsAre v1 m1 → IntsAre v2 m2 → v0.length ≤ 4 → v1.length ≤ 4 → v2.length ≤ 4 → (∀ x ∈ m0, 0 ≤ x ∧ x ≤ 6) → (∀ x ∈ m1, 0 ≤ x ∧ x ≤ 6) → (∀ x ∈ m2, 0 ≤ x ∧ x ≤ 6) → (∀ p ∈ L0, p ∈ news) → (∀ p ∈ L1, p ∈ news) → KiC w loose mean mg mb kc L0 → KltC w loose mean mg mb kc f L0 → CmpC w loose mean mg mb f L1 cmp → (∃ oc od fd sl, (f, (⟨oc, od, .func fd, sl⟩ : Obj)) ∈ L1) → PySem.Challenge.rw_mr0378_01 = PySem.Challenge.rw_mr0378_01 →
    (∀ (h' : Heap) (tk : Nat) (D d0 d1 d2 : Addr) (z0 z1 z2 : List Value) (nD e0 e1 e2 : Nat), Fr h₀ L h' (fun y => if y = Str.ofString "told" then some (.ref D) else if y = Str.ofString "rows" then some (.ref R) else m y) → News h₀ L h' ((D, PySem.W.listOf #[.ref d0, .ref d1, .ref d2] nD) :: (d0, PySem.W.listOf z0.toArray e0) :: (d1, PySem.W.listOf z1.toArray e1) :: (d2, PySem.W.listOf z2.toArray e2) :: (ck, ok) :: (R, PySem.W.listOf #[.ref r0, .ref r1, .ref r2] nR) :: (r0, PySem.W.listOf v0.toArray n0) :: (r1, PySem.W.listOf v1.toArray n1) :: (r2, PySem.W.listOf v2.toArray n2) :: news) → IntsAre z0 (sortP 0 (fun a b => decide (cmp a b < 0)) m0) → IntsAre z1 (sortP 0 (fun a b => decide (cmp a b < 0)) m1) → IntsAre z2 (sortP 0 (fun a b => decide (cmp a b < 0)) m2) → Q .next { s with heap := h', toks := tk }) →
    wpAny (model PySem.Challenge.rw_mr0378_01.row.prog w) (ktrTop 302 20 gd (Str.ofString "law") lawScope L a (.ref 285) [(Str.ofString "mult", cm), (Str.ofString "row", cr), (Str.ofString "key", ck)] outer) (exec (lawStmt 5) (envX (Str.ofString "law") lawScope L a (.ref 285) [(Str.ofString "mult", cm), (Str.ofString "row", cr), (Str.ofString "key", ck)])) Q (fun _ _ => False) s := by
  w_top off
  k_fill
  revert w loose mean mg mb
  (with_reducible refine @wi5_ap _ _ _ _ _ ?ne9 _ ?_); (case ne9 => walk_at "NE0"); refine (?m9 : Al5 _) _ _ _ _ _; intros w loose mean mg mb; refine ap5 ?_
  rintro gd a outer A₀ base h₀ L ck cr cm m news s Q ok kc f R r0 r1 r2 v0 v1 v2 m0 m1 m2 nR n0 n1 n2 L0 L1 cmp B F X BO N T hok i0 i1 i2 l0 l1 l2 b0 b1 b2 s0 s1 hKi hKl hC hfn _ hQ
  conv in (lawStmt _) => whnf
  conv in (occs := *) lawScope => (all_goals whnf)
  k_extra "k18"
  refine call_as (f' := .builtin "sorted") (kw' := [(Str.ofString "key", .ref kc)]) rfl rfl ?_
  rename_i F9 N9 off9 ne9 _ _
  refine wpAny_up (n_sortRow (f := f) (L1 := L1) (cmp := cmp) ⟨B, F9, X, BO, N9, T, rfl⟩ i0 b0 l0 (by k_mem) (fun p hp => by have q := s0 p hp; repeat (first | exact q | apply List.Mem.tail)) hKi hKl hC (fun p hp => by have q := s1 p hp; repeat (first | exact q | apply List.Mem.tail)) hfn ?_) (Nat.le_of_ble_eq_true rfl) (Nat.le_of_ble_eq_true rfl)
  intro d0 e0 h0' tk0' z0 F0' N0' hne0 hz0
  refine LCg.CompEnd.intro F0' N0' ((d0, PySem.W.listOf z0.toArray e0) :: (ck, ok) :: (R, PySem.W.listOf #[.ref r0, .ref r1, .ref r2] nR) :: (r0, PySem.W.listOf v0.toArray n0) :: (r1, PySem.W.listOf v1.toArray n1) :: (r2, PySem.W.listOf v2.toArray n2) :: news) (fun p hp => ?_) ⟨⟨(hne0 _ (.head _)).symm, (hne0 _ (.tail _ (.head _))).symm, (hne0 _ (.tail _ (.tail _ (.head _)))).symm⟩, off9⟩ (.inr ⟨_, (.tail _ (.tail _ (.head _))), rfl, _, rfl⟩) ?_
  · exact (by k_extra "sub" : ∀ p ∈ _, p ∈ _) p hp
  clear F9 N9 off9 ne9 F0' N0' hne0
  k_extra "k18"
  refine call_as (f' := .builtin "sorted") (kw' := [(Str.ofString "key", .ref kc)]) rfl rfl ?_
  rename_i F9 N9 off9 ne9 _ _
  refine wpAny_up (n_sortRow (f := f) (L1 := L1) (cmp := cmp) ⟨B, F9, X, BO, N9, T, rfl⟩ i1 b1 l1 (by k_mem) (fun p hp => by have q := s0 p hp; repeat (first | exact q | apply List.Mem.tail)) hKi hKl hC (fun p hp => by have q := s1 p hp; repeat (first | exact q | apply List.Mem.tail)) hfn ?_) (Nat.le_of_ble_eq_true rfl) (Nat.le_of_ble_eq_true rfl)
  intro d1 e1 h1' tk1' z1 F1' N1' hne1 hz1
  refine LCg.CompEnd.intro F1' N1' ((d1, PySem.W.listOf z1.toArray e1) :: (d0, PySem.W.listOf z0.toArray e0) :: (ck, ok) :: (R, PySem.W.listOf #[.ref r0, .ref r1, .ref r2] nR) :: (r0, PySem.W.listOf v0.toArray n0) :: (r1, PySem.W.listOf v1.toArray n1) :: (r2, PySem.W.listOf v2.toArray n2) :: news) (fun p hp => ?_) ⟨⟨(hne1 _ (.head _)).symm, (hne1 _ (.tail _ (.head _))).symm, (hne1 _ (.tail _ (.tail _ (.head _)))).symm⟩, off9⟩ (.inr ⟨_, (.tail _ (.tail _ (.tail _ (.head _)))), rfl, _, rfl⟩) ?_
  · exact (by k_extra "sub" : ∀ p ∈ _, p ∈ _) p hp
  clear F9 N9 off9 ne9 F1' N1' hne1
  k_extra "k18"
  refine call_as (f' := .builtin "sorted") (kw' := [(Str.ofString "key", .ref kc)]) rfl rfl ?_
  rename_i F9 N9 off9 ne9 _ _
  refine wpAny_up (n_sortRow (f := f) (L1 := L1) (cmp := cmp) ⟨B, F9, X, BO, N9, T, rfl⟩ i2 b2 l2 (by k_mem) (fun p hp => by have q := s0 p hp; repeat (first | exact q | apply List.Mem.tail)) hKi hKl hC (fun p hp => by have q := s1 p hp; repeat (first | exact q | apply List.Mem.tail)) hfn ?_) (Nat.le_of_ble_eq_true rfl) (Nat.le_of_ble_eq_true rfl)
  intro d2 e2 h2' tk2' z2 F2' N2' hne2 hz2
  refine LCg.CompEnd.intro F2' N2' ((d2, PySem.W.listOf z2.toArray e2) :: (d1, PySem.W.listOf z1.toArray e1) :: (d0, PySem.W.listOf z0.toArray e0) :: (ck, ok) :: (R, PySem.W.listOf #[.ref r0, .ref r1, .ref r2] nR) :: (r0, PySem.W.listOf v0.toArray n0) :: (r1, PySem.W.listOf v1.toArray n1) :: (r2, PySem.W.listOf v2.toArray n2) :: news) (fun p hp => ?_) ⟨⟨(hne2 _ (.head _)).symm, (hne2 _ (.tail _ (.head _))).symm, (hne2 _ (.tail _ (.tail _ (.head _)))).symm⟩, off9⟩ (.inr ⟨_, (.tail _ (.tail _ (.tail _ (.tail _ (.head _))))), rfl, _, rfl⟩) ?_
  · exact (by k_extra "sub" : ∀ p ∈ _, p ∈ _) p hp
  clear F9 N9 off9 ne9 F2' N2' hne2
  repeat' (k_extra "t1")
  (rename Fr _ _ _ _ => F9)
  (rename News _ _ _ _ => N9)
  exact hQ _ _ _ d0 d1 d2 z0 z1 z2 3 e0 e1 e2 F9 (news_sub N9 (sub_cons (.head _) (sub_cons (.tail _ (.tail _ (.tail _ (.head _)))) (sub_cons (.tail _ (.tail _ (.head _))) (sub_cons (.tail _ (.head _)) fun p hp => .tail _ (.tail _ (.tail _ (.tail _ hp)))))))) hz0 hz1 hz2
end
section --L7
theorem law7 {w : World} {loose : List Str} {mean : ExcName → Option Value} {mg mb : Str → Option Value} :
  ∀ (gd : Option (List Code)) (a : Addr) (outer : List Env) (A₀ : Around) (base h₀ : Heap) (L ck cr cm : Addr) (m : Str → Option Value) (news : List (Addr × Obj)) (s : Shared)
    (Q : Flow → Shared → Prop) (om orr : Obj) (ov : Option Value) (R r0 r1 r2 D d0 d1 d2 : Addr) (v0 v1 v2 z0 z1 z2 : List Value) (m0 m1 m2 : List Int) (nR n0 n1 n2 nD e0 e1 e2 : Nat) (mv : Int) (t : Tok),
    Below A₀ base outer h₀ → Fr h₀ L s.heap (fun y => if y = Str.ofString "told" then some (.ref D) else if y = Str.ofString "rows" then some (.ref R) else m y) → (Mine.hd0.heap_1 w.params).In h₀ → Boot w h₀ → News h₀ L s.heap ((cr, orr) :: (cm, om) :: (R, PySem.W.listOf #[.ref r0, .ref r1, .ref r2] nR) :: (D, PySem.W.listOf #[.ref d0, .ref d1, .ref d2] nD) :: (r0, PySem.W.listOf v0.toArray n0) :: (r1, PySem.W.listOf v1.toArray n1) :: (r2, PySem.W.listOf v2.toArray n2) :: (d0, PySem.W.listOf z0.toArray e0) :: (d1, PySem.W.listOf z1.toArray e1) :: (d2, PySem.W.listOf z2.toArray e2) :: news) → Top topProg loose mean mg mb h₀ →
    om.data = .cell (some (.int mv t)) → 1 ≤ mv → mv ≤ 6 → orr.data = .cell ov → IntsAre v0 m0 → IntsAre v1 m1 → IntsAre v2 m2 → v0.length ≤ 4 → v1.length ≤ 4 → v2.length ≤ 4 → (∀ x ∈ m0, 0 ≤ x ∧ x ≤ 6) → (∀ x ∈ m1, 0 ≤ x ∧ x ≤ 6) → (∀ x ∈ m2, 0 ≤ x ∧ x ≤ 6) → IntsAre z0 (lineP mv m0) → IntsAre z1 (lineP mv m1) → IntsAre z2 (lineP mv m2) → cr ≠ cm → R ≠ cr → D ≠ cr → r0 ≠ cr → r1 ≠ cr → r2 ≠ cr → d0 ≠ cr → d1 ≠ cr → d2 ≠ cr → (∀ p ∈ news, p.1 ≠ cr) → PySem.Challenge.rw_mr0378_01 = PySem.Challenge.rw_mr0378_01 →
    (∀ (h' : Heap) (tk : Nat) (orr' : Obj) (ov' : Option Value) (m' : Str → Option Value), Fr h₀ L h' (fun y => if y = Str.ofString "told" then some (.ref D) else m' y) → orr'.data = .cell ov' → News h₀ L h' ((cr, orr') :: (cm, om) :: (D, PySem.W.listOf #[.ref d0, .ref d1, .ref d2] nD) :: (d0, PySem.W.listOf z0.toArray e0) :: (d1, PySem.W.listOf z1.toArray e1) :: (d2, PySem.W.listOf z2.toArray e2) :: news) → Q .next { s with heap := h', toks := tk }) →
    wpAny (model PySem.Challenge.rw_mr0378_01.row.prog w) (ktrTop 302 20 gd (Str.ofString "law") lawScope L a (.ref 285) [(Str.ofString "mult", cm), (Str.ofString "row", cr), (Str.ofString "key", ck)] outer) (exec (lawStmt 6) (envX (Str.ofString "law") lawScope L a (.ref 285) [(Str.ofString "mult", cm), (Str.ofString "row", cr), (Str.ofString "key", ck)])) Q (fun _ _ => False) s := by
  w_top off
  k_fill
  revert w loose mean mg mb
  (with_reducible refine @wi5_ap _ _ _ _ _ ?ne9 _ ?_); (case ne9 => walk_at "NE0"); refine (?m9 : Al5 _) _ _ _ _ _; intros w loose mean mg mb; refine ap5 ?_
  rintro gd a outer A₀ base h₀ L ck cr cm m news s Q om orr ov R r0 r1 r2 D d0 d1 d2 v0 v1 v2 z0 z1 z2 m0 m1 m2 nR n0 n1 n2 nD e0 e1 e2 mv t B F X BO N T hom mv1 mv6 horr i0 i1 i2 l0 l1 l2 b0 b1 b2 j0 j1 j2 q0 q1 q2 q3 q4 q5 q6 q7 q8 q9 _ hQ
  conv in (lawStmt _) => whnf
  conv in (occs := *) lawScope => (all_goals whnf)
  refine wpAny_For ?_
  k_extra "k7"
  refine zip_loop (σ := Obj) (cc := cr) (fun c => c) (fun _ => (cm, om) :: (R, PySem.W.listOf #[.ref r0, .ref r1, .ref r2] nR) :: (D, PySem.W.listOf #[.ref d0, .ref d1, .ref d2] nD) :: (r0, PySem.W.listOf v0.toArray n0) :: (r1, PySem.W.listOf v1.toArray n1) :: (r2, PySem.W.listOf v2.toArray n2) :: (d0, PySem.W.listOf z0.toArray e0) :: (d1, PySem.W.listOf z1.toArray e1) :: (d2, PySem.W.listOf z2.toArray e2) :: news)
    (fun _ => [(Str.ofString "told", .ref D)]) [] (fun _ c => ∃ ov, c.data = .cell ov) orr rfl rfl rfl rfl ?hoc rfl (.tail _ (.head _)) (.tail _ (.tail _ (.head _))) F N ?hk ⟨_, horr⟩ ?hps ?turn ?done
  case hoc =>
    rintro i c hc
    refine ⟨hc, fun p hp => ?_⟩
    simp only [List.mem_cons] at hp
    rcases hp with rfl | rfl | rfl | rfl | rfl | rfl | rfl | rfl | rfl | hp
    · exact q0.symm
    · exact q1
    · exact q2
    · exact q3
    · exact q4
    · exact q5
    · exact q6
    · exact q7
    · exact q8
    · exact q9 p hp
  case hk => (k_extra "PS9")
  case hps =>
    intro c p hp
    rcases List.mem_singleton.mp hp with rfl
    dsimp only; decide
  case turn =>
    rintro c i w0 w1 u h tk own o1 wr hx hy ⟨ov1, hc⟩ hw hof ho1 F5 N5
    (try dsimp only [kstB] at F5 N5)
    obtain ⟨ra, da, va, za, na, ea, ma, rfl, rfl, hma, hmd, hia, hja, hla, hba⟩ : ∃ ra da va za na ea ma, w0 = .ref ra ∧ w1 = .ref da ∧ (ra, PySem.W.listOf va.toArray na) ∈ own ++ (cr, o1) :: (cm, om) :: (R, PySem.W.listOf #[.ref r0, .ref r1, .ref r2] nR) :: (D, PySem.W.listOf #[.ref d0, .ref d1, .ref d2] nD) :: (r0, PySem.W.listOf v0.toArray n0) :: (r1, PySem.W.listOf v1.toArray n1) :: (r2, PySem.W.listOf v2.toArray n2) :: (d0, PySem.W.listOf z0.toArray e0) :: (d1, PySem.W.listOf z1.toArray e1) :: (d2, PySem.W.listOf z2.toArray e2) :: news ∧
        (da, PySem.W.listOf za.toArray ea) ∈ own ++ (cr, o1) :: (cm, om) :: (R, PySem.W.listOf #[.ref r0, .ref r1, .ref r2] nR) :: (D, PySem.W.listOf #[.ref d0, .ref d1, .ref d2] nD) :: (r0, PySem.W.listOf v0.toArray n0) :: (r1, PySem.W.listOf v1.toArray n1) :: (r2, PySem.W.listOf v2.toArray n2) :: (d0, PySem.W.listOf z0.toArray e0) :: (d1, PySem.W.listOf z1.toArray e1) :: (d2, PySem.W.listOf z2.toArray e2) :: news ∧ IntsAre va ma ∧ IntsAre za (lineP mv ma) ∧ va.length ≤ 4 ∧ (∀ x ∈ ma, 0 ≤ x ∧ x ≤ 6) := by
      have hi3 : i = 0 ∨ i = 1 ∨ i = 2 := by
        have := (Array.getElem?_eq_some_iff.mp hx).1
        simp at this; omega
      rcases hi3 with rfl | rfl | rfl
      · cases hx; cases hy
        exact ⟨r0, d0, v0, z0, n0, e0, m0, rfl, rfl, List.mem_append_right _ (by simp), List.mem_append_right _ (by simp), i0, j0, l0, b0⟩
      · cases hx; cases hy
        exact ⟨r1, d1, v1, z1, n1, e1, m1, rfl, rfl, List.mem_append_right _ (by simp), List.mem_append_right _ (by simp), i1, j1, l1, b1⟩
      · cases hx; cases hy
        exact ⟨r2, d2, v2, z2, n2, e2, m2, rfl, rfl, List.mem_append_right _ (by simp), List.mem_append_right _ (by simp), i2, j2, l2, b2⟩
    have N6 := news_front (news_front (news_front (news_front N5 hmd) (.tail _ hma)) (.tail _ (.tail _ (List.mem_append_right _ (.tail _ (.head _)))))) (.tail _ (.tail _ (.tail _ (List.mem_append_right _ (.head _)))))
    clear N5 N F
    k_extra "k5"
    k_dflt (refine comp2 (n := 7) (fun i k => k * mv % 7 == (i : Int)) F5 N6 (by rfl) (by with_unfolding_all rfl) (by decide) (by rfl) (by decide) (by rfl) (by rfl) (by decide) (ax := ra) (na := na) ?mem hia (Nat.le_trans hla (by decide)) (by decide) ?h0 ?h1 ?h2 ?h3 ?hq)
    case mem => k_mem
    case h0 =>
      k_extra "k9"
      · assumption
      · assumption
    case h1 =>
      intro C oC m₂ h1 tk1 E1 hC1 F1 N1 off1
      clear F5 N6
      k_extra "k9"
    case h2 =>
      intro C oC m₂ h1 tk1 E1 i1' k1 t1 u1 hi7 hk1 hC1 hmx1 hmy1 F1 N1 off1
      clear F5 N6
      k_extra "k9"
      rw [Int.fmod_eq_emod_of_nonneg _ (by decide : (0:Int) ≤ 7)]
    case h3 =>
      intro C oC m₂ h1 tk1 E1 k1 u1 hC1 hmy1 F1 N1 off1
      clear F5 N6
      k_extra "k9"
    case hq =>
      intro D1 h1 tk1 ys F1 N1 off1 hys
      clear F5 N6
      have hys' : IntsAre ys (lineP mv ma) := by
        have e : lineP mv ma = (List.range 7).flatMap fun i : Nat => ma.filter fun k => k * mv % 7 == (i : Int) := by
          unfold lineP nsC
          rw [List.flatMap_map]
          rfl
        rw [e]; exact hys
      refine ne_intsK (News.isList N1 (.tail _ (by k_mem))) hja (News.isList N1 (.head _)) hys' (Nat.le_of_ble_eq_true rfl) ?_
      rw [decide_eq_true rfl]
      k_extra "k9"
      refine pturn_end (σ := Obj) o1 F1 N1 (fun p hp => .tail _ (.tail _ (.tail _ (.tail _ (.tail _ hp))))) ?hne1 ?hk1 ?hr1 ⟨_, ho1⟩
      case hne1 =>
        intro p hp
        rcases List.mem_cons.mp hp with rfl | hp
        · exact hw (cr, c) (.head _)
        · exact hw p (.tail _ hp)
      case hk1 => (k_extra "PS9")
      case hr1 => first | ksw_same | k_extra "hr2"
  case done =>
    rintro c u h tk ⟨ov1, hc⟩ F5 N5
    (try dsimp only [kstB] at F5 N5)
    exact hQ h tk c ov1 _ F5 hc (news_sub N5 (by k_extra "sub"))
end
section --B2
theorem turn2 {w : World} {loose : List Str} {mean : ExcName → Option Value} {mg mb : Str → Option Value} :
  ∀ (gd : Option (List Code)) (a : Addr) (outer : List Env) (A₀ : Around) (base h₀ : Heap) (L ck cr cm : Addr) (m : Str → Option Value) (news : List (Addr × Obj)) (s : Shared)
    (Q : Flow → Shared → Prop) (e0 e1 e2 : Addr) (x y : List Value) (nx ny : Nat) (ms ns : List Int),
    Below A₀ base outer h₀ → Fr h₀ L s.heap (fun y => if y = Str.ofString "last" then some (.ref e2) else if y = Str.ofString "other" then some (.ref e1) else if y = Str.ofString "one" then some (.ref e0) else m y) → (Mine.hd0.heap_1 w.params).In h₀ → Boot w h₀ → News h₀ L s.heap (news) → Top topProg loose mean mg mb h₀ →
    SmC w → GocC w → (e0, PySem.W.listOf x.toArray nx) ∈ news → (e1, PySem.W.listOf y.toArray ny) ∈ news → IntsAre x ms → IntsAre y ns → ms.length ≤ 4 → ns.length ≤ 4 → ns.Nodup → opsF ms ns = codesP ms ns → PySem.Challenge.rw_mr0378_01 = PySem.Challenge.rw_mr0378_01 →
    (∀ (h' : Heap) (tk : Nat), Fr h₀ L h' (fun y => if y = Str.ofString "last" then some (.ref e2) else if y = Str.ofString "other" then some (.ref e1) else if y = Str.ofString "one" then some (.ref e0) else m y) → News h₀ L h' news → Q .next { s with heap := h', toks := tk }) →
    wpAny (model PySem.Challenge.rw_mr0378_01.row.prog w) (ktrTop 302 20 gd (Str.ofString "law") lawScope L a (.ref 285) [(Str.ofString "mult", cm), (Str.ofString "row", cr), (Str.ofString "key", ck)] outer) (exec (lawTurn 1) (envX (Str.ofString "law") lawScope L a (.ref 285) [(Str.ofString "mult", cm), (Str.ofString "row", cr), (Str.ofString "key", ck)])) Q (fun _ _ => False) s := by
  w_top off
  k_fill
  revert w loose mean mg mb
  (with_reducible refine @wi5_ap _ _ _ _ _ ?ne9 _ ?_); (case ne9 => walk_at "NE0"); refine (?m9 : Al5 _) _ _ _ _ _; intros w loose mean mg mb; refine ap5 ?_
  rintro gd a outer A₀ base h₀ L ck cr cm m news s Q e0 e1 e2 x y nx ny ms ns B F X BO N T hS hG h0 h1 i0 i1 l0 l1 nd heq _ hQ
  conv in (lawTurn _) => whnf
  conv in (occs := *) lawScope => (all_goals whnf)
  have N0 := N
  replace N := news_front (news_front N h1) (.tail _ h0)
  k_extra "k2"
  refine wpAny_up (hS _ _ _ _ _ _ _ A₀ base h₀ L _ _ _ _ _ _ _ _ _ e0 e1 x y nx ny ms ns B (by assumption) X BO N T rfl (by k_mem) (by k_mem) i0 i1 (by have := i0.length; omega) (by have := i1.length; omega) nd ?ret) (Nat.le_of_ble_eq_true rfl) (Nat.le_of_ble_eq_true rfl)
  case ret =>
    rintro q ⟨d, la, lb, bd, sj, sp, xs', ys', ea', eb', t, ob, kvs, al, tj, led⟩ h3 tk3 news3 F3 N3 hs3 hd3 hSm
    (try dsimp only at hd3)
    have hqd := hSm.2.1
    have hdd := hSm.1
    (try dsimp only at hqd hdd)
    have N4 := news_front (news_front N3 hdd) (.tail _ hqd)
    clear F N N0
    k_extra "k2"
    refine wpAny_up (hG _ _ _ _ _ _ _ A₀ base h₀ L _ _ _ _ _ _ _ _ _ q ⟨d, la, lb, bd, sj, sp, xs', ys', ea', eb', t, ob, kvs, al, tj, led⟩ ms ns B (by assumption) X BO N3 T rfl hSm ?ret2) (Nat.le_of_ble_eq_true rfl) (Nat.le_of_ble_eq_true rfl)
    case ret2 =>
      intro r5 h5 tk5 news5 vs n F5 N5 hs5 hr5 hm5 hO5
      (try dsimp only at hs5 hr5)
      have hsub : ∀ p ∈ (e0, PySem.W.listOf x.toArray nx) :: (e1, PySem.W.listOf y.toArray ny) :: news, p ∈ news5 := fun p hp => hs5 p (hs3 p hp) (hd3 p hp)
      have N6 := news_front (news_front N5 (hsub _ (.tail _ (.head _)))) (.tail _ (hsub _ (.head _)))
      clear F3 N3 N4
      k_extra "k2"
      refine wpAny_up (lc _ _ _ _ _ _ _ A₀ base h₀ L _ _ _ _ _ e0 e1 x y nx ny ms ns B (by assumption) X BO N6 T rfl (.head _) (.tail _ (.head _)) i0 i1 (by have := i0.length; omega) (by have := i1.length; omega) rfl ?ret3) (Nat.le_of_ble_eq_true rfl) (Nat.le_of_ble_eq_true rfl)
      case ret3 =>
        intro D7 h7 tk7 us n7 news7 F7 N7 hs7 hm7 hr7 hO7
        rw [← heq] at hO7
        refine n_nops N7 (hs7 _ (.tail _ (.tail _ hm5))) (hO5.sub fun p hp => hs7 p (.tail _ (.tail _ hp))) hm7 hO7 (Nat.le_of_ble_eq_true rfl) ?_
        have N8 := news_sub N7 (fun p hp => hs7 p (.tail _ (.tail _ (hsub p (.tail _ (.tail _ hp))))))
        clear N5 N6 F5 N7
        k_extra "k2"
        exact hQ _ _ F7 N8
end
section --B5
theorem turn5 {w : World} {loose : List Str} {mean : ExcName → Option Value} {mg mb : Str → Option Value} :
  ∀ (gd : Option (List Code)) (a : Addr) (outer : List Env) (A₀ : Around) (base h₀ : Heap) (L ck cr cm : Addr) (m : Str → Option Value) (news : List (Addr × Obj)) (s : Shared)
    (Q : Flow → Shared → Prop) (S e0 e1 e2 w1 w2 : Addr) (x y z z1 z2 : List Value) (nS nx ny nz n1 n2 : Nat) (ms ns ps a1 : List Int),
    Below A₀ base outer h₀ → Fr h₀ L s.heap (fun y => if y = Str.ofString "steps" then some (.ref S) else if y = Str.ofString "last" then some (.ref e2) else if y = Str.ofString "other" then some (.ref e1) else if y = Str.ofString "one" then some (.ref e0) else m y) → (Mine.hd0.heap_1 w.params).In h₀ → Boot w h₀ → News h₀ L s.heap ((S, PySem.W.listOf #[.ref e0, .ref w1, .ref w2] nS) :: (w1, PySem.W.listOf z1.toArray n1) :: (w2, PySem.W.listOf z2.toArray n2) :: (e0, PySem.W.listOf x.toArray nx) :: (e1, PySem.W.listOf y.toArray ny) :: (e2, PySem.W.listOf z.toArray nz) :: news) → Top topProg loose mean mg mb h₀ →
    SmC w → GocC w → IntsAre x ms → IntsAre y ns → IntsAre z ps → ms.length ≤ 4 → ns.length ≤ 4 → ps.length ≤ 4 → ns.Nodup → ps.Nodup → IntsAre z2 (withinP a1 ps) → sharedP ms (opsF ms ns) = a1 → sharedP a1 (opsF a1 ps) = withinP a1 ps → OpsOk ms ns → OpsOk a1 ps → a1.length ≤ 4 → PySem.Challenge.rw_mr0378_01 = PySem.Challenge.rw_mr0378_01 →
    (∀ (h' : Heap) (tk : Nat), Fr h₀ L h' (fun y => if y = Str.ofString "steps" then some (.ref S) else if y = Str.ofString "last" then some (.ref e2) else if y = Str.ofString "other" then some (.ref e1) else if y = Str.ofString "one" then some (.ref e0) else m y) → News h₀ L h' ((S, PySem.W.listOf #[.ref e0, .ref w1, .ref w2] nS) :: (w1, PySem.W.listOf z1.toArray n1) :: (w2, PySem.W.listOf z2.toArray n2) :: (e0, PySem.W.listOf x.toArray nx) :: (e1, PySem.W.listOf y.toArray ny) :: (e2, PySem.W.listOf z.toArray nz) :: news) → Q .next { s with heap := h', toks := tk }) →
    wpAny (model PySem.Challenge.rw_mr0378_01.row.prog w) (ktrTop 302 20 gd (Str.ofString "law") lawScope L a (.ref 285) [(Str.ofString "mult", cm), (Str.ofString "row", cr), (Str.ofString "key", ck)] outer) (exec (lawTurn 4) (envX (Str.ofString "law") lawScope L a (.ref 285) [(Str.ofString "mult", cm), (Str.ofString "row", cr), (Str.ofString "key", ck)])) Q (fun _ _ => False) s := by
  w_top off
  k_fill
  revert w loose mean mg mb
  (with_reducible refine @wi5_ap _ _ _ _ _ ?ne9 _ ?_); (case ne9 => walk_at "NE0"); refine (?m9 : Al5 _) _ _ _ _ _; intros w loose mean mg mb; refine ap5 ?_
  rintro gd a outer A₀ base h₀ L ck cr cm m news s Q S e0 e1 e2 w1 w2 x y z z1 z2 nS nx ny nz n1 n2 ms ns ps a1 B F X BO N T hS hG i0 i1 i2 l0 l1 l2 nd1 nd2 j2 p1 p2 ok1 ok2 la1 _ hQ
  conv in (lawTurn _) => whnf
  conv in (occs := *) lawScope => (all_goals whnf)
  k_extra "k10"
  rename_i l3' _ F1 N1 lt4
  obtain ⟨LM, hLM⟩ : ∃ LM : List (Addr × Obj), LM = [(e0, PySem.W.listOf x.toArray nx), (e1, PySem.W.listOf y.toArray ny), (e2, PySem.W.listOf z.toArray nz)] := ⟨_, rfl⟩
  have hRF : RedF w 276 [.ref e1, .ref e2] (fun k v n => (∀ p ∈ LM, p ∈ n) ∧ ∃ b vs nv, v = .ref b ∧ (b, PySem.W.listOf (List.toArray vs) nv) ∈ n ∧ IntsAre vs (if k = 0 then ms else if k = 1 then a1 else withinP a1 ps)) := by
    unfold RedF
    intro gd2 cn2 cs2 a2 ccd2 cl2 outer2 A2 base2 h2 L2 m2 news2 s2 loose2 mean2 mg2 mb2 Q2 E2 k v item B2 F2 X2 BO2 N5 T2 hk2 hit hInv hR
    obtain ⟨hL, b, vs, nv, rfl, hb, hls⟩ := hInv
    have hL0 := hL
    rw [hLM] at hL
    have hk01 : k = 0 ∨ k = 1 := by
      have := (List.getElem?_eq_some_iff.mp hit).1
      simp at this; omega
    rcases hk01 with rfl | rfl
    · cases hit
      refine wpAny_up (sh _ _ _ _ _ _ _ A2 base2 h2 L2 _ _ _ _ _ b e1 _ y _ ny ms ns B2 F2 X2 BO2 N5 T2 hk2 hS hG hb (hL _ (.tail _ (.head _))) hls i1 l0 l1 nd1 ok1 rfl ?ret) (Nat.le_of_ble_eq_true rfl) (Nat.le_of_ble_eq_true rfl)
      case ret =>
        intro D7 h7 tk7 zs7 n7 news7 F7 N7 hs7 hm7 hr7 hz7
        rw [p1] at hz7
        exact hR _ _ _ _ F7 N7 hs7 ⟨fun p hp => hs7 p (hL0 p hp), D7, zs7, n7, rfl, hm7, hz7⟩
    · cases hit
      refine wpAny_up (sh _ _ _ _ _ _ _ A2 base2 h2 L2 _ _ _ _ _ b e2 _ z _ nz a1 ps B2 F2 X2 BO2 N5 T2 hk2 hS hG hb (hL _ (.tail _ (.tail _ (.head _)))) hls i2 la1 l2 nd2 ok2 rfl ?ret) (Nat.le_of_ble_eq_true rfl) (Nat.le_of_ble_eq_true rfl)
      case ret =>
        intro D7 h7 tk7 zs7 n7 news7 F7 N7 hs7 hm7 hr7 hz7
        rw [p2] at hz7
        exact hR _ _ _ _ F7 N7 hs7 ⟨fun p hp => hs7 p (hL0 p hp), D7, zs7, n7, rfl, hm7, hz7⟩
  refine wpAny_up (rd _ _ _ _ _ _ _ A₀ base h₀ L _ _ _ _ _ l3' e0 [.ref e1, .ref e2] _ _ B F1 X BO N1 T rfl (.head _) (Nat.le_of_ble_eq_true rfl) ?hI0 ?hmono ?hbut hRF rfl ?ret9) (Nat.le_of_ble_eq_true rfl) (Nat.le_of_ble_eq_true rfl)
  case hI0 =>
    refine ⟨?_, e0, x, nx, rfl, by k_mem, i0⟩
    rw [hLM]
    k_extra "sub"
  case hmono =>
    rintro k v n1 n2 ⟨h1, b, vs, nv, hv, hb, hl⟩ hs
    exact ⟨fun p hp => hs p (h1 p hp), b, vs, nv, hv, hs _ hb, hl⟩
  case hbut =>
    rintro k v n h₀' h' L' I o N' hI hc ⟨h1, b, vs, nv, hv, hb, hl⟩
    have hne : ∀ {b : Addr} {vs : List Value} {nv : Nat}, (b, PySem.W.listOf vs.toArray nv) ∈ n → b ≠ I := fun hb => news_ne N' hb hI (by rw [hc]; show Value.type "list" ≠ Value.type "list_iterator"; decide)
    refine ⟨fun p hp => but_mem (h1 p hp) ?_, b, vs, nv, hv, but_mem hb (hne hb), hl⟩
    have h1' := h1 p hp
    rw [hLM] at hp
    simp only [List.mem_cons, List.not_mem_nil, or_false] at hp
    rcases hp with rfl | rfl | rfl
    · exact hne h1'
    · exact hne h1'
    · exact hne h1'
  case ret9 =>
    rintro v h9 tk9 news9 F9 N9 hs9 ⟨_, b, vs, nv, rfl, hb, hl⟩
    have hl' : IntsAre vs (withinP a1 ps) := hl
    clear hRF
    have N8 := news_front (news_front N9 (hs9 _ (by k_mem : (w2, PySem.W.listOf z2.toArray n2) ∈ _))) (.tail _ (hs9 _ (by k_mem : (S, PySem.W.listOf #[.ref e0, .ref w1, .ref w2] nS) ∈ _)))
    (try clear N1)
    (try clear F1)
    k_extra "k6"
    refine ne_intsK (News.isList N9 hb) hl' (News.isList N9 (hs9 _ (by k_mem))) j2 (Nat.le_of_ble_eq_true rfl) ?_
    rw [decide_eq_true rfl]
    k_extra "k6"
    exact hQ _ _ F9 (news_sub N9 (fun p hp => hs9 p (.tail _ hp)))
end
section --L8
noncomputable def ledT (cc : Addr) : Option (Addr × Obj) → List (Addr × Obj)
  | none => [(283, tabObj #[rawInt 547, rawInt 21, .ref cc])]
  | some (c, o) => [(283, tabObj #[rawInt 547, rawInt 21, .ref cc, rawInt 557, rawInt 18, .ref c]), (c, o)]
noncomputable def ledO : Option (Addr × Obj) → Prop
  | none => True
  | some (c, o) => (∃ vs9 t9, o.data = Data.fields vs9 ∧ vs9[1]? = some (Value.str (Str.ofString "law" ++ Str.ofString ".<locals>." ++ Str.ofString "<lambda>") t9)) ∧ @Ne Nat c 283
theorem law8 {w : World} {loose : List Str} {mean : ExcName → Option Value} {mg mb : Str → Option Value} :
  ∀ (gd : Option (List Code)) (a : Addr) (outer : List Env) (A₀ : Around) (base h₀ : Heap) (L ck cr cm : Addr) (m : Str → Option Value) (news : List (Addr × Obj)) (s : Shared)
    (Q : Flow → Shared → Prop) (cc D d0 d1 d2 : Addr) (nD q0 q1 q2 : Nat) (z0 z1 z2 : List Value) (c0 c1 c2 : List Int),
    Below A₀ base outer h₀ → Fr h₀ L s.heap (fun y => if y = Str.ofString "told" then some (.ref D) else m y) → (Mine.hd0.heap_1 w.params).In h₀ → Boot w h₀ → News h₀ L s.heap ((283, tabObj #[rawInt 547, rawInt 21, .ref cc]) :: (D, PySem.W.listOf #[.ref d0, .ref d1, .ref d2] nD) :: (d0, PySem.W.listOf z0.toArray q0) :: (d1, PySem.W.listOf z1.toArray q1) :: (d2, PySem.W.listOf z2.toArray q2) :: news) → Top topProg loose mean mg mb h₀ →
    CodeHd h₀ 285 283 → SmC w → GocC w → IntsAre z0 c0 → IntsAre z1 c1 → IntsAre z2 c2 → c0.length ≤ 4 → c1.length ≤ 4 → c2.length ≤ 4 → Row3 c0 c1 c2 → Row3 c1 c2 c0 → Row3 c2 c0 c1 → @Ne Nat D 283 → (∀ p ∈ news, @Ne Nat p.1 283) → PySem.Challenge.rw_mr0378_01 = PySem.Challenge.rw_mr0378_01 →
    (∀ (h' : Heap) (tk : Nat) (m' : Str → Option Value) (tab2 : Array Value), Fr h₀ L h' m' → News h₀ L h' ((283, tabObj tab2) :: news) → Q .next { s with heap := h', toks := tk }) →
    wpAny (model PySem.Challenge.rw_mr0378_01.row.prog w) (ktrTop 302 20 gd (Str.ofString "law") lawScope L a (.ref 285) [(Str.ofString "mult", cm), (Str.ofString "row", cr), (Str.ofString "key", ck)] outer) (exec (lawStmt 7) (envX (Str.ofString "law") lawScope L a (.ref 285) [(Str.ofString "mult", cm), (Str.ofString "row", cr), (Str.ofString "key", ck)])) Q (fun _ _ => False) s := by
  w_top off
  k_fill
  revert w loose mean mg mb
  (with_reducible refine @wi5_ap _ _ _ _ _ ?ne9 _ ?_); (case ne9 => walk_at "NE0"); refine (?m9 : Al5 _) _ _ _ _ _; intros w loose mean mg mb; refine ap5 ?_
  rintro gd a outer A₀ base h₀ L ck cr cm m news s Q cc D d0 d1 d2 nD q0 q1 q2 z0 z1 z2 c0 c1 c2 B F X BO N T hC hS hG i0 i1 i2 l0 l1 l2 r0 r1 r2 hD h283 _ hQ
  show wpAny _ _ (exec (Stmt.For _ _ [lawTurn 0, lawTurn 1, lawTurn 2, lawTurn 3, lawTurn 4] [] _) _) _ _ _
  skip
  (rename Fr _ _ _ _ => lF9); (with_unfolding_all refine' For_invVF lF9 ?k1 ?k2 ?_; (case k1 => exact rfl); (case k2 => exact rfl); k_whole)
  k_extra "k0"
  rename_i h1 tk1 t1 u1 v1 R1 F1 N1 K1
  refine range_loop (σ := Option (Addr × Obj)) (n := 3) (fun c => ledT cc c ++ (D, PySem.W.listOf #[.ref d0, .ref d1, .ref d2] nD) :: (d0, PySem.W.listOf z0.toArray q0) :: (d1, PySem.W.listOf z1.toArray q1) :: (d2, PySem.W.listOf z2.toArray q2) :: news) (fun _ => [(Str.ofString "told", .ref D)]) [Str.ofString "one", Str.ofString "other", Str.ofString "last", Str.ofString "steps"]
    (fun _ c => ledO c) none rfl R1 (by decide) (by decide) F1 N1 ?ps trivial ?turn ?done
  case ps => (k_extra "PS9")
  case turn =>
    rintro c i t u h tk I oi hi3 hc hI F5 N5
    (try dsimp only [kstB] at F5)
    obtain ⟨tb, htb⟩ : ∃ l, ledT cc c = l := ⟨_, rfl⟩
    have hn283 : ∀ p ∈ ((D, PySem.W.listOf #[.ref d0, .ref d1, .ref d2] nD) :: news), @Ne Nat p.1 283 := fun p hp => by
      rcases List.mem_cons.mp hp with rfl | hp
      · exact hD
      · exact h283 p hp
    have hkv : ((0 : Int) + (i : Int) = 0 ∨ (0 : Int) + (i : Int) = 1 ∨ (0 : Int) + (i : Int) = 2) := om_i3 (by assumption)
    obtain ⟨e0, e1, e2, x, y, z, p0, p1, p2, ms, ns, ps, hk3, j0, j1, j2, k0, k1, k2, hr, hs⟩ : ∃ (e0 e1 e2 : Addr) (x y z : List Value) (p0 p1 p2 : Nat) (ms ns ps : List Int),
        (((0 : Int) + (i : Int) = 0 ∧ e0 = d0 ∧ e1 = d1 ∧ e2 = d2) ∨ ((0 : Int) + (i : Int) = 1 ∧ e0 = d1 ∧ e1 = d2 ∧ e2 = d0) ∨ ((0 : Int) + (i : Int) = 2 ∧ e0 = d2 ∧ e1 = d0 ∧ e2 = d1)) ∧
        IntsAre x ms ∧ IntsAre y ns ∧ IntsAre z ps ∧ ms.length ≤ 4 ∧ ns.length ≤ 4 ∧ ps.length ≤ 4 ∧ Row3 ms ns ps ∧
        (∀ q, q ∈ [(e0, PySem.W.listOf x.toArray p0), (e1, PySem.W.listOf y.toArray p1), (e2, PySem.W.listOf z.toArray p2)] ↔ q ∈ [(d0, PySem.W.listOf z0.toArray q0), (d1, PySem.W.listOf z1.toArray q1), (d2, PySem.W.listOf z2.toArray q2)]) := by
      rcases hkv with e | e | e
      · exact ⟨d0, d1, d2, z0, z1, z2, q0, q1, q2, c0, c1, c2, .inl ⟨e, rfl, rfl, rfl⟩, i0, i1, i2, l0, l1, l2, r0, fun q => Iff.rfl⟩
      · exact ⟨d1, d2, d0, z1, z2, z0, q1, q2, q0, c1, c2, c0, .inr (.inl ⟨e, rfl, rfl, rfl⟩), i1, i2, i0, l1, l2, l0, r1, fun q => by simp only [List.mem_cons, List.not_mem_nil, or_false]; grind⟩
      · exact ⟨d2, d0, d1, z2, z0, z1, q2, q0, q1, c2, c0, c1, .inr (.inr ⟨e, rfl, rfl, rfl⟩), i2, i0, i1, l2, l0, l1, r2, fun q => by simp only [List.mem_cons, List.not_mem_nil, or_false]; grind⟩
    obtain ⟨a1, a2, a3, a4, a5, a6, nd1, nd2⟩ := hr
    generalize hkI : (0 : Int) + (i : Int) = kv at F5 hk3
    have N6 : News h₀ L h (tb ++ (D, PySem.W.listOf #[.ref d0, .ref d1, .ref d2] nD) :: (e0, PySem.W.listOf x.toArray p0) :: (e1, PySem.W.listOf y.toArray p1) :: (e2, PySem.W.listOf z.toArray p2) :: (I, oi) :: news) := news_sub N5 (fun q hq => by
      have := hs q
      simp only [htb, List.mem_cons, List.mem_append, List.not_mem_nil, or_false] at this hq ⊢
      grind)
    clear N5 N1 F1 R1
    refine wpAny_execs_cons ?_
    refine turn1 _ _ _ A₀ base h₀ L ck cr cm _ _ _ _ kv t D d0 d1 d2 e0 e1 e2 nD B F5 X BO (news_sub N6 (by k_extra "sub") : News h₀ L h ((D, PySem.W.listOf #[.ref d0, .ref d1, .ref d2] nD) :: (tb ++ (e0, PySem.W.listOf x.toArray p0) :: (e1, PySem.W.listOf y.toArray p1) :: (e2, PySem.W.listOf z.toArray p2) :: (I, oi) :: news))) T hk3 rfl ?r1
    intro h7 tk7 F7 N7
    (try dsimp only)
    have hI283 : @Ne Nat I 283 := fun e => hI _ (by rw [show ledT cc c = tb from htb]; rw [← htb]; cases c <;> exact .head _ : (283, (ledT cc c).head!.2) ∈ _) e.symm
    have hnn : ∀ p ∈ ((D, PySem.W.listOf #[.ref d0, .ref d1, .ref d2] nD) :: (I, oi) :: news), @Ne Nat p.1 283 := fun p hp => by
      rcases List.mem_cons.mp hp with rfl | hp
      · exact hD
      · rcases List.mem_cons.mp hp with rfl | hp
        · exact hI283
        · exact h283 p hp
    refine wpAny_execs_cons ?_
    refine turn2 _ _ _ A₀ base h₀ L ck cr cm _ _ _ _ e0 e1 e2 x y p0 p1 ms ns B F7 X BO N7 T hS hG (by simp) (by simp) j0 j1 k0 k1 nd1 a1 rfl ?r2
    intro h8 tk8 F8 N8
    (try dsimp only)
    refine wpAny_execs_cons ?_
    refine turn3 _ _ _ A₀ base h₀ L ck cr cm _ _ _ _ e0 e1 e2 x y z p0 p1 p2 ms ns ps B F8 X BO N8 T (by simp) (by simp) (by simp) j0 j1 j2 k0 k1 k2 rfl ?r3
    intro h9 tk9 S w1 w2 s1 s2 nS n1 n2 F9 N9 v1 v2
    (try dsimp only)
    refine wpAny_execs_cons ?_
    clear N6 N7 N8
    have fin : ∀ (c' : Option (Addr × Obj)) (h' : Heap) (tk' : Nat), ledO c' → (∀ p ∈ ledT cc c', p.1 ≠ I) → Fr h₀ L h' (fun y => if y = Str.ofString "steps" then some (.ref S) else if y = Str.ofString "last" then some (.ref e2) else if y = Str.ofString "other" then some (.ref e1) else if y = Str.ofString "one" then some (.ref e0) else if y = Str.ofString "k" then some (.int kv t) else if y = Str.ofString "told" then some (.ref D) else if [Str.ofString "one", Str.ofString "other", Str.ofString "last", Str.ofString "steps"].contains y = true then u y else if y = Str.ofString "told" then some (.ref D) else m y) →
        News h₀ L h' (ledT cc c' ++ (S, PySem.W.listOf #[.ref e0, .ref w1, .ref w2] nS) :: (w1, PySem.W.listOf s1.toArray n1) :: (w2, PySem.W.listOf s2.toArray n2) :: (e0, PySem.W.listOf x.toArray p0) :: (e1, PySem.W.listOf y.toArray p1) :: (e2, PySem.W.listOf z.toArray p2) :: ((D, PySem.W.listOf #[.ref d0, .ref d1, .ref d2] nD) :: (I, oi) :: news)) →
        wpAny (model PySem.Challenge.rw_mr0378_01.row.prog w) (ktrTop 302 20 gd (Str.ofString "law") lawScope L a (.ref 285) [(Str.ofString "mult", cm), (Str.ofString "row", cr), (Str.ofString "key", ck)] outer) (execs [lawTurn 4] (envX (Str.ofString "law") lawScope L a (.ref 285) [(Str.ofString "mult", cm), (Str.ofString "row", cr), (Str.ofString "key", ck)])) (TurnP h₀ L (Str.ofString "k") [Str.ofString "one", Str.ofString "other", Str.ofString "last", Str.ofString "steps"] (fun y => if y = Str.ofString "told" then some (.ref D) else m y) (fun c => ledT cc c ++ (D, PySem.W.listOf #[.ref d0, .ref d1, .ref d2] nD) :: (d0, PySem.W.listOf z0.toArray q0) :: (d1, PySem.W.listOf z1.toArray q1) :: (d2, PySem.W.listOf z2.toArray q2) :: news) (fun _ => [(Str.ofString "told", .ref D)]) (fun c => ledO c) I oi { s with heap := h, toks := tk } Q) (fun _ _ => False) { s with heap := h', toks := tk' } := by
      intro c' h' tk' hc' hI' F' N'
      refine wpAny_execs_cons ?_
      refine turn5 _ _ _ A₀ base h₀ L ck cr cm _ (ledT cc c' ++ ((D, PySem.W.listOf #[.ref d0, .ref d1, .ref d2] nD) :: (I, oi) :: news)) _ _ S e0 e1 e2 w1 w2 x y z s1 s2 nS p0 p1 p2 n1 n2 ms ns ps (withinP ms ns) B F' X BO (news_sub N' (by k_extra "sub")) T hS hG j0 j1 j2 k0 k1 k2 nd1 nd2 v2 a3 a5 a2 a4 a6 rfl ?r5
      intro h5 tk5 F5 N5
      refine wpAny_execs_nil ?_
      refine turn_end (σ := Option (Addr × Obj)) c' F5 N5 ?hs ?hne ?hk ?hr hc'
      case hk => (k_extra "PS9")
      case hr => kst_same
      case hs =>
        intro q hq
        have := hs q
        simp only [List.mem_cons, List.mem_append, List.not_mem_nil, or_false] at this hq ⊢
        grind
      case hne =>
        intro p hp
        rcases List.mem_append.mp hp with hp | hp
        · exact hI' p hp
        · exact hI p (List.mem_append_right _ hp)
    cases c with
    | none =>
      subst htb
      refine turn4 _ _ _ A₀ base h₀ L ck cr cm _ ((D, PySem.W.listOf #[.ref d0, .ref d1, .ref d2] nD) :: (I, oi) :: news) _ _ cc S e0 e1 e2 w1 w2 x y z s1 s2 nS p0 p1 p2 n1 n2 ms ns ps (withinP ms ns) B F9 X BO (news_sub N9 (by simp only [ledT]; k_extra "sub")) T hC hS hG j0 j1 j2 k0 k1 k2 nd1 nd2 hnn v1 v2 a3 a5 a2 a4 a6 rfl ?r4
      intro h4 tk4 c2 oc vs9 t9 F4 N4 hoc hv9 hlt
      refine fin (some (c2, oc)) h4 tk4 ⟨⟨vs9, t9, hoc, hv9⟩, ?_⟩ ?_ F4 N4
      · intro e
        have g1 := News.get N4 (.tail _ (.head _))
        have g2 := News.get N4 (.head _)
        rw [show c2 = (283 : Nat) from e, g2] at g1
        cases g1
        cases hoc
        cases (show some (rawInt 21) = some _ from hv9)
      · intro p hp
        simp only [ledT, List.mem_cons, List.not_mem_nil, or_false] at hp
        rcases hp with rfl | rfl
        · exact fun e => hI283 e.symm
        · exact Nat.ne_of_gt (hlt (I, oi) (.tail _ (.head _)))
    | some q =>
      obtain ⟨c2, oc⟩ := q
      subst htb
      obtain ⟨⟨vs9, t9, hoc, hv9⟩, hc283⟩ := id hc
      refine turn4h _ _ _ A₀ base h₀ L ck cr cm _ ((D, PySem.W.listOf #[.ref d0, .ref d1, .ref d2] nD) :: (I, oi) :: news) _ _ cc c2 oc vs9 t9 S e0 e1 e2 w1 w2 x y z s1 s2 nS p0 p1 p2 n1 n2 ms ns ps (withinP ms ns) B F9 X BO (news_sub N9 (by simp only [ledT]; k_extra "sub")) T hoc hv9 hc283 hC hS hG j0 j1 j2 k0 k1 k2 nd1 nd2 hnn v1 v2 a3 a5 a2 a4 a6 rfl ?r4h
      intro h4 tk4 F4 N4
      exact fin (some (c2, oc)) h4 tk4 hc (fun p hp => hI p (List.mem_append_left _ hp)) F4 N4
  case done =>
    intro c u h tk hc F5 N5
    cases c with
    | none => exact hQ _ _ _ #[rawInt 547, rawInt 21, .ref cc] F5 (news_sub N5 (fun p hp => by
        rcases List.mem_cons.mp hp with rfl | hp
        · exact .head _
        · exact .tail _ (.tail _ (.tail _ (.tail _ (.tail _ hp))))))
    | some q => exact hQ _ _ _ #[rawInt 547, rawInt 21, .ref cc, rawInt 557, rawInt 18, .ref q.1] F5 (news_sub N5 (fun p hp => by
        rcases List.mem_cons.mp hp with rfl | hp
        · exact .head _
        · exact .tail _ (.tail _ (.tail _ (.tail _ (.tail _ (.tail _ hp)))))))
end
section --Lj
theorem swap2 {a b : Str} {u v : Value} {m : Str → Option Value} (h : a ≠ b) : (fun y => if y = a then some u else if y = b then some v else m y) = (fun y => if y = b then some v else if y = a then some u else m y) := by
  funext y
  by_cases h1 : y = a
  · subst h1; rw [if_pos rfl, if_neg h, if_pos rfl]
  · rw [if_neg h1]
    by_cases h2 : y = b
    · rw [if_pos h2, if_pos h2]
    · rw [if_neg h2, if_neg h2, if_neg h1]
theorem news_neD {h₀ h : Heap} {L a b : Addr} {o p : Obj} {l : List (Addr × Obj)} (N : News h₀ L h l) (ha : (a, o) ∈ l) (hb : (b, p) ∈ l) (hd : o.data ≠ p.data) : a ≠ b := fun e => by
  have g1 := News.get N ha
  have g2 := News.get N hb
  rw [e, g2] at g1
  cases g1
  exact hd rfl
theorem lawAll {w : World} {loose : List Str} {mean : ExcName → Option Value} {mg mb : Str → Option Value} :
  ∀ (gd : Option (List Code)) (a : Addr) (outer : List Env) (A₀ : Around) (base h₀ : Heap) (L ck cr cm : Addr) (m : Str → Option Value) (news : List (Addr × Obj)) (s : Shared)
    (Q : Flow → Shared → Prop) (l : Addr) (vs : List Value) (ns : List Int) (ok orr om : Obj) (ov1 ov2 ov3 : Option Value),
    Below A₀ base outer h₀ → Fr h₀ L s.heap (fun y => if y = Str.ofString "script" then some (.ref l) else m y) → (Mine.hd0.heap_1 w.params).In h₀ → Boot w h₀ → News h₀ L s.heap ([(248, tabObj #[]), (283, tabObj #[]), (ck, ok), (cr, orr), (cm, om)]) → Top topProg loose mean mg mb h₀ →
    h₀.IsList l vs.toArray → IntsAre vs ns → ns.length ≤ 63 → CodeHd h₀ 252 248 → CodeHd h₀ 285 283 → SmC w → GocC w → ok.data = .cell ov1 → orr.data = .cell ov2 → om.data = .cell ov3 → ck ≠ cm → ck ≠ cr → cr ≠ cm → @LT.lt Nat _ 283 ck → @LT.lt Nat _ 283 cr → @LT.lt Nat _ 283 cm → PySem.Challenge.rw_mr0378_01 = PySem.Challenge.rw_mr0378_01 →
    (∀ (h' : Heap) (tk : Nat) (m' : Str → Option Value) (tab1 tab2 : Array Value), Fr h₀ L h' m' → News h₀ L h' [(283, tabObj tab2), (248, tabObj tab1)] → Q (.ret (.bool true)) { s with heap := h', toks := tk }) →
    wpAny (model PySem.Challenge.rw_mr0378_01.row.prog w) (ktrTop 302 20 gd (Str.ofString "law") lawScope L a (.ref 285) [(Str.ofString "mult", cm), (Str.ofString "row", cr), (Str.ofString "key", ck)] outer) (execs [lawStmt 0, lawStmt 1, lawStmt 2, lawStmt 3, lawStmt 4, lawStmt 5, lawStmt 6, lawStmt 7, lawStmt 8] (envX (Str.ofString "law") lawScope L a (.ref 285) [(Str.ofString "mult", cm), (Str.ofString "row", cr), (Str.ofString "key", ck)])) Q (fun _ _ => False) s := by
  w_top off
  k_fill
  revert w loose mean mg mb
  (with_reducible refine @wi5_ap _ _ _ _ _ ?ne9 _ ?_); (case ne9 => walk_at "NE0"); refine (?m9 : Al5 _) _ _ _ _ _; intros w loose mean mg mb; refine ap5 ?_
  rintro gd a outer A₀ base h₀ L ck cr cm m news s Q l vs ns ok orr om ov1 ov2 ov3 B F X BO N T hl hi h63 hC1 hC2 hS hG hok horr hom n1 n2 n3 t1 t2 t3 _ hQ
  refine wpAny_execs_cons ?_
  refine law1 _ _ _ A₀ base h₀ L ck cr cm _ _ _ _ l vs ns B F X BO N T hl hi h63 rfl ?_
  intro h1 tk1 D zs ks nz F1 N1 lt1 hzs hz12
  (try dsimp only)
  have hk12 : ks.length ≤ 12 := by have := hzs.length; omega
  refine wpAny_execs_cons ?_
  rw [swap2 (by decide)] at F1
  have hD := fun p hp => Nat.ne_of_gt (lt1 p hp)
  refine law2 _ _ _ A₀ base h₀ L ck cr cm _ [(D, PySem.W.listOf zs.toArray nz), (248, tabObj #[]), (283, tabObj #[]), (ck, ok), (cr, orr)] _ _ l vs ns om ov3 B F1 X BO (news_sub N1 (by k_extra "sub")) T hom ?_ hl hi h63 rfl ?_
  · intro p hp
    simp only [List.mem_cons, List.not_mem_nil, or_false] at hp
    rcases hp with rfl | rfl | rfl | rfl | rfl
    · exact hD (cm, om) (by simp)
    · exact Nat.ne_of_lt (Nat.lt_trans (by decide : 248 < 283) t3)
    · exact Nat.ne_of_lt t3
    · exact n1
    · exact n3
  intro h2 tk2 om' mv t F2 N2 hom' mv1 mv6
  (try dsimp only)
  refine wpAny_execs_cons ?_
  refine law3 _ _ _ A₀ base h₀ L ck cr cm _ _ _ _ B F2 X BO N2 T rfl ?_
  intro h3 tk3 R r0 r1 r2 F3 N3 lt31 lt32 lt33 lt34
  (try dsimp only)
  refine wpAny_execs_cons ?_
  have e3 : (fun y => if y = Str.ofString "rows" then some (Value.ref R) else if y = Str.ofString "script" then some (.ref l) else if y = Str.ofString "numbers" then some (.ref D) else m y) = (fun y => if y = Str.ofString "rows" then some (Value.ref R) else if y = Str.ofString "numbers" then some (.ref D) else if y = Str.ofString "script" then some (.ref l) else m y) := by
    funext y
    rw [congrFun (swap2 (u := .ref l) (v := .ref D) (m := m) (by decide : Str.ofString "script" ≠ Str.ofString "numbers")) y]
  rw [e3] at F3
  have hlt : ∀ p ∈ [(cm, om'), (248, tabObj #[]), (283, tabObj #[]), (ck, ok), (cr, orr)], p.1 < r0 := fun p hp => lt34 p ((by k_extra "sub" : ∀ p ∈ _, p ∈ _) p hp)
  have l01 : @LT.lt Nat _ r0 r1 := lt31
  have l12 : @LT.lt Nat _ r1 r2 := lt32
  have l2R : @LT.lt Nat _ r2 R := lt33
  have lD0 : @LT.lt Nat _ D r0 := lt34 (D, PySem.W.listOf zs.toArray nz) (by simp)
  refine law4 _ _ _ A₀ base h₀ L ck cr cm _ [(cm, om'), (248, tabObj #[]), (283, tabObj #[]), (ck, ok), (cr, orr)] _ _ D R r0 r1 r2 zs ks nz 0 0 0 0 B F3 X BO (news_sub N3 (by k_extra "sub")) T hzs hz12 (Nat.ne_of_lt l01) (Nat.ne_of_lt (Nat.lt_trans l01 l12)) (Nat.ne_of_lt l12) (Nat.ne_of_gt (Nat.lt_trans l01 (Nat.lt_trans l12 l2R))) (Nat.ne_of_gt (Nat.lt_trans l12 l2R)) (Nat.ne_of_gt l2R) (Nat.ne_of_lt lD0) (Nat.ne_of_lt (Nat.lt_trans lD0 l01)) (Nat.ne_of_lt (Nat.lt_trans lD0 (Nat.lt_trans l01 l12)))
    (fun p hp => Nat.ne_of_lt (hlt p hp)) (fun p hp => Nat.ne_of_lt (Nat.lt_trans (hlt p hp) l01)) (fun p hp => Nat.ne_of_lt (Nat.lt_trans (hlt p hp) (Nat.lt_trans l01 l12))) rfl ?_
  intro h4 tk4 m4 v0 v1 v2 k0 k1 k2 F4 N4 i0 i1 i2
  (try dsimp only)
  have R3 := rowsF_ok ks ks.length
  have R0 := R3.1.mono (k := 4) (by omega)
  have R1 := R3.2.1.mono (k := 4) (by omega)
  have R2 := R3.2.2.mono (k := 4) (by omega)
  generalize (rowsF ks ks.length).1 = m0 at i0 R0
  generalize (rowsF ks ks.length).2.1 = m1 at i1 R1
  generalize (rowsF ks ks.length).2.2 = m2 at i2 R2
  have q0 : v0.length ≤ 4 := by have := i0.length; have := R0.2.2; omega
  have q1 : v1.length ≤ 4 := by have := i1.length; have := R1.2.2; omega
  have q2 : v2.length ≤ 4 := by have := i2.length; have := R2.2.2; omega
  clear N1 N2 N3 F1 F2 F3 R3
  refine wpAny_execs_cons ?_
  have e248 : @LT.lt Nat _ 248 283 := by decide
  have hltR : ∀ p ∈ [(R, PySem.W.listOf #[.ref r0, .ref r1, .ref r2] 0), (r0, PySem.W.listOf v0.toArray k0), (r1, PySem.W.listOf v1.toArray k1), (r2, PySem.W.listOf v2.toArray k2)], @LE.le Nat _ r0 p.1 := fun p hp => by
    simp only [List.mem_cons, List.not_mem_nil, or_false] at hp
    rcases hp with rfl | rfl | rfl | rfl
    · exact Nat.le_of_lt (Nat.lt_trans l01 (Nat.lt_trans l12 l2R))
    · exact Nat.le_refl _
    · exact Nat.le_of_lt l01
    · exact Nat.le_of_lt (Nat.lt_trans l01 l12)
  have hneR : ∀ {q : Addr × Obj}, q ∈ [(cm, om'), (248, tabObj #[]), (283, tabObj #[]), (ck, ok), (cr, orr)] → ∀ p ∈ [(R, PySem.W.listOf #[.ref r0, .ref r1, .ref r2] 0), (r0, PySem.W.listOf v0.toArray k0), (r1, PySem.W.listOf v1.toArray k1), (r2, PySem.W.listOf v2.toArray k2)], p.1 ≠ q.1 := fun hq p hp => Nat.ne_of_gt (Nat.lt_of_lt_of_le (hlt _ hq) (hltR p hp))
  refine law5 _ _ _ A₀ base h₀ L ck cr cm _ [(R, PySem.W.listOf #[.ref r0, .ref r1, .ref r2] 0), (r0, PySem.W.listOf v0.toArray k0), (r1, PySem.W.listOf v1.toArray k1), (r2, PySem.W.listOf v2.toArray k2)] _ _ om' ok orr ov1 ov2 mv t B F4 X BO (news_sub N4 (by k_extra "sub")) T hC1 hC2 hom' mv1 mv6 hok horr n1 n2 n3 t1 t2 t3
    (hneR (q := (248, tabObj #[])) (by simp)) (hneR (q := (283, tabObj #[])) (by simp)) (hneR (q := (ck, ok)) (by simp)) (hneR (q := (cr, orr)) (by simp)) (hneR (q := (cm, om')) (by simp)) rfl ?_
  intro h5 tk5 kc f L0 L1 tab1 cc ok' F5 N5 hok' hn5 hKi hKlt hCmp hf
  (try dsimp only)
  refine wpAny_execs_cons ?_
  refine law6 _ _ _ A₀ base h₀ L ck cr cm _ ((248, tabObj tab1) :: (283, tabObj #[rawInt 547, rawInt 21, .ref cc]) :: (cr, orr) :: (cm, om') :: (L0 ++ L1)) _ _ ok' kc f R r0 r1 r2 v0 v1 v2 m0 m1 m2 0 k0 k1 k2 L0 ((cm, om') :: L1) (fun x y => x * mv % 7 - y * mv % 7) B F5 X BO (news_sub N5 (fun p hp => by simp only [List.mem_cons, List.mem_append, List.not_mem_nil, or_false] at hp ⊢; grind)) T hok' i0 i1 i2 q0 q1 q2 R0.2.1 R1.2.1 R2.2.1 (by k_extra "sub") (by k_extra "sub") hKi hKlt hCmp ?_ rfl ?_
  · obtain ⟨oc, od, fd, sl, hm⟩ := hf
    exact ⟨oc, od, fd, sl, .tail _ hm⟩
  intro h6 tk6 T6 d0 d1 d2 z0 z1 z2 nT e0 e1 e2 F6 N6 j0 j1 j2
  (try dsimp only)
  clear N4 N5 F4 F5
  obtain ⟨O0, w0⟩ := line_ok mv1 mv6 R0
  obtain ⟨O1, w1⟩ := line_ok mv1 mv6 R1
  obtain ⟨O2, w2⟩ := line_ok mv1 mv6 R2
  rw [told_is, w0] at j0
  rw [told_is, w1] at j1
  rw [told_is, w2] at j2
  refine wpAny_execs_cons ?_
  have hcr : (cr, orr) ∈ (T6, PySem.W.listOf #[.ref d0, .ref d1, .ref d2] nT) :: (d0, PySem.W.listOf z0.toArray e0) :: (d1, PySem.W.listOf z1.toArray e1) :: (d2, PySem.W.listOf z2.toArray e2) :: (ck, ok') :: (R, PySem.W.listOf #[.ref r0, .ref r1, .ref r2] 0) :: (r0, PySem.W.listOf v0.toArray k0) :: (r1, PySem.W.listOf v1.toArray k1) :: (r2, PySem.W.listOf v2.toArray k2) :: (248, tabObj tab1) :: (283, tabObj #[rawInt 547, rawInt 21, .ref cc]) :: (cr, orr) :: (cm, om') :: (L0 ++ L1) := by simp
  have hnl : ∀ {b : Addr} {vs : Array Value} {n : Nat}, (b, PySem.W.listOf vs n) ∈ (T6, PySem.W.listOf #[.ref d0, .ref d1, .ref d2] nT) :: (d0, PySem.W.listOf z0.toArray e0) :: (d1, PySem.W.listOf z1.toArray e1) :: (d2, PySem.W.listOf z2.toArray e2) :: (ck, ok') :: (R, PySem.W.listOf #[.ref r0, .ref r1, .ref r2] 0) :: (r0, PySem.W.listOf v0.toArray k0) :: (r1, PySem.W.listOf v1.toArray k1) :: (r2, PySem.W.listOf v2.toArray k2) :: (248, tabObj tab1) :: (283, tabObj #[rawInt 547, rawInt 21, .ref cc]) :: (cr, orr) :: (cm, om') :: (L0 ++ L1) → b ≠ cr := fun hb => news_neD N6 hb hcr (by rw [horr]; intro e; cases e)
  refine law7 _ _ _ A₀ base h₀ L ck cr cm _ [(283, tabObj #[rawInt 547, rawInt 21, .ref cc]), (248, tabObj tab1)] _ _ om' orr ov2 R r0 r1 r2 T6 d0 d1 d2 v0 v1 v2 z0 z1 z2 m0 m1 m2 0 k0 k1 k2 nT e0 e1 e2 mv t B F6 X BO (news_sub N6 (by k_extra "sub")) T hom' mv1 mv6 horr i0 i1 i2 q0 q1 q2 R0.2.1 R1.2.1 R2.2.1 j0 j1 j2 n3
    (hnl (vs := #[.ref r0, .ref r1, .ref r2]) (n := 0) (by simp)) (hnl (vs := #[.ref d0, .ref d1, .ref d2]) (n := nT) (by simp)) (hnl (vs := v0.toArray) (n := k0) (by simp)) (hnl (vs := v1.toArray) (n := k1) (by simp)) (hnl (vs := v2.toArray) (n := k2) (by simp)) (hnl (vs := z0.toArray) (n := e0) (by simp)) (hnl (vs := z1.toArray) (n := e1) (by simp)) (hnl (vs := z2.toArray) (n := e2) (by simp)) ?_ rfl ?_
  · intro p hp
    simp only [List.mem_cons, List.not_mem_nil, or_false] at hp
    rcases hp with rfl | rfl
    · exact Nat.ne_of_lt t2
    · exact Nat.ne_of_lt (Nat.lt_trans e248 t2)
  intro h7 tk7 or7 ov7 m7 F7 hor7 N7
  (try dsimp only)
  refine wpAny_execs_cons ?_
  have hT283 : @Ne Nat T6 283 := news_neD N6 (.head _) (show ((283 : Nat), tabObj #[rawInt 547, rawInt 21, .ref cc]) ∈ _ by simp) (by intro e; cases e)
  clear N6 F6
  refine law8 _ _ _ A₀ base h₀ L ck cr cm _ [(248, tabObj tab1)] _ _ cc T6 d0 d1 d2 nT e0 e1 e2 z0 z1 z2 _ _ _ B F7 X BO (news_sub N7 (by k_extra "sub")) T hC2 hS hG j0 j1 j2 O0.len O1.len O2.len (row3_of O0 O1 O2) (row3_of O1 O2 O0) (row3_of O2 O0 O1) hT283 (fun p hp => by rw [List.mem_singleton.mp hp]; exact Nat.ne_of_lt e248) rfl ?_
  intro h8 tk8 m8 tab2 F8 N8
  (try dsimp only)
  refine wpAny_execs_cons ?_
  refine law9 _ _ _ A₀ base h₀ L ck cr cm _ _ _ _ B F8 X BO N8 T rfl ?_
  exact hQ h8 tk8 m8 tab1 tab2 F8 N8
end
theorem p2 : True := ⟨⟩
section --Jn
theorem flmC {w : World} : FlmC w := by
  intro gd cn cs a ccd cl outer A₀ base h₀ L m news s loose mean mg mb Q E x D mbv opv ms ns alo ahi blo bhi k1 k2 k3 k4 B F X BO N T hk hS h1 h2 h3 h4 hQ
  exact flm gd cn cs a ccd cl outer A₀ base h₀ L m news s Q E x D mbv opv ms ns alo ahi blo bhi k1 k2 k3 k4 B F X BO N T hk hS h1 h2 h3 h4 rfl hQ
theorem gmbC {w : World} : GmbC w gmbF := by
  intro gd cn cs a ccd cl outer A₀ base h₀ L m news s loose mean mg mb Q E x D opv ms ns B F X BO N T hk hS hQ
  exact gmb gd cn cs a ccd cl outer A₀ base h₀ L m news s Q E x D opv ms ns B F X BO N T hk flmC hS rfl hQ
theorem gocC {w : World} : GocC w := by
  intro gd cn cs a ccd cl outer A₀ base h₀ L m news s loose mean mg mb Q E x D ms ns B F X BO N T hk hS hQ
  exact goc gmbC gd cn cs a ccd cl outer A₀ base h₀ L m news s Q E x D ms ns B F X BO N T hk hS rfl hQ
theorem smC {w : World} : SmC w := by
  intro gd cn cs a ccd cl outer A₀ base h₀ L m news s loose mean mg mb Q E la lb xs ys ea eb ms ns B F X BO N T hk m1 m2 i1 i2 l1 l2 nd hQ
  exact sm gd cn cs a ccd cl outer A₀ base h₀ L m news s Q E la lb xs ys ea eb ms ns B F X BO N T hk m1 m2 i1 i2 l1 l2 nd rfl hQ
theorem law_cells (L : Nat) : cellsFrom (L + 1) lawScope.names [] = [(Str.ofString "mult", L + 1 + 1 + 1), (Str.ofString "row", L + 1 + 1), (Str.ofString "key", L + 1)] := by kernel_rfl
theorem law_parts : lawParts.1 = [lawStmt 0, lawStmt 1, lawStmt 2, lawStmt 3, lawStmt 4, lawStmt 5, lawStmt 6, lawStmt 7, lawStmt 8] := by kernel_rfl
theorem fr_script {h₀ h : Heap} {L : Addr} {M : Str → Option Value} {x : Str} {v : Value} (F : Fr h₀ L h M) (e : M x = some v) : Fr h₀ L h (fun y => if y = x then some v else M y) := by
  have : (fun y => if y = x then some v else M y) = M := by
    funext y
    split
    · rename_i h; rw [h, e]
    · rfl
  rw [this]; exact F
theorem boot_ghost {w : World} {h : Heap} (T : TabsAt [(252, 248), (285, 283)] h) (B : Boot w h) : Boot w (ghostOf h [(252, 248), (285, 283)]) := fun p hp => by
  refine ghost_ne (B p hp) ?_
  have : ∀ p ∈ exB w.params, p.1 < 20 := by
    intro p hp
    unfold exB at hp
    simp only [List.mem_cons, List.not_mem_nil, or_false] at hp
    rcases hp with rfl | rfl | rfl | rfl | rfl | rfl | rfl | rfl | rfl <;> exact Nat.le_of_ble_eq_true rfl
  have := this p hp
  intro hm
  have hm : p.1 = 248 ∨ p.1 = 283 := by simpa using hm
  omega
theorem ad3 (L : Nat) : L + 1 ≠ L + 1 + 1 + 1 ∧ L + 1 ≠ L + 1 + 1 ∧ L + 1 + 1 ≠ L + 1 + 1 + 1 := by omega
theorem ad4 {L : Nat} (h : 283 < L) : 283 < L + 1 ∧ 283 < L + 1 + 1 ∧ 283 < L + 1 + 1 + 1 := by omega
theorem lawIn {w : World} {loose : List Str} {mean : ExcName → Option Value} {mg mb : Str → Option Value} {h₀ : Heap} {L fa : Addr} {M : Str → Option Value} {s : Shared} {Q : Flow → Shared → Prop} {E : Value → Shared → Prop} {l : Addr} {vs : List Value} {ns : List Int} {ok orr om : Obj} {ov1 ov2 ov3 : Option Value} {nm : Str} {sc : Scope} {body : List Stmt}
    (hb : body = lawParts.1) (hs : sc = lawScope) (hn : nm = Str.ofString "law") (B : Below callerA h₀ [] h₀) (F : Fr h₀ L s.heap M) (hM : M (Str.ofString "script") = some (.ref l)) (X : (Mine.hd0.heap_1 w.params).In h₀) (BO : Boot w h₀)
    (N : News h₀ L s.heap [(L + 1 + 1 + 1, om), (L + 1 + 1, orr), (L + 1, ok), (248, tabObj #[]), (283, tabObj #[])]) (T : Top topProg loose mean mg mb h₀)
    (hl : h₀.IsList l vs.toArray) (hi : IntsAre vs ns) (h63 : ns.length ≤ 63) (hC1 : CodeHd h₀ 252 248) (hC2 : CodeHd h₀ 285 283) (hok : ok.data = .cell ov1) (horr : orr.data = .cell ov2) (hom : om.data = .cell ov3) (hL : 283 < L)
    (hQ : ∀ (h' : Heap) (tk : Nat) (m' : Str → Option Value) (tab1 tab2 : Array Value), Fr h₀ L h' m' → News h₀ L h' [(283, tabObj tab2), (248, tabObj tab1)] → Q (.ret (.bool true)) { s with heap := h', toks := tk }) :
    wpAny (model PySem.Challenge.rw_mr0378_01.row.prog w) (callerA.deeper (envOfC nm sc L fa (.ref 285))) (execs body (envOfC nm sc L fa (.ref 285))) Q E s := by
  subst hb; subst hs; subst hn
  have eE : envOfC (Str.ofString "law") lawScope L fa (.ref 285) = envX (Str.ofString "law") lawScope L fa (.ref 285) [(Str.ofString "mult", L + 1 + 1 + 1), (Str.ofString "row", L + 1 + 1), (Str.ofString "key", L + 1)] := by
    rw [← law_cells]; rfl
  rw [eE, law_parts]
  refine wpAny_mono (wpAny_up (lawAll (some []) fa [] callerA h₀ h₀ L (L + 1) (L + 1 + 1) (L + 1 + 1 + 1) M [] s Q l vs ns ok orr om ov1 ov2 ov3 B (fr_script F hM) X BO (news_sub N (fun p hp => by simp only [List.mem_cons, List.not_mem_nil, or_false] at hp ⊢; grind)) T hl hi h63 hC1 hC2 smC gocC hok horr hom ?n1 ?n2 ?n3 ?n4 ?n5 ?n6 rfl hQ) (Nat.le_of_ble_eq_true rfl) (Nat.le_of_ble_eq_true rfl)) (fun f s' h => h) (fun _ _ h => h.elim)
  case n1 => exact (ad3 L).1
  case n2 => exact (ad3 L).2.1
  case n3 => exact (ad3 L).2.2
  case n4 => exact (ad4 hL).1
  case n5 => exact (ad4 hL).2.1
  case n6 => exact (ad4 hL).2.2
theorem test : PySem.Challenge.rw_mr0378_01.Holds := Mine.top Mine.hd0 (by
  w_top off
  k_fill
  intro w s₀ s₁ mg mb G Y0 fa o pm cd doc dV kV ho hd hcd hD hmg hg args vals as hpre hlay hrd hwl hlo
  obtain ⟨Y, EX⟩ := Y0
  have KX := km_in_of Y
  km_tabs Y
  have X := (Ground.X G).1
  have V := (Ground.X G).2
  refine Ground.open G ?_
  intro T B D TE TW
  try (refine guard_noD D (by decide +kernel) ?_; clear D)
  km_lay T hmg ho hd cd
  clear hmg
  wrow_args hpre hlay hrd hwl hlo
  first | refine callC_kw (enter_call ?_) | refine enter_call ?_
  w_top on
  kn_posts
  w_call any ho hd hcd hD T F
  clear hd
  kn_ghosts F T
  k_drop
  rename_i ns _ _ hl0 _ _ _ _ l vs _ hL _ _ _ hI _ hcond _ h1 tk1 om orr ok hom horr hok _ KI TT BB FF hH1 N0 lts
  have hH2 : CodeHd _ 285 283 := codeHd
  have hBO : Boot w (ghostOf s₁.heap [(252, 248), (285, 283)]) := boot_ghost hT9 EX
  have h63 : ns.length ≤ 63 := by omega
  refine lawIn (by kernel_rfl) (by kernel_rfl) (by kernel_rfl) BB FF (by kernel_rfl) KI hBO N0 TT lifted hI h63 hH1 hH2 hok horr hom lts.2 ?q
  intro h' tk' m' tab1 tab2 F' N'
  refine And.intro ?g1 ?g2
  case g2 => exact ⟨GrownAt.of N' (.tail _ (.head _)), GrownAt.of N' (.head _), trivial⟩
  case g1 =>
    dsimp only
    (k_end; wrow_close))
end
end Mine
end
theorem PySem.Challenge.cw_mr0378_01_holds : PySem.Challenge.rw_mr0378_01.Holds :=
  Mine.test
