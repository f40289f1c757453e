import PyProof.Rows.All
import Wide.All
import OpenK.AllK
import Wide.FinOn
import PyProof.EnumMake
import PyProof.WalksPairs
import PyProof.Rows.StrRev
import KE.BitLaws
import OpenK.KMake
import KE.KNest
import KE.KNestM
import KE.KSuper
import PySem.Challenge.RW_sr0059_02
open PySem PySem.W PyProof.Rows PySem.Calls
set_option Elab.async false
set_option maxRecDepth 100000
set_option maxHeartbeats 8000000
set_option linter.all false
namespace Mine
local macro_rules | `(tactic| l_idx) => `(tactic| k_extra "lidx")
local macro_rules | `(tactic| k_ne) => `(tactic| k_extra "kne")
local macro_rules | `(tactic| ktr_room) => `(tactic| k_extra "kroom")
local macro_rules | `(tactic| ktr_units) => `(tactic| k_extra "kunits")
local macro_rules | `(tactic| k_all) => `(tactic| k_extra "kall")
local macro_rules | `(tactic| k_inst) => `(tactic| k_extra "kinst")
theorem setupAll : True := by
  k_with "li" => first | with_reducible assumption | (with_reducible first | exact nt_m63 | exact nt_m64 | exact nt_d2 | exact nt_dr (by assumption) | exact nt_c1 (by assumption) (by decide) | exact nt_c2 (by assumption) (by decide) | exact nt_rf (by assumption) | exact nt_rf1 (by assumption) (by assumption) (by decide) | exact nt_cf1 (by assumption) (by assumption) (by decide) | exact nt_mid64 (by assumption) (by assumption) | exact nt_cf (by assumption) | exact nt_80 (by assumption) | exact lv_lt (by assumption) | exact lv_mlt (by assumption) | exact nt_sk (by assumption) | exact nt_mk (by assumption)) | lia
  k_with "lidx" => with_reducible first | assumption | exact Int.natCast_nonneg _ | exact nt_ilt (by assumption) | exact nt_63 (by assumption) | exact nt_64 (by assumption) | exact nt_m64 | exact nt_m63 | exact nt_d2 | exact nt_ilt (nt_lo (by assumption) (by assumption)) | exact nt_lom (by assumption) (by assumption) | exact nt_lo63 (by assumption) (by assumption) (by assumption)
  k_with "kne" => (refine neN ?_; (try dsimp only); first
    | with_reducible assumption
    | exact Ne.symm (by with_reducible assumption)
    | decide
    | (first
        | ((first | refine Nat.ne_of_lt (ltup ?_) | refine Nat.ne_of_gt (ltup ?_)); (repeat first | exact Nat.le_refl _ | exact Nat.le_of_lt (by with_reducible assumption) | refine leup ?_); done)
        | with_reducible exact Nat.ne_of_lt (by assumption) | with_reducible exact Nat.ne_of_gt (by assumption)
        | with_reducible exact Nat.ne_of_lt (lta1 (by assumption)) | with_reducible exact Nat.ne_of_lt (lta2 (by assumption)) | with_reducible exact Nat.ne_of_lt (lta3 (by assumption))
        | with_reducible exact Nat.ne_of_gt (lta1 (by assumption)) | with_reducible exact Nat.ne_of_gt (lta2 (by assumption)) | with_reducible exact Nat.ne_of_gt (lta3 (by assumption))
        | ((first | refine neB (by with_reducible assumption) ?_ | refine neB' (by with_reducible assumption) ?_); (repeat first | exact Nat.le_refl _ | refine leup ?_); done))
    | k_extra "li")
  k_with "kroom" => ((try simp only [depth_under_make, depth_under_kw, depth_in1, depth_deeper, depth_caller]); first | decide | k_extra "li")
  k_with "kunits" => ((try simp only [units_in1, units_deeper, Around.mark_units, units_caller]); k_extra "li")
  k_with "kall" => first | exact al0 | exact kall_lt (by assumption) | assumption | (refine alc ?_ ?_; k_ne; k_extra "kall") | (refine ala ?_ ?_; k_all; k_all)
  k_with "kinst" => (refine' Mine.InstAt.of_newsL ?N ?h1 ?h2; (case N => k_asm); (case h1 => k_mem); (case h2 => k_mem))
  k_with "nat" => ((with_reducible show wpAny _ _ (binaryOp Operator.Add (Value.int (Nat.cast _) _) (Value.int (Nat.cast _) _)) _ _ _); refine add_nat ?_; intro _ _)
  k_with "nat" => ((with_reducible show wpAny _ _ (binaryOp Operator.Add (Value.int (Nat.cast _) _) (Value.int 1 _)) _ _ _); refine add_one ?_; intro _ _)
  k_with "nat" => ((with_reducible show wpAny _ _ (binaryOp Operator.Sub (Value.int (Nat.cast _) _) (Value.int (Nat.cast _) _)) _ _ _); refine sub_nat (by k_extra "li") ?_; intro _ _)
  k_with "nat" => ((with_reducible show wpAny _ _ (binaryOp Operator.Mult (Value.int (Nat.cast _) _) (Value.int (Nat.cast _) _)) _ _ _); refine mul_nat (by k_extra "li") ?_; intro _ _)
  k_with "nat" => ((with_reducible show wpAny _ _ (binaryOp Operator.RShift (Value.int (Nat.cast _) _) (Value.int 1 _)) _ _ _); refine rsh_one ?_; intro _ _)
  k_with "nat" => ((with_reducible show wpAny _ _ (binaryOp Operator.RShift (Value.int (Nat.cast _) _) (Value.int (Nat.cast _) _)) _ _ _); refine rsh_nat ?_; intro _ _)
  k_with "nat" => ((with_reducible show wpAny _ _ (binaryOp Operator.LShift (Value.int (Nat.cast _) _) (Value.int (Nat.cast _) _)) _ _ _); refine lsh_nat (by assumption) (by k_extra "li") ?_; intro _ _)
  k_with "nat" => ((with_reducible show wpAny _ _ (binaryOp Operator.BitXor (Value.int (Nat.cast _) _) (Value.int (Nat.cast _) _)) _ _ _); refine xor_nat ?_; intro _ _)
  k_with "nat" => ((with_reducible show wpAny _ _ (binaryOp Operator.Sub (Value.int (Nat.cast _) _) (Value.int 1 _)) _ _ _); refine sub_one (by k_extra "li") ?_; intro _ _)
  k_with "nat" => ((with_reducible show wpAny _ _ (binaryOp Operator.FloorDiv (Value.int (Nat.cast _) _) (Value.int (Nat.cast _) _)) _ _ _); refine div_nat (by assumption) (by assumption) ?_; intro _ _)
  k_with "pre" => (with_reducible show wpAny _ _ (binaryOp _ (Value.int (Nat.cast _) _) (Value.int _ _)) _ _ _); k_extra "nat"
  k_with "ks1" => first | (k_unfold; (try dsimp only)) | k_extra "pre" | walk1 | (dsimp only; first | k_extra "pre" | walk1)
  k_with "ks" => repeat' k_extra "ks1"
  k_with "kfor" => repeat' ((fail_if_success (with_reducible show PySem.wpAny _ _ (PySem.pyIter (PySem.Value.ref _)) _ _ _)); k_extra "ks1")
  k_with "noop" => skip
  k_with "kna" => (repeat' (first | exact kn0 | (refine knc (by first | rfl | (refine congrArg (fun z => some (Value.int z _)) ?_; k_extra "li")) ?_)))
  k_with "kn_all" => first | (refine knx ?_; k_extra "kna"; done) | (repeat' (first | exact List.forall_mem_nil _ | (refine List.forall_mem_cons.mpr ⟨by first | rfl | (refine congrArg (fun z => some (Value.int z _)) ?_; k_extra "li"), ?_⟩)))
  k_with "lo" => first | (refine locK (by assumption) ?_; k_extra "kna"; done) | (refine loc (by assumption) ?_; k_extra "kn_all")
  k_with "enter" => (
    refine' code_def (by assumption) (by assumption) (by assumption) (by assumption) (by assumption) ?kA ?kF' ?kK ?k6 ?k7 ?k8 ?k9 ?kB' ?_ ?c2 ?c3 ?c4 ?c5
    (case kA => exact rfl); (case kF' => exact rfl); (case kK => assumption); (case k6 => k_is); (case k7 => k_is); (case k8 => ktr_room); (case k9 => exact BindsTo.of_eq rfl); (case c5 => decide); (case kB' => exact locs rfl); (case c2 => exact rfl); (case c3 => exact rfl); (case c4 => exact rfl))
  k_with "enterC" => (
    refine' code_defC (by assumption) (by assumption) (by assumption) (by assumption) (by assumption) ?kA ?kF' ?kK ?k6 ?k7 ?k8 ?k9 ?kB' ?kD ?_ ?c2 ?c3 ?c4
    (case kA => exact rfl); (case kF' => exact rfl); (case kK => assumption); (case k6 => k_is); (case k7 => k_is); (case k8 => ktr_room); (case k9 => exact BindsTo.of_eq rfl); (case kB' => exact rfl); (case kD => decide +kernel); (case c2 => exact rfl); (case c3 => exact rfl); (case c4 => exact rfl))
  k_with "sbm" => first | with_reducible exact smh | (with_reducible refine smt ?_; k_extra "sbm") | (with_reducible refine sml ?_; k_extra "sbm") | (with_reducible refine smr ?_; k_extra "sbm") | with_reducible assumption
  k_with "sbat" => first | with_reducible exact sbr | (with_reducible refine sbt ?_; k_extra "sbat") | (with_reducible refine sbl ?_; k_extra "sbat") | (with_reducible refine sbR ?_; k_extra "sbat") | with_reducible assumption
  k_with "sbs" => first | with_reducible exact sbr | with_reducible exact sb0 | with_reducible refine sbb ?_ | with_reducible refine sbaa ?_ | ((fail_if_success (with_reducible refine sbq ?sh ?sk; (case sh => k_extra "sbm"))); with_reducible refine sbt ?_) | ((with_reducible refine sbcc ?_ ?_; k_extra "sbm")) | ((with_reducible refine sba ?_ ?_; k_extra "sbat")) | with_reducible refine sba ?_ ?_ | k_extra "sbat"
  k_with "psub" => first | (refine sbx ?_; (repeat' k_extra "sbs"); done) | (refine sbx ?_; dsimp only [refs_nil, tups_nil, List.nil_append, List.append_nil]; (repeat' k_extra "sbs"); done) | ((try simp only [List.append_assoc, List.forall_mem_cons, List.forall_mem_append, List.forall_mem_nil, and_true]); (repeat' apply And.intro) <;> first | exact List.forall_mem_nil _ | (intro p hp; (simp only [List.mem_cons, List.mem_append, hp, or_true, true_or]; done)) | (simp only [List.mem_cons, List.mem_append, or_true, true_or, eq_self]; done) | (k_dflt k_mem))
  k_with "enterN" => (
    refine' code_nest (by assumption) (by assumption) (by assumption) (by assumption) (by assumption) ?kA ?kF' ?kK ?k6 ?k7 ?k8 ?k9 ?kB' ?_ ?c2 ?c3 ?c4 ?c5
    (case kA => exact rfl); (case kF' => exact rfl); (case kK => assumption); (case k6 => k_mem); (case k8 => ktr_room); (case k9 => exact BindsTo.of_eq rfl); (case kB' => exact locs rfl); (case c2 => exact rfl); (case c3 => exact rfl); (case c4 => exact rfl); (case c5 => decide))
  k_with "cl_use" => (case k1 => k_asm); (case k2 => k_asm); (case k3 => k_asm); (case k4 => k_asm); (case k5 => k_asm); (case kK => first | exact rfl | assumption); (case kd => first | ktr_room | k_extra "li"); (case ku => first | ktr_units | k_extra "li")
  k_with "clb_use" => (case k1 => k_asm); (case k0 => assumption); (case k2 => k_asm); (case k3 => k_asm); (case k4 => k_asm); (case k5 => k_asm); (case kK => first | exact rfl | assumption); (case kd => first | ktr_room | k_extra "li"); (case ku => first | ktr_units | k_extra "li")
  k_with "enterS" => (
    refine' ks_code_super (by assumption) (by assumption) (by assumption) (by assumption) (by assumption) ?kA ?kF' ?kK ?k6 ?k7 ?k8 ?k9 ?kB' ?_ ?c1 ?c2 ?c3 ?c4
    (case kA => exact rfl); (case kF' => exact rfl); (case kK => assumption); (case k6 => k_is); (case k7 => k_is); (case k8 => ktr_room); (case k9 => exact BindsTo.of_eq rfl); (case kB' => exact locs rfl); (case c1 => decide); (case c2 => exact rfl); (case c3 => exact rfl); (case c4 => exact rfl))
  k_with "enterD" => (
    refine' code_def (by assumption) (by assumption) (by assumption) (by assumption) (by assumption) ?kA ?kF' ?kK ?k6 ?k7 ?k8 ?k9 ?kB' ?_ ?c2 ?c3 ?c4 ?c5
    (case kA => exact rfl); (case kF' => exact rfl); (case kK => assumption); (case k6 => k_is); (case k7 => k_is); (case k8 => ktr_room); (case k9 => exact binds_K (by k_in) rfl (by k_is) rfl rfl rfl); (case c5 => decide); (case kB' => exact locs rfl); (case c2 => exact rfl); (case c3 => exact rfl); (case c4 => exact rfl))
  k_with "enterSD" => (
    refine' ks_code_super (by assumption) (by assumption) (by assumption) (by assumption) (by assumption) ?kA ?kF' ?kK ?k6 ?k7 ?k8 ?k9 ?kB' ?_ ?c1 ?c2 ?c3 ?c4
    (case kA => exact rfl); (case kF' => exact rfl); (case kK => assumption); (case k6 => k_is); (case k7 => k_is); (case k8 => ktr_room); (case k9 => exact binds_K (by k_in) rfl (by k_is) rfl rfl rfl); (case kB' => exact locs rfl); (case c1 => decide); (case c2 => exact rfl); (case c3 => exact rfl); (case c4 => exact rfl))
  k_with "na_all" => (repeat' (first | exact fa0 | exact notAcc_tups _ | exact notAcc_tab (by assumption) | refine fac (by first | exact .inl (fun e => by cases e) | exact notAcc_cell (by assumption) | exact notAcc_cls (by assumption) (fun e => by cases e)) ?_ | refine faa ?_ ?_))
  k_with "truthy str" => ((with_reducible show wpAny _ _ (PySem.truthy (Value.str (tx _) _)) _ _ _); refine truthy_tx (by (try simp only [List.length_drop, List.length_take]); k_extra "li") ?_ ?_ <;> intro hlenq9 _ <;> (try simp only [List.length_drop, List.length_take] at hlenq9) <;> revert hlenq9 <;> intro _)
  k_with "call builtin:len" => ((with_reducible show wpAny _ _ (call (Value.builtin "len") [Value.str (tx _) _]) _ _ _); refine len_tx (by (try simp only [List.length_drop, List.length_take]); k_extra "li") ?_; intro _ _)
  k_with "eval Subscript" => ((with_reducible show wpAny _ _ (eval (Expr.Subscript (Expr.Name _ _) (Expr.Slice none (some (Expr.BoolOp _ [Expr.Name _ _, _] _)) none _) _) _) _ _ _); k_dflt (refine' cutEnd ?F ?N ?ha ?hp ?hq ?hl ?_ ?a1 ?a2 ?a3 ?a4 ?a5; (case F => k_asm); (case N => k_asm); (case ha => rfl); (case hp => rfl); (case hq => k_extra "li"); (case hl => k_extra "li"); (case a1 => rfl); (case a2 => rfl); (case a3 => rfl); (case a4 => decide); (case a5 => decide); intro _ _ _ _ _))
  k_with "subscriptTail Name Slice str ref" => ((with_reducible show wpAny _ _ (subscriptTail _ (Expr.Slice (some _) none none _) (Value.str (tx _) _) _) _ _ _); k_dflt (refine' sl_from (s := ⟨_, _, _, _, _⟩) ?F ?N ?hk ?hl ?_ ?hs ?ht; (case F => k_asm); (case N => k_asm); (case hk => k_extra "li"); (case hl => k_extra "li"); (case hs => with_unfolding_all rfl); (case ht => intro _; with_unfolding_all rfl); intro _ _ _ _ _))
  k_with "subscriptTail Name Slice str ref" => ((with_reducible show wpAny _ _ (subscriptTail _ (Expr.Slice none (some _) none _) (Value.str (tx _) _) _) _ _ _); k_dflt (refine' sl_to (s := ⟨_, _, _, _, _⟩) ?F ?N ?hk ?hl ?_ ?hs ?ht; (case F => k_asm); (case N => k_asm); (case hk => k_extra "li"); (case hl => k_extra "li"); (case hs => with_unfolding_all rfl); (case ht => intro _; with_unfolding_all rfl); intro _ _ _ _ _))
  k_with "subscriptTail Name Name str int" => ((with_reducible show wpAny _ _ (subscriptTail _ _ (Value.str (tx _) _) _) _ _ _); k_dflt (refine' it_at ?hk ?hl ?_ ?hs ?ht; (case hk => k_extra "li"); (case hl => k_extra "li"); (case hs => with_unfolding_all rfl); (case ht => intro _; with_unfolding_all rfl); intro _ _))
  k_with "subscriptTail Name BinOp str int" => ((with_reducible show wpAny _ _ (subscriptTail _ _ (Value.str (tx _) _) _) _ _ _); k_dflt (refine' it_neg1 ?hk ?hl ?_ ?hs ?ht; (case hk => k_extra "li"); (case hl => k_extra "li"); (case hs => with_unfolding_all rfl); (case ht => intro _; with_unfolding_all rfl); intro _ _))
  k_with "call type:list" => ((with_reducible show wpAny _ _ (call (Value.type _) [Value.ref _]) _ _ _); k_dflt (with_unfolding_all refine' lrange ?k0 ?k1 ?k2 ?k3 (range2 _ ?k4 ?k5).1 (range2 _ ?k4 ?k5).2 ?k6 ?_; (case k0 => rfl); (case k1 => k_asm); (case k2 => k_asm); (case k3 => assumption); (case k4 => first | k_extra "li" | (refine List.length_pos_iff.mpr ?_; assumption)); (case k5 => k_extra "li"); (case k6 => k_extra "li")); intro _ _ _ _ _ _ _ _ _)
  k_with "call builtin:list.append" => ((with_reducible show wpAny _ _ (call (Value.builtin _) [Value.ref _, _]) _ _ _); k_dflt (refine' app_list ?k1 ?k2 ?k3 ?z ?_; (case k1 => k_asm); (case k2 => k_asm); (case k3 => k_upd); (case z => k_extra "li")); intro _ _ _)
  k_with "call builtin:list.reverse" => ((with_reducible show wpAny _ _ (call (Value.builtin _) [Value.ref _]) _ _ _); k_dflt (refine' rev_list ?k1 ?k2 ?k3 ?z ?_; (case k1 => k_asm); (case k2 => k_asm); (case k3 => k_upd); (case z => k_extra "li")); intro _ _ _)
  k_with "call builtin:divmod" => ((with_reducible show wpAny _ _ (call _ [Value.int (Nat.cast _) _, Value.int (Nat.cast _) _]) _ _ _); k_dflt (refine' divmod_nat ?F ?N ?hy ?hb ?_; (case F => k_asm); (case N => k_asm); (case hy => assumption); (case hb => assumption)); intro _ _ _ _ _ _ _ _)
  k_with "binaryOp Mult ref int" => ((with_reducible show wpAny _ _ (binaryOp _ (Value.ref _) (Value.int (Nat.cast _) _)) _ _ _); k_dflt (refine' rep_nat ?F ?N ?hm ?hx ?_; (case F => k_asm); (case N => k_asm); (case hm => k_mem); (case hx => first | assumption | k_extra "li")); intro _ _ _ _ _ l1q9 _; (try k_lt l1q9); revert l1q9; intro _)
  k_with "call ref" => ((with_reducible show wpAny _ _ (call (Value.ref 28) _) _ _ _); (k_dflt (refine' Cl.use (scost_1 _ _ _ _ _ _ _ _ _ _) ?k1 ?k2 ?k3 ?k4 ?k5 ?kK ?kd ?ku ?_; k_extra "cl_use")); rintro _ _ _ _ _ _ ⟨rfl, _, rfl⟩)
  k_with "binaryOp Add str str" => ((with_reducible show wpAny _ _ (binaryOp _ (Value.str (tx _) _) (Value.str (tx _) _)) _ _ _); refine cat_tx (by (try simp only [List.length_append, List.length_cons, List.length_nil, List.length_drop, List.length_take]); k_extra "li") ?_; intro _ _)
  k_with "call builtin:str.swapcase" => ((with_reducible show wpAny _ _ (call (Value.builtin "str.swapcase") [Value.str (tx [_]) _]) _ _ _); refine swap_tx (by first | assumption | exact ltr_get (by assumption) (by k_extra "li")) ?_; intro _ _)
  k_with "call builtin:str.lower" => ((with_reducible show wpAny _ _ (call (Value.builtin "str.lower") [Value.str (tx _) _]) _ _ _); refine lower_c (by assumption) (by k_extra "li") ?_; intro _ _)
  k_with "subscriptTail" => ((with_reducible show wpAny _ _ (subscriptTail _ _ (Value.ref _) (Value.int (-1) _)) _ _ _); k_dflt (refine' it_last ?N ?hm ?hi ?h1 ?hz ?_ ?hs; (case N => k_asm); (case hm => k_mem); (case hi => assumption); (case h1 => k_extra "li"); (case hz => k_extra "li"); (case hs => with_unfolding_all rfl)); intro _)
  k_with "subscriptTail Name BinOp str int" => ((with_reducible show wpAny _ _ (subscriptTail _ _ (Value.str (tx _) _) (Value.int (Nat.cast _) _)) _ _ _); k_dflt (refine' it_at ?hk ?hl ?_ ?hs ?ht; (case hk => k_extra "li"); (case hl => k_extra "li"); (case hs => with_unfolding_all rfl); (case ht => intro _; with_unfolding_all rfl); intro _ _))
  k_with "subscriptTail Name Slice str ref" => ((with_reducible show wpAny _ _ (subscriptTail _ (Expr.Slice none (some (Expr.UnaryOp _ _ _)) none _) (Value.str (tx _) _) _) _ _ _); k_dflt (refine' sl_m1 (s := ⟨_, _, _, _, _⟩) ?F ?N ?hk ?hl ?_ ?hs ?ht; (case F => k_asm); (case N => k_asm); (case hk => k_extra "li"); (case hl => k_extra "li"); (case hs => with_unfolding_all rfl); (case ht => intro _; with_unfolding_all rfl); intro _ _ _ _ _))
  k_with "subscriptTail" => ((with_reducible show wpAny _ _ (subscriptTail _ _ (Value.str (tx _) _) (Value.int (-1) _)) _ _ _); k_dflt (refine' it_m1 ?hk ?hl ?_ ?hs ?ht; (case hk => k_extra "li"); (case hl => k_extra "li"); (case hs => with_unfolding_all rfl); (case ht => intro _; with_unfolding_all rfl); intro _ _))
  k_with "call builtin:str.index" => ((with_reducible show wpAny _ _ (call _ [Value.str (tx _) _, Value.str (tx _) _]) _ _ _); refine index_tx (by assumption) ?_; intro _ _)
  k_with "compareOp NotIn str str" => ((with_reducible show wpAny _ _ (compareOp _ (Value.str (tx [_]) _) (Value.str (tx _) _)) _ _ _); refine notin_tx ?_)
  k_with "call builtin:str.lower" => ((with_reducible show wpAny _ _ (call (Value.builtin "str.lower") [Value.str (tx [_]) _]) _ _ _); refine lower_1 (by first | assumption | exact ltr_get (by assumption) (by k_extra "li")) ?_; intro _ _)
  k_with "call builtin:str.lower" => ((with_reducible show wpAny _ _ (call (Value.builtin "str.lower") (_, [Value.str (tx _) _]).snd) _ _ _); dsimp only)
  k_with "getMethod ref" => (k_here; k_dflt (refine' method_acc ?k1 ?k2 ?k3 ?k4 ?k5 ?k6 ?k7 ?k8 ?k9 ?_; (case k1 => k_asm); (case k2 => k_asm); (case k3 => k_asm); (case k4 => k_mem); (case k5 => k_mem); (case k6 => first | exact acc_append _ | k_is); (case k7 => first | k_is | kernel_rfl); (case k8 => decide); (case k9 => first | assumption | k_get); k_whole))
  k_with "call builtin:list.append" => (k_here; (with_reducible show wpAny _ _ (call (Value.builtin _) [Value.ref _, _]) _ _ _); k_dflt (refine' append_LK ?k1 ?k2 ?k3 (acc_mro _) ?k5 ?k6 ?_; (case k1 => k_asm); (case k2 => k_asm); (case k3 => k_asm); (case k5 => k_mem); (case k6 => k_extra "li"); k_whole); intro _ _ _ hNq9; (refine' Mine.useU hNq9 ?u ?_; (case u => k_upd); clear hNq9; intro Nq9; (try dsimp only at Nq9); revert Nq9; intro _); (try k_sweep))
  k_with "getMethod ref" => (k_here; k_dflt (first
    | (refine' super_len ?k1 ?k2 ?k3 ?k4 ?k5 ?k6 ?_; (case k1 => k_asm); (case k2 => k_asm); (case k3 => k_asm); (case k4 => k_mem); (case k5 => k_mem); (case k6 => k_mem); k_whole)
    | (refine' super_pop ?k1 ?k2 ?k3 ?k4 ?k5 ?k6 ?_; (case k1 => k_asm); (case k2 => k_asm); (case k3 => k_asm); (case k4 => k_mem); (case k5 => k_mem); (case k6 => k_mem); k_whole)
    | (refine' super_init ?k1 ?k2 ?k3 ?k4 ?k5 ?k6 ?_; (case k1 => k_asm); (case k2 => k_asm); (case k3 => k_asm); (case k4 => k_mem); (case k5 => k_mem); (case k6 => k_mem); k_whole)); intro _ _ _ _ _ l1q9; (try k_lt l1q9); revert l1q9; intro _)
  k_with "callWith ref" => (k_here; k_dflt (refine callWith_bd (bd_of (by k_asm) (by k_mem) (by first | exact .inl rfl | exact .inr rfl)) ?_))
  k_with "call ref" => (k_here; k_dflt (first
    | (refine' cb_len ?k1 ?k2 ?k3 ?_; (case k1 => k_asm); (case k2 => k_mem); (case k3 => k_mem); k_whole; intro _ _)
    | (refine' cb_init ?k1 ?k2 ?k3 ?k4 ?_; (case k1 => k_asm); (case k2 => k_asm); (case k3 => k_mem); (case k4 => k_mem); k_whole; intro _ _ _ _ hNq9; (refine' Mine.useU hNq9 ?u ?_; (case u => k_upd); clear hNq9; intro Nq9; (try dsimp only at Nq9); revert Nq9; intro _); (try k_sweep))
    | (refine' cb_pop ?k1 ?k2 ?k3 ?k4 ?k5 ?k6 ?_; (case k1 => k_asm); (case k2 => k_asm); (case k3 => k_asm); (case k4 => k_mem); (case k5 => k_mem); (case k6 => k_extra "li"); k_whole; intro _ _ _ _ hNq9; (refine' Mine.useU hNq9 ?u ?_; (case u => k_upd); clear hNq9; intro Nq9; (try dsimp only at Nq9); revert Nq9; intro _); (try k_sweep))))
  k_with "subscriptTail" => (k_here; (with_reducible show wpAny _ _ (subscriptTail _ _ _ (Value.ref _)) _ _ _); k_dflt (refine' slice_acc ?k1 ?k2 ?k3 ?k4 ?k5 ?k6 ?k7 ?_ ?hsb; (case hsb => intro _; with_unfolding_all rfl); (case k1 => k_asm); (case k2 => k_asm); (case k3 => k_asm); (case k4 => k_mem); (case k5 => k_mem); (case k6 => first | assumption | k_extra "li"); (case k7 => k_extra "li"); k_whole; intro _ _ _ _ _ l1q9; (try k_lt l1q9); revert l1q9; intro _))
  k_with "setItem ref" => (k_here; k_dflt (refine' setslice_acc ?k1 ?k2 ?k3 ?k4 ?k5 ?k6 ?k7 ?k8 ?_; (case k1 => k_asm); (case k2 => k_asm); (case k3 => k_asm); (case k4 => k_mem); (case k5 => k_mem); (case k6 => k_mem); (case k7 => first | assumption | k_extra "li"); (case k8 => k_extra "li"); k_whole; intro _ _ _ _ hNq9; (refine' Mine.useU hNq9 ?u ?_; (case u => k_upd); clear hNq9; intro Nq9; (try dsimp only at Nq9); revert Nq9; intro _)))
  k_with "setAttr ref" => (k_here; k_dflt (refine' set_dictL ?k1 ?k2 ?k3 ?k4 ?k5 ?k6 (acc_mro _) ?k8 ?k9 ?k10 ?k11 ?k12 ?k13 ?_; (case k1 => k_asm); (case k2 => k_asm); (case k3 => k_asm); (case k4 => k_inst); (case k5 => exact rfl); (case k6 => k_is); (case k8 => k_is); (case k9 => k_is); (case k10 => k_get); (case k11 => k_put); (case k12 => k_upd); (case k13 => exact Nat.le_of_ble_eq_true rfl); k_whole; intro _ _ _))
  k_with "subscriptTail" => ((with_reducible show wpAny _ _ (subscriptTail _ (Expr.Slice none none (some _) _) (Value.str (tx _) _) _) _ _ _); k_dflt (refine' sl_rev (s := ⟨_, _, _, _, _⟩) ?F ?N ?hl ?_ ?hs ?ht; (case F => k_asm); (case N => k_asm); (case hl => (try simp only [List.length_reverse]); k_extra "li"); (case hs => with_unfolding_all rfl); (case ht => intro _; with_unfolding_all rfl)); intro _ _ _ _ _)
  k_with "subscriptTail Name Slice str ref" => ((with_reducible show wpAny _ _ (subscriptTail _ (Expr.Slice none none (some _) _) (Value.str (tx _) _) _) _ _ _); k_dflt (refine' sl_rev (s := ⟨_, _, _, _, _⟩) ?F ?N ?hl ?_ ?hs ?ht; (case F => k_asm); (case N => k_asm); (case hl => (try simp only [List.length_reverse]); k_extra "li"); (case hs => with_unfolding_all rfl); (case ht => intro _; with_unfolding_all rfl)); intro _ _ _ _ _)
  k_with "kd" => repeat' (k_extra "ks1"; try dsimp only)
  k_with "subscriptTail" => ((with_reducible show wpAny _ _ (subscriptTail _ (Expr.Slice _ _ none _) (Value.ref _) (Value.ref _)) _ _ _); k_dflt (refine' kmk_slice_ints (s := ⟨_, _, _, _, _⟩) ?w9F ?w9N ?w9l ?w9p ?w9q ?w9i ?w9m ?w9c ?_ ?w9s ?w9t ?w9z; (case w9F => k_asm); (case w9N => k_asm); (case w9l => kmk_list); (case w9p => kmk_part); (case w9q => kmk_part); (case w9i => l_ints); (case w9m => kmk_nums); (case w9c => kmk_len); (case w9s => with_unfolding_all rfl); (case w9t => kmk_pure); (case w9z => first | (refine' lsz ?zi ?zl; (case zi => assumption); (case zl => k_extra "li")) | kmk_size)); intro _ _ _ _ _ _ _ _ _; dsimp only)
  k_with "subscriptTail" => ((with_reducible show wpAny _ _ (subscriptTail _ (Expr.Slice none none (some _) _) (Value.ref _) (Value.ref _)) _ _ _); k_dflt (refine' krv_ints (s := ⟨_, _, _, _, _⟩) ?w8F ?w8N ?w8l ?w8k ?w8i ?_ ?w8s ?w8t ?w8z; (case w8F => k_asm); (case w8N => k_asm); (case w8l => kmk_list); (case w8k => exact IsPart.int _ _); (case w8i => l_ints); (case w8s => with_unfolding_all rfl); (case w8t => kmk_pure); (case w8z => first | (refine' lsz ?zi ?zl; (case zi => assumption); (case zl => k_extra "li")) | kmk_size)); intro _ _ _ _ _ _ _ _; dsimp only)
  k_with "pre" => ((with_reducible show wpAny _ _ (subscriptTail _ (Expr.Slice _ _ none _) (Value.ref _) (Value.ref _)) _ _ _); k_dflt (refine' kmk_slice_ints (s := ⟨_, _, _, _, _⟩) ?w9F ?w9N ?w9l ?w9p ?w9q ?w9i ?w9m ?w9c ?_ ?w9s ?w9t ?w9z; (case w9F => k_asm); (case w9N => k_asm); (case w9l => kmk_list); (case w9p => kmk_part); (case w9q => kmk_part); (case w9i => l_ints); (case w9m => kmk_nums); (case w9c => kmk_len); (case w9s => with_unfolding_all rfl); (case w9t => kmk_pure); (case w9z => first | (refine' lsz ?zi ?zl; (case zi => assumption); (case zl => k_extra "li")) | kmk_size)); intro _ _ _ _ _ l1q9 _ _ _; dsimp only; (try k_lt l1q9); revert l1q9; intro _; (try k_sweep))
  k_with "pre" => ((with_reducible show wpAny _ _ (subscriptTail _ (Expr.Slice none none (some _) _) (Value.ref _) (Value.ref _)) _ _ _); k_dflt (refine' krv_ints (s := ⟨_, _, _, _, _⟩) ?w8F ?w8N ?w8l ?w8k ?w8i ?_ ?w8s ?w8t ?w8z; (case w8F => k_asm); (case w8N => k_asm); (case w8l => kmk_list); (case w8k => exact IsPart.int _ _); (case w8i => l_ints); (case w8s => with_unfolding_all rfl); (case w8t => kmk_pure); (case w8z => first | (refine' lsz ?zi ?zl; (case zi => assumption); (case zl => k_extra "li")) | kmk_size)); intro _ _ _ _ _ l1q9 _ _; dsimp only; (try k_lt l1q9); revert l1q9; intro _; (try k_sweep))
  k_with "pre" => ((with_reducible show wpAny _ _ (subscriptTail (Expr.Subscript _ _ _) (Expr.Slice _ _ _ _) (Value.ref _) (Value.ref _)) _ _ _); k_dflt (refine kba_turn (value' := Expr.Name (Str.ofString "_") ⟨0, 0, 0, 0⟩) (fun _ => rfl) ?_))
  k_with "na2" => (repeat' (first | exact fa0 | exact na_tups _ _ | exact na_tab (by with_reducible assumption) | refine fac (by first | exact na_ne (by with_reducible assumption) | exact na_ne' (by with_reducible assumption) | exact na_cell (by with_reducible assumption) | exact na_cls (by with_reducible assumption) | exact na_c (fun e => by cases e)) ?_ | refine faa ?_ ?_))
  k_with "xe2" => first | refine xe1_1 hx9 ?_ | refine xe0_2 hx9 ?_
  k_with "xq2" => first | k_extra "xe2"
  k_with "xe3" => first | refine xe2_1 hx9 ?_ | refine xe1_2 hx9 ?_ | refine xe0_3 hx9 ?_
  k_with "xq3" => first | k_extra "xe3"
  k_with "xe4" => first | refine xe3_1 hx9 ?_ | refine xe2_2 hx9 ?_ | refine xe1_3 hx9 ?_ | refine xe0_4 hx9 ?_
  k_with "xq4" => first | k_extra "xe4"
  k_with "xe5" => first | refine xe4_1 hx9 ?_ | refine xe3_2 hx9 ?_ | refine xe2_3 hx9 ?_ | refine xe1_4 hx9 ?_ | refine xe0_5 hx9 ?_
  k_with "xq5" => first | k_extra "xe5"
  k_with "xe6" => first | refine xe5_1 hx9 ?_ | refine xe4_2 hx9 ?_ | refine xe3_3 hx9 ?_ | refine xe2_4 hx9 ?_ | refine xe1_5 hx9 ?_ | refine xe0_6 hx9 ?_
  k_with "xq6" => first | k_extra "xe6"
  k_with "xe7" => first | refine xe6_1 hx9 ?_ | refine xe5_2 hx9 ?_ | refine xe4_3 hx9 ?_ | refine xe3_4 hx9 ?_ | refine xe2_5 hx9 ?_ | refine xe1_6 hx9 ?_ | refine xe0_7 hx9 ?_
  k_with "xq7" => first | k_extra "xe7"
  k_with "xe8" => first | refine xe7_1 hx9 ?_ | refine xe6_2 hx9 ?_ | refine xe5_3 hx9 ?_ | refine xe4_4 hx9 ?_ | refine xe3_5 hx9 ?_ | refine xe2_6 hx9 ?_ | refine xe1_7 hx9 ?_ | refine xe0_8 hx9 ?_
  k_with "xq8" => first | k_extra "xe8"
  k_with "xe9" => first | refine xe8_1 hx9 ?_ | refine xe7_2 hx9 ?_ | refine xe6_3 hx9 ?_ | refine xe5_4 hx9 ?_ | refine xe4_5 hx9 ?_ | refine xe3_6 hx9 ?_ | refine xe2_7 hx9 ?_ | refine xe1_8 hx9 ?_ | refine xe0_9 hx9 ?_
  k_with "xq9" => first | k_extra "xe9"
  k_with "xe10" => first | refine xe9_1 hx9 ?_ | refine xe8_2 hx9 ?_ | refine xe7_3 hx9 ?_ | refine xe6_4 hx9 ?_ | refine xe5_5 hx9 ?_ | refine xe4_6 hx9 ?_ | refine xe3_7 hx9 ?_ | refine xe2_8 hx9 ?_ | refine xe1_9 hx9 ?_ | refine xe0_10 hx9 ?_
  k_with "xq10" => first | k_extra "xe10"
  k_with "xe11" => first | refine xe9_2 hx9 ?_ | refine xe8_3 hx9 ?_ | refine xe7_4 hx9 ?_ | refine xe6_5 hx9 ?_ | refine xe5_6 hx9 ?_ | refine xe4_7 hx9 ?_ | refine xe3_8 hx9 ?_ | refine xe2_9 hx9 ?_ | refine xe1_10 hx9 ?_
  k_with "xq11" => first | k_extra "xe11"
  k_with "xe12" => first | refine xe9_3 hx9 ?_ | refine xe8_4 hx9 ?_ | refine xe7_5 hx9 ?_ | refine xe6_6 hx9 ?_ | refine xe5_7 hx9 ?_ | refine xe4_8 hx9 ?_ | refine xe3_9 hx9 ?_ | refine xe2_10 hx9 ?_
  k_with "xq12" => first | k_extra "xe12"
  k_with "xe13" => first | refine xe9_4 hx9 ?_ | refine xe8_5 hx9 ?_ | refine xe7_6 hx9 ?_ | refine xe6_7 hx9 ?_ | refine xe5_8 hx9 ?_ | refine xe4_9 hx9 ?_ | refine xe3_10 hx9 ?_
  k_with "xq13" => first | k_extra "xe13"
  k_with "xe14" => first | refine xe9_5 hx9 ?_ | refine xe8_6 hx9 ?_ | refine xe7_7 hx9 ?_ | refine xe6_8 hx9 ?_ | refine xe5_9 hx9 ?_ | refine xe4_10 hx9 ?_
  k_with "xq14" => first | k_extra "xe14"
  k_with "xe15" => first | refine xe9_6 hx9 ?_ | refine xe8_7 hx9 ?_ | refine xe7_8 hx9 ?_ | refine xe6_9 hx9 ?_ | refine xe5_10 hx9 ?_
  k_with "xq15" => first | k_extra "xe15"
  k_with "xe18" => first | refine xe7_11 hx9 ?_
  k_with "xq18" => first | k_extra "xe18"
  k_with "xe19" => first | refine xe8_11 hx9 ?_
  k_with "xq19" => first | k_extra "xe19"
  k_with "xe21" => first | refine xe10_11 hx9 ?_
  k_with "xq21" => first | k_extra "xe21"
  k_with "nt" => (repeat' (first | exact fa0 | exact nt_tups _ _ | exact (own_nt (by with_reducible assumption)).2 | exact (own_nt (by with_reducible assumption)).1 | refine fac (by first | exact nt_addr (by decide) | exact nt_cls (by with_reducible assumption) | exact nt_gt (by with_reducible assumption) | exact nt_c (fun e => by cases e)) ?_ | refine faa ?_ ?_))
  k_with "str_use" => (case k0 => assumption); (case kg => assumption); (case k1 => k_asm); (case k2 => k_asm); (case k3 => k_asm); (case k4 => k_asm); (case k5 => k_asm); (case kK => first | exact rfl | assumption); (case kd => first | ktr_room | k_extra "li"); (case ku => first | ktr_units | k_extra "li")
  k_with "ntb" => (repeat' (first | exact fa0 | exact notTab_tups _ | refine fac (by first | exact notTab_63 | exact notTab_70 | exact notTab_cell (by with_reducible assumption) | exact .inr (.inl ⟨(fun e => by cases e), (fun vs e => by cases e)⟩)) ?_ | refine faa ?_ ?_))
  k_with "pre" => ((with_reducible show wpAny _ _ (binaryOp .Add (Value.ref _) (Value.ref _)) _ _ _); k_dflt (refine' kmk_add_ints ?w7F ?w7N ?w7a ?w7b ?w7i ?w7j ?_ ?w7z; (case w7F => k_asm); (case w7N => k_asm); (case w7a => kmk_list); (case w7b => kmk_list); (case w7i => l_ints); (case w7j => l_ints); (case w7z => (refine' addsz ?za ?zb; (case za => k_extra "li"); (case zb => k_extra "li")))); intro _ _ _ _ _ l1q9 _; (try k_lt l1q9); revert l1q9; intro _; (try k_sweep))
  k_with "pre" => ((with_reducible show wpAny _ _ (subscriptTail _ (Expr.Slice _ _ none _) (Value.ref _) (Value.ref _)) _ _ _); k_dflt (refine' kmk_slice_ints (s := ⟨_, _, _, _, _⟩) ?w9F ?w9N ?w9l ?w9p ?w9q ?w9i ?w9m ?w9c ?_ ?w9s ?w9t ?w9z; (case w9F => k_asm); (case w9N => k_asm); (case w9l => kmk_list); (case w9p => kmk_part); (case w9q => kmk_part); (case w9i => l_ints); (case w9m => first | (refine' kmk_from ?aa ?bb; (case aa => l_ints); (case bb => k_extra "lidx")) | (refine' kmk_upto ?aa ?bb; (case aa => l_ints); (case bb => k_extra "lidx")) | (refine' kmk_run ?aa ?bb ?cc; (case aa => l_ints); (case bb => k_extra "lidx"); (case cc => k_extra "lidx")) | kmk_nums); (case w9c => kmk_len); (case w9s => with_unfolding_all rfl); (case w9t => kmk_pure); (case w9z => first | (refine' lsz ?zi ?zl; (case zi => assumption); (case zl => k_extra "li")) | kmk_size)); intro _ _ _ _ _ l1q9 _ _ _; dsimp only; (try k_lt l1q9); revert l1q9; intro _; (try k_sweep))
  k_with "pre" => ((with_reducible show wpAny _ _ (subscriptTail (Expr.Subscript _ _ _) (Expr.Slice _ _ _ _) (Value.ref _) (Value.ref _)) _ _ _); k_dflt (refine kba_turn (value' := Expr.Name (Str.ofString "_") ⟨0, 0, 0, 0⟩) (fun _ => rfl) ?_))
  trivial
section
noncomputable def pwS (i : Nat) : Stmt := (PySem.Challenge.pw_sr0059_02.main.body[i]?).getD (.Pass ⟨0, 0, 0, 0⟩)
noncomputable def pwM (i j : Nat) : Stmt := match pwS i with | .ClassDef _ _ _ b .. => (b[j]?).getD (.Pass ⟨0, 0, 0, 0⟩) | _ => .Pass ⟨0, 0, 0, 0⟩
noncomputable def fdA : Stmt → Arguments | .FunctionDef _ a .. => a | _ => { posonlyargs := [], args := [], vararg := none, kwonlyargs := [], kw_defaults := [], kwarg := none, defaults := [] }
noncomputable def fdB : Stmt → List Stmt | .FunctionDef _ _ b .. => b | _ => []
noncomputable def fdS : Stmt → Scope | .FunctionDef _ _ _ _ _ _ sc .. => sc | _ => { kind := .function, names := [], isGenerator := false, isCoroutine := false }
@[reducible] noncomputable def mkFn (name qual : Str) {st : Stmt} {a : Arguments} {b : List Stmt} {c : Scope} (_ : fdA st = a) (_ : fdB st = b) (_ : fdS st = c) (cl : List (Str × Addr)) (dV pm cdv ct : Value) : Obj :=
  { cls := .type "function", data := .func { name := name, qualname := qual, params := a, body := .stmts b, scope := c, globals := 3, closure := cl, defaults := dV, kwdefaults := .none, pyModule := pm, code := cdv, closureTuple := ct } }
noncomputable def K39 : Params → Frag := fun P => (nat_lit 2, { cls := Value.none, data := Data.dict #[] }) ::
 (nat_lit 3, { cls := Value.type "dict", data := Data.dict #[{ hash := PyData.keyHash P (Str.ofString "__name__"), key := Value.str (Str.ofString "__name__") 165, val := Value.str (Str.ofString "law_sr0059_02") 411 }, { hash := PyData.keyHash P (Str.ofString "__doc__"), key := Value.str (Str.ofString "__doc__") 166, val := Value.none }, { hash := PyData.keyHash P (Str.ofString "__package__"), key := Value.str (Str.ofString "__package__") 167, val := Value.none }, { hash := PyData.keyHash P (Str.ofString "__loader__"), key := Value.str (Str.ofString "__loader__") 168, val := Value.builtin "__main__.__loader__#opaque" }, { hash := PyData.keyHash P (Str.ofString "__spec__"), key := Value.str (Str.ofString "__spec__") 169, val := Value.none }, { hash := PyData.keyHash P (Str.ofString "__annotations__"), key := Value.str (Str.ofString "__annotations__") 170, val := Value.ref 6 }, { hash := PyData.keyHash P (Str.ofString "__builtins__"), key := Value.str (Str.ofString "__builtins__") 171, val := Value.ref 4 }, { hash := PyData.keyHash P (Str.ofString "__file__"), key := Value.str (Str.ofString "__file__") 173, val := Value.str (Str.ofString "/claim/cut.py") 172 }, { hash := PyData.keyHash P (Str.ofString "__cached__"), key := Value.str (Str.ofString "__cached__") 174, val := Value.none }, { hash := PyData.keyHash P (Str.ofString "_wall"), key := Value.str (Str.ofString "_wall") 193, val := Value.ref 21 }, { hash := PyData.keyHash P (Str.ofString "_MAX_STRING_SIZE"), key := Value.str (Str.ofString "_MAX_STRING_SIZE") 197, val := Value.int 40 196 }, { hash := PyData.keyHash P (Str.ofString "_MOVE_COST"), key := Value.str (Str.ofString "_MOVE_COST") 199, val := Value.int 2 198 }, { hash := PyData.keyHash P (Str.ofString "_CASE_COST"), key := Value.str (Str.ofString "_CASE_COST") 201, val := Value.int 1 200 }, { hash := PyData.keyHash P (Str.ofString "_substitution_cost"), key := Value.str (Str.ofString "_substitution_cost") 209, val := Value.ref 28 }, { hash := PyData.keyHash P (Str.ofString "_levenshtein_distance"), key := Value.str (Str.ofString "_levenshtein_distance") 229, val := Value.ref 35 }, { hash := PyData.keyHash P (Str.ofString "_DIV_LIMIT"), key := Value.str (Str.ofString "_DIV_LIMIT") 233, val := Value.int 4000 232 }, { hash := PyData.keyHash P (Str.ofString "_div2n1n"), key := Value.str (Str.ofString "_div2n1n") 250, val := Value.ref 42 }, { hash := PyData.keyHash P (Str.ofString "_div3n2n"), key := Value.str (Str.ofString "_div3n2n") 264, val := Value.ref 49 }, { hash := PyData.keyHash P (Str.ofString "_int2digits"), key := Value.str (Str.ofString "_int2digits") 275, val := Value.ref 56 }, { hash := PyData.keyHash P (Str.ofString "_digits2int"), key := Value.str (Str.ofString "_digits2int") 286, val := Value.ref 63 }, { hash := PyData.keyHash P (Str.ofString "_divmod_pos"), key := Value.str (Str.ofString "_divmod_pos") 301, val := Value.ref 70 }, { hash := PyData.keyHash P (Str.ofString "int_divmod"), key := Value.str (Str.ofString "int_divmod") 311, val := Value.ref 77 }, { hash := PyData.keyHash P (Str.ofString "EMPTYSTRING"), key := Value.str (Str.ofString "EMPTYSTRING") 315, val := Value.str (Str.ofString "") 314 }, { hash := PyData.keyHash P (Str.ofString "_Accumulator"), key := Value.str (Str.ofString "_Accumulator") 410, val := Value.ref 157 }, { hash := PyData.keyHash P (Str.ofString "_law_pair"), key := Value.str (Str.ofString "_law_pair") 422, val := Value.ref 168 }, { hash := PyData.keyHash P (Str.ofString "_law_run"), key := Value.str (Str.ofString "_law_run") 433, val := Value.ref 175 }, { hash := PyData.keyHash P (Str.ofString "_law_signs"), key := Value.str (Str.ofString "_law_signs") 439, val := Value.ref 180 }, { hash := PyData.keyHash P (Str.ofString "_law_least"), key := Value.str (Str.ofString "_law_least") 452, val := Value.ref 187 }, { hash := PyData.keyHash P (Str.ofString "law"), key := Value.str (Str.ofString "law") 458, val := Value.ref 192 }] 29 }) ::
 (nat_lit 15, { cls := Value.type "tuple", data := Data.seq #[] }) ::
 (nat_lit 17, { cls := Value.type "tuple", data := Data.seq #[Value.str (Str.ofString "k") 190] }) ::
 (nat_lit 18, { cls := Value.type "tuple", data := Data.seq #[] }) ::
 (nat_lit 20, { cls := Value.type "code", data := Data.fields #[Value.str (Str.ofString "_wall") 187, Value.str (Str.ofString "_wall") 188, Value.str (Str.ofString "/claim/cut.py") 189, Value.int 1 0, Value.int 1 0, Value.int 0 0, Value.int 0 0, Value.int 3 0, Value.ref 15, Value.bool true, Value.int 181 0, Value.ref 16, Value.none, Value.ref 17, Value.ref 18, Value.ref 19, Value.int 191 0, Value.int 1 0, Value.str (Str.ofString "/claim/cut.py") 192] }) ::
 (nat_lit 21, mkFn (Str.ofString "_wall") (Str.ofString "_wall") (show fdA (pwS 0) = _ from by conv => lhs; whnf) (show fdB (pwS 0) = _ from by conv => lhs; whnf) (show fdS (pwS 0) = _ from by conv => lhs; whnf) [] (Value.none) (Value.str (Str.ofString "__main__") 164) (Value.ref 20) (Value.none)) ::
 (nat_lit 22, { cls := Value.type "tuple", data := Data.seq #[] }) ::
 (nat_lit 24, { cls := Value.type "tuple", data := Data.seq #[Value.str (Str.ofString "ch_a") 205, Value.str (Str.ofString "ch_b") 206] }) ::
 (nat_lit 25, { cls := Value.type "tuple", data := Data.seq #[] }) ::
 (nat_lit 27, { cls := Value.type "code", data := Data.fields #[Value.str (Str.ofString "_substitution_cost") 202, Value.str (Str.ofString "_substitution_cost") 203, Value.str (Str.ofString "/claim/cut.py") 204, Value.int 8 0, Value.int 2 0, Value.int 0 0, Value.int 0 0, Value.int 3 0, Value.ref 22, Value.bool true, Value.int 181 0, Value.ref 23, Value.none, Value.ref 24, Value.ref 25, Value.ref 26, Value.int 207 0, Value.int 8 0, Value.str (Str.ofString "/claim/cut.py") 208] }) ::
 (nat_lit 28, mkFn (Str.ofString "_substitution_cost") (Str.ofString "_substitution_cost") (show fdA (pwS 5) = _ from by conv => lhs; whnf) (show fdB (pwS 5) = _ from by conv => lhs; whnf) (show fdS (pwS 5) = _ from by conv => lhs; whnf) [] (Value.none) (Value.str (Str.ofString "cpy313.traceback") 194) (Value.ref 27) (Value.none)) ::
 (nat_lit 29, { cls := Value.type "tuple", data := Data.seq #[] }) ::
 (nat_lit 31, { cls := Value.type "tuple", data := Data.seq #[Value.str (Str.ofString "a") 213, Value.str (Str.ofString "b") 214, Value.str (Str.ofString "max_cost") 215, Value.str (Str.ofString "pre") 216, Value.str (Str.ofString "post") 217, Value.str (Str.ofString "row") 218, Value.str (Str.ofString "result") 219, Value.str (Str.ofString "bindex") 220, Value.str (Str.ofString "bchar") 221, Value.str (Str.ofString "distance") 222, Value.str (Str.ofString "minimum") 223, Value.str (Str.ofString "index") 224, Value.str (Str.ofString "substitute") 225, Value.str (Str.ofString "insert_delete") 226] }) ::
 (nat_lit 32, { cls := Value.type "tuple", data := Data.seq #[] }) ::
 (nat_lit 34, { cls := Value.type "code", data := Data.fields #[Value.str (Str.ofString "_levenshtein_distance") 210, Value.str (Str.ofString "_levenshtein_distance") 211, Value.str (Str.ofString "/claim/cut.py") 212, Value.int 14 0, Value.int 3 0, Value.int 0 0, Value.int 0 0, Value.int 3 0, Value.ref 29, Value.bool true, Value.int 181 0, Value.ref 30, Value.none, Value.ref 31, Value.ref 32, Value.ref 33, Value.int 227 0, Value.int 14 0, Value.str (Str.ofString "/claim/cut.py") 228] }) ::
 (nat_lit 35, mkFn (Str.ofString "_levenshtein_distance") (Str.ofString "_levenshtein_distance") (show fdA (pwS 6) = _ from by conv => lhs; whnf) (show fdB (pwS 6) = _ from by conv => lhs; whnf) (show fdS (pwS 6) = _ from by conv => lhs; whnf) [] (Value.none) (Value.str (Str.ofString "cpy313.traceback") 194) (Value.ref 34) (Value.none)) ::
 (nat_lit 36, { cls := Value.type "tuple", data := Data.seq #[] }) ::
 (nat_lit 38, { cls := Value.type "tuple", data := Data.seq #[Value.str (Str.ofString "a") 237, Value.str (Str.ofString "b") 238, Value.str (Str.ofString "n") 239, Value.str (Str.ofString "pad") 240, Value.str (Str.ofString "half_n") 241, Value.str (Str.ofString "mask") 242, Value.str (Str.ofString "b1") 243, Value.str (Str.ofString "b2") 244, Value.str (Str.ofString "q1") 245, Value.str (Str.ofString "r") 246, Value.str (Str.ofString "q2") 247] }) ::
 (nat_lit 39, { cls := Value.type "tuple", data := Data.seq #[] }) ::
 (nat_lit 41, { cls := Value.type "code", data := Data.fields #[Value.str (Str.ofString "_div2n1n") 234, Value.str (Str.ofString "_div2n1n") 235, Value.str (Str.ofString "/claim/cut.py") 236, Value.int 54 0, Value.int 3 0, Value.int 0 0, Value.int 0 0, Value.int 3 0, Value.ref 36, Value.bool true, Value.int 181 0, Value.ref 37, Value.none, Value.ref 38, Value.ref 39, Value.ref 40, Value.int 248 0, Value.int 54 0, Value.str (Str.ofString "/claim/cut.py") 249] }) ::
 (nat_lit 42, mkFn (Str.ofString "_div2n1n") (Str.ofString "_div2n1n") (show fdA (pwS 9) = _ from by conv => lhs; whnf) (show fdB (pwS 9) = _ from by conv => lhs; whnf) (show fdS (pwS 9) = _ from by conv => lhs; whnf) [] (Value.none) (Value.str (Str.ofString "cpy313._pylong") 230) (Value.ref 41) (Value.none)) ::
 (nat_lit 43, { cls := Value.type "tuple", data := Data.seq #[] }) ::
 (nat_lit 45, { cls := Value.type "tuple", data := Data.seq #[Value.str (Str.ofString "a12") 254, Value.str (Str.ofString "a3") 255, Value.str (Str.ofString "b") 256, Value.str (Str.ofString "b1") 257, Value.str (Str.ofString "b2") 258, Value.str (Str.ofString "n") 259, Value.str (Str.ofString "q") 260, Value.str (Str.ofString "r") 261] }) ::
 (nat_lit 46, { cls := Value.type "tuple", data := Data.seq #[] }) ::
 (nat_lit 48, { cls := Value.type "code", data := Data.fields #[Value.str (Str.ofString "_div3n2n") 251, Value.str (Str.ofString "_div3n2n") 252, Value.str (Str.ofString "/claim/cut.py") 253, Value.int 70 0, Value.int 6 0, Value.int 0 0, Value.int 0 0, Value.int 3 0, Value.ref 43, Value.bool true, Value.int 181 0, Value.ref 44, Value.none, Value.ref 45, Value.ref 46, Value.ref 47, Value.int 262 0, Value.int 70 0, Value.str (Str.ofString "/claim/cut.py") 263] }) ::
 (nat_lit 49, mkFn (Str.ofString "_div3n2n") (Str.ofString "_div3n2n") (show fdA (pwS 10) = _ from by conv => lhs; whnf) (show fdB (pwS 10) = _ from by conv => lhs; whnf) (show fdS (pwS 10) = _ from by conv => lhs; whnf) [] (Value.none) (Value.str (Str.ofString "cpy313._pylong") 230) (Value.ref 48) (Value.none)) ::
 (nat_lit 50, { cls := Value.type "tuple", data := Data.seq #[] }) ::
 (nat_lit 52, { cls := Value.type "tuple", data := Data.seq #[Value.str (Str.ofString "a") 268, Value.str (Str.ofString "n") 269] }) ::
 (nat_lit 53, { cls := Value.type "tuple", data := Data.seq #[Value.str (Str.ofString "n") 270, Value.str (Str.ofString "a_digits") 271, Value.str (Str.ofString "inner") 272] }) ::
 (nat_lit 55, { cls := Value.type "code", data := Data.fields #[Value.str (Str.ofString "_int2digits") 265, Value.str (Str.ofString "_int2digits") 266, Value.str (Str.ofString "/claim/cut.py") 267, Value.int 80 0, Value.int 2 0, Value.int 0 0, Value.int 0 0, Value.int 3 0, Value.ref 50, Value.bool true, Value.int 181 0, Value.ref 51, Value.none, Value.ref 52, Value.ref 53, Value.ref 54, Value.int 273 0, Value.int 80 0, Value.str (Str.ofString "/claim/cut.py") 274] }) ::
 (nat_lit 56, mkFn (Str.ofString "_int2digits") (Str.ofString "_int2digits") (show fdA (pwS 11) = _ from by conv => lhs; whnf) (show fdB (pwS 11) = _ from by conv => lhs; whnf) (show fdS (pwS 11) = _ from by conv => lhs; whnf) [] (Value.none) (Value.str (Str.ofString "cpy313._pylong") 230) (Value.ref 55) (Value.none)) ::
 (nat_lit 57, { cls := Value.type "tuple", data := Data.seq #[] }) ::
 (nat_lit 59, { cls := Value.type "tuple", data := Data.seq #[Value.str (Str.ofString "digits") 279, Value.str (Str.ofString "n") 280] }) ::
 (nat_lit 60, { cls := Value.type "tuple", data := Data.seq #[Value.str (Str.ofString "digits") 281, Value.str (Str.ofString "n") 282, Value.str (Str.ofString "inner") 283] }) ::
 (nat_lit 62, { cls := Value.type "code", data := Data.fields #[Value.str (Str.ofString "_digits2int") 276, Value.str (Str.ofString "_digits2int") 277, Value.str (Str.ofString "/claim/cut.py") 278, Value.int 96 0, Value.int 2 0, Value.int 0 0, Value.int 0 0, Value.int 3 0, Value.ref 57, Value.bool true, Value.int 181 0, Value.ref 58, Value.none, Value.ref 59, Value.ref 60, Value.ref 61, Value.int 284 0, Value.int 96 0, Value.str (Str.ofString "/claim/cut.py") 285] }) ::
 (nat_lit 63, mkFn (Str.ofString "_digits2int") (Str.ofString "_digits2int") (show fdA (pwS 12) = _ from by conv => lhs; whnf) (show fdB (pwS 12) = _ from by conv => lhs; whnf) (show fdS (pwS 12) = _ from by conv => lhs; whnf) [] (Value.none) (Value.str (Str.ofString "cpy313._pylong") 230) (Value.ref 62) (Value.none)) ::
 (nat_lit 64, { cls := Value.type "tuple", data := Data.seq #[] }) ::
 (nat_lit 66, { cls := Value.type "tuple", data := Data.seq #[Value.str (Str.ofString "a") 290, Value.str (Str.ofString "b") 291, Value.str (Str.ofString "n") 292, Value.str (Str.ofString "a_digits") 293, Value.str (Str.ofString "r") 294, Value.str (Str.ofString "q_digits") 295, Value.str (Str.ofString "a_digit") 296, Value.str (Str.ofString "q_digit") 297, Value.str (Str.ofString "q") 298] }) ::
 (nat_lit 67, { cls := Value.type "tuple", data := Data.seq #[] }) ::
 (nat_lit 69, { cls := Value.type "code", data := Data.fields #[Value.str (Str.ofString "_divmod_pos") 287, Value.str (Str.ofString "_divmod_pos") 288, Value.str (Str.ofString "/claim/cut.py") 289, Value.int 105 0, Value.int 2 0, Value.int 0 0, Value.int 0 0, Value.int 3 0, Value.ref 64, Value.bool true, Value.int 181 0, Value.ref 65, Value.none, Value.ref 66, Value.ref 67, Value.ref 68, Value.int 299 0, Value.int 105 0, Value.str (Str.ofString "/claim/cut.py") 300] }) ::
 (nat_lit 70, mkFn (Str.ofString "_divmod_pos") (Str.ofString "_divmod_pos") (show fdA (pwS 13) = _ from by conv => lhs; whnf) (show fdB (pwS 13) = _ from by conv => lhs; whnf) (show fdS (pwS 13) = _ from by conv => lhs; whnf) [] (Value.none) (Value.str (Str.ofString "cpy313._pylong") 230) (Value.ref 69) (Value.none)) ::
 (nat_lit 71, { cls := Value.type "tuple", data := Data.seq #[] }) ::
 (nat_lit 73, { cls := Value.type "tuple", data := Data.seq #[Value.str (Str.ofString "a") 305, Value.str (Str.ofString "b") 306, Value.str (Str.ofString "q") 307, Value.str (Str.ofString "r") 308] }) ::
 (nat_lit 74, { cls := Value.type "tuple", data := Data.seq #[] }) ::
 (nat_lit 76, { cls := Value.type "code", data := Data.fields #[Value.str (Str.ofString "int_divmod") 302, Value.str (Str.ofString "int_divmod") 303, Value.str (Str.ofString "/claim/cut.py") 304, Value.int 116 0, Value.int 2 0, Value.int 0 0, Value.int 0 0, Value.int 3 0, Value.ref 71, Value.bool true, Value.int 181 0, Value.ref 72, Value.none, Value.ref 73, Value.ref 74, Value.ref 75, Value.int 309 0, Value.int 116 0, Value.str (Str.ofString "/claim/cut.py") 310] }) ::
 (nat_lit 77, mkFn (Str.ofString "int_divmod") (Str.ofString "int_divmod") (show fdA (pwS 14) = _ from by conv => lhs; whnf) (show fdB (pwS 14) = _ from by conv => lhs; whnf) (show fdS (pwS 14) = _ from by conv => lhs; whnf) [] (Value.none) (Value.str (Str.ofString "cpy313._pylong") 230) (Value.ref 76) (Value.none)) ::
 (nat_lit 78, { cls := Value.type "tuple", data := Data.seq #[Value.type "list"] }) ::
 (nat_lit 81, { cls := Value.type "cell", data := Data.cell (some (Value.ref 157)) }) ::
 (nat_lit 86, { cls := Value.type "tuple", data := Data.seq #[Value.int 0 328] }) ::
 (nat_lit 87, { cls := Value.type "tuple", data := Data.seq #[Value.ref 81] }) ::
 (nat_lit 88, { cls := Value.type "tuple", data := Data.seq #[Value.str (Str.ofString "__class__") 332] }) ::
 (nat_lit 90, { cls := Value.type "tuple", data := Data.seq #[Value.str (Str.ofString "self") 333, Value.str (Str.ofString "initial_size") 334] }) ::
 (nat_lit 91, { cls := Value.type "tuple", data := Data.seq #[] }) ::
 (nat_lit 93, { cls := Value.type "code", data := Data.fields #[Value.str (Str.ofString "__init__") 329, Value.str (Str.ofString "_Accumulator.__init__") 330, Value.str (Str.ofString "/claim/cut.py") 331, Value.int 131 0, Value.int 2 0, Value.int 0 0, Value.int 0 0, Value.int 3 0, Value.ref 88, Value.bool true, Value.int 181 0, Value.ref 89, Value.none, Value.ref 90, Value.ref 91, Value.ref 92, Value.int 335 0, Value.int 131 0, Value.str (Str.ofString "/claim/cut.py") 336] }) ::
 (nat_lit 94, mkFn (Str.ofString "__init__") (Str.ofString "_Accumulator.__init__") (show fdA (pwM 17 0) = _ from by conv => lhs; whnf) (show fdB (pwM 17 0) = _ from by conv => lhs; whnf) (show fdS (pwM 17 0) = _ from by conv => lhs; whnf) [(Str.ofString "__class__", 81)] (Value.ref 86) (Value.str (Str.ofString "cpy313.email.header") 312) (Value.ref 93) (Value.ref 87)) ::
 (nat_lit 95, { cls := Value.type "tuple", data := Data.seq #[] }) ::
 (nat_lit 97, { cls := Value.type "tuple", data := Data.seq #[Value.str (Str.ofString "self") 341, Value.str (Str.ofString "fws") 342, Value.str (Str.ofString "string") 343] }) ::
 (nat_lit 98, { cls := Value.type "tuple", data := Data.seq #[] }) ::
 (nat_lit 100, { cls := Value.type "code", data := Data.fields #[Value.str (Str.ofString "push") 338, Value.str (Str.ofString "_Accumulator.push") 339, Value.str (Str.ofString "/claim/cut.py") 340, Value.int 135 0, Value.int 3 0, Value.int 0 0, Value.int 0 0, Value.int 3 0, Value.ref 95, Value.bool true, Value.int 181 0, Value.ref 96, Value.none, Value.ref 97, Value.ref 98, Value.ref 99, Value.int 344 0, Value.int 135 0, Value.str (Str.ofString "/claim/cut.py") 345] }) ::
 (nat_lit 101, mkFn (Str.ofString "push") (Str.ofString "_Accumulator.push") (show fdA (pwM 17 1) = _ from by conv => lhs; whnf) (show fdB (pwM 17 1) = _ from by conv => lhs; whnf) (show fdS (pwM 17 1) = _ from by conv => lhs; whnf) [] (Value.none) (Value.str (Str.ofString "cpy313.email.header") 312) (Value.ref 100) (Value.none)) ::
 (nat_lit 102, { cls := Value.type "tuple", data := Data.seq #[Value.int 0 347] }) ::
 (nat_lit 103, { cls := Value.type "tuple", data := Data.seq #[] }) ::
 (nat_lit 105, { cls := Value.type "tuple", data := Data.seq #[Value.str (Str.ofString "self") 351, Value.str (Str.ofString "i") 352] }) ::
 (nat_lit 106, { cls := Value.type "tuple", data := Data.seq #[] }) ::
 (nat_lit 108, { cls := Value.type "code", data := Data.fields #[Value.str (Str.ofString "pop_from") 348, Value.str (Str.ofString "_Accumulator.pop_from") 349, Value.str (Str.ofString "/claim/cut.py") 350, Value.int 138 0, Value.int 2 0, Value.int 0 0, Value.int 0 0, Value.int 3 0, Value.ref 103, Value.bool true, Value.int 181 0, Value.ref 104, Value.none, Value.ref 105, Value.ref 106, Value.ref 107, Value.int 353 0, Value.int 138 0, Value.str (Str.ofString "/claim/cut.py") 354] }) ::
 (nat_lit 109, mkFn (Str.ofString "pop_from") (Str.ofString "_Accumulator.pop_from") (show fdA (pwM 17 2) = _ from by conv => lhs; whnf) (show fdB (pwM 17 2) = _ from by conv => lhs; whnf) (show fdS (pwM 17 2) = _ from by conv => lhs; whnf) [] (Value.ref 102) (Value.str (Str.ofString "cpy313.email.header") 312) (Value.ref 108) (Value.none)) ::
 (nat_lit 110, { cls := Value.type "tuple", data := Data.seq #[Value.ref 81] }) ::
 (nat_lit 111, { cls := Value.type "tuple", data := Data.seq #[Value.str (Str.ofString "__class__") 359] }) ::
 (nat_lit 113, { cls := Value.type "tuple", data := Data.seq #[Value.str (Str.ofString "self") 360] }) ::
 (nat_lit 114, { cls := Value.type "tuple", data := Data.seq #[] }) ::
 (nat_lit 116, { cls := Value.type "code", data := Data.fields #[Value.str (Str.ofString "pop") 356, Value.str (Str.ofString "_Accumulator.pop") 357, Value.str (Str.ofString "/claim/cut.py") 358, Value.int 141 0, Value.int 1 0, Value.int 0 0, Value.int 0 0, Value.int 3 0, Value.ref 111, Value.bool true, Value.int 181 0, Value.ref 112, Value.none, Value.ref 113, Value.ref 114, Value.ref 115, Value.int 361 0, Value.int 141 0, Value.str (Str.ofString "/claim/cut.py") 362] }) ::
 (nat_lit 117, mkFn (Str.ofString "pop") (Str.ofString "_Accumulator.pop") (show fdA (pwM 17 3) = _ from by conv => lhs; whnf) (show fdB (pwM 17 3) = _ from by conv => lhs; whnf) (show fdS (pwM 17 3) = _ from by conv => lhs; whnf) [(Str.ofString "__class__", 81)] (Value.none) (Value.str (Str.ofString "cpy313.email.header") 312) (Value.ref 116) (Value.ref 110)) ::
 (nat_lit 118, { cls := Value.type "tuple", data := Data.seq #[] }) ::
 (nat_lit 120, { cls := Value.type "tuple", data := Data.seq #[Value.str (Str.ofString "self") 367] }) ::
 (nat_lit 121, { cls := Value.type "tuple", data := Data.seq #[] }) ::
 (nat_lit 123, { cls := Value.type "code", data := Data.fields #[Value.str (Str.ofString "__len__") 364, Value.str (Str.ofString "_Accumulator.__len__") 365, Value.str (Str.ofString "/claim/cut.py") 366, Value.int 146 0, Value.int 1 0, Value.int 0 0, Value.int 0 0, Value.int 3 0, Value.ref 118, Value.bool true, Value.int 181 0, Value.ref 119, Value.none, Value.ref 120, Value.ref 121, Value.ref 122, Value.int 368 0, Value.int 146 0, Value.str (Str.ofString "/claim/cut.py") 369] }) ::
 (nat_lit 124, mkFn (Str.ofString "__len__") (Str.ofString "_Accumulator.__len__") (show fdA (pwM 17 4) = _ from by conv => lhs; whnf) (show fdB (pwM 17 4) = _ from by conv => lhs; whnf) (show fdS (pwM 17 4) = _ from by conv => lhs; whnf) [] (Value.none) (Value.str (Str.ofString "cpy313.email.header") 312) (Value.ref 123) (Value.none)) ::
 (nat_lit 125, { cls := Value.type "tuple", data := Data.seq #[] }) ::
 (nat_lit 127, { cls := Value.type "tuple", data := Data.seq #[Value.str (Str.ofString "self") 374] }) ::
 (nat_lit 128, { cls := Value.type "tuple", data := Data.seq #[] }) ::
 (nat_lit 130, { cls := Value.type "code", data := Data.fields #[Value.str (Str.ofString "__str__") 371, Value.str (Str.ofString "_Accumulator.__str__") 372, Value.str (Str.ofString "/claim/cut.py") 373, Value.int 149 0, Value.int 1 0, Value.int 0 0, Value.int 0 0, Value.int 3 0, Value.ref 125, Value.bool true, Value.int 181 0, Value.ref 126, Value.none, Value.ref 127, Value.ref 128, Value.ref 129, Value.int 375 0, Value.int 149 0, Value.str (Str.ofString "/claim/cut.py") 376] }) ::
 (nat_lit 131, mkFn (Str.ofString "__str__") (Str.ofString "_Accumulator.__str__") (show fdA (pwM 17 5) = _ from by conv => lhs; whnf) (show fdB (pwM 17 5) = _ from by conv => lhs; whnf) (show fdS (pwM 17 5) = _ from by conv => lhs; whnf) [] (Value.none) (Value.str (Str.ofString "cpy313.email.header") 312) (Value.ref 130) (Value.none)) ::
 (nat_lit 132, { cls := Value.type "tuple", data := Data.seq #[Value.none] }) ::
 (nat_lit 133, { cls := Value.type "tuple", data := Data.seq #[] }) ::
 (nat_lit 135, { cls := Value.type "tuple", data := Data.seq #[Value.str (Str.ofString "self") 381, Value.str (Str.ofString "startval") 382] }) ::
 (nat_lit 136, { cls := Value.type "tuple", data := Data.seq #[] }) ::
 (nat_lit 138, { cls := Value.type "code", data := Data.fields #[Value.str (Str.ofString "reset") 378, Value.str (Str.ofString "_Accumulator.reset") 379, Value.str (Str.ofString "/claim/cut.py") 380, Value.int 152 0, Value.int 2 0, Value.int 0 0, Value.int 0 0, Value.int 3 0, Value.ref 133, Value.bool true, Value.int 181 0, Value.ref 134, Value.none, Value.ref 135, Value.ref 136, Value.ref 137, Value.int 383 0, Value.int 152 0, Value.str (Str.ofString "/claim/cut.py") 384] }) ::
 (nat_lit 139, mkFn (Str.ofString "reset") (Str.ofString "_Accumulator.reset") (show fdA (pwM 17 6) = _ from by conv => lhs; whnf) (show fdB (pwM 17 6) = _ from by conv => lhs; whnf) (show fdS (pwM 17 6) = _ from by conv => lhs; whnf) [] (Value.ref 132) (Value.str (Str.ofString "cpy313.email.header") 312) (Value.ref 138) (Value.none)) ::
 (nat_lit 140, { cls := Value.type "tuple", data := Data.seq #[] }) ::
 (nat_lit 142, { cls := Value.type "tuple", data := Data.seq #[Value.str (Str.ofString "self") 389] }) ::
 (nat_lit 143, { cls := Value.type "tuple", data := Data.seq #[] }) ::
 (nat_lit 145, { cls := Value.type "code", data := Data.fields #[Value.str (Str.ofString "is_onlyws") 386, Value.str (Str.ofString "_Accumulator.is_onlyws") 387, Value.str (Str.ofString "/claim/cut.py") 388, Value.int 155 0, Value.int 1 0, Value.int 0 0, Value.int 0 0, Value.int 3 0, Value.ref 140, Value.bool true, Value.int 181 0, Value.ref 141, Value.none, Value.ref 142, Value.ref 143, Value.ref 144, Value.int 390 0, Value.int 155 0, Value.str (Str.ofString "/claim/cut.py") 391] }) ::
 (nat_lit 146, mkFn (Str.ofString "is_onlyws") (Str.ofString "_Accumulator.is_onlyws") (show fdA (pwM 17 7) = _ from by conv => lhs; whnf) (show fdB (pwM 17 7) = _ from by conv => lhs; whnf) (show fdS (pwM 17 7) = _ from by conv => lhs; whnf) [] (Value.none) (Value.str (Str.ofString "cpy313.email.header") 312) (Value.ref 145) (Value.none)) ::
 (nat_lit 147, { cls := Value.type "tuple", data := Data.seq #[Value.ref 81] }) ::
 (nat_lit 148, { cls := Value.type "tuple", data := Data.seq #[Value.str (Str.ofString "__class__") 396] }) ::
 (nat_lit 150, { cls := Value.type "tuple", data := Data.seq #[Value.str (Str.ofString "self") 397] }) ::
 (nat_lit 151, { cls := Value.type "tuple", data := Data.seq #[] }) ::
 (nat_lit 153, { cls := Value.type "code", data := Data.fields #[Value.str (Str.ofString "part_count") 393, Value.str (Str.ofString "_Accumulator.part_count") 394, Value.str (Str.ofString "/claim/cut.py") 395, Value.int 158 0, Value.int 1 0, Value.int 0 0, Value.int 0 0, Value.int 3 0, Value.ref 148, Value.bool true, Value.int 181 0, Value.ref 149, Value.none, Value.ref 150, Value.ref 151, Value.ref 152, Value.int 398 0, Value.int 158 0, Value.str (Str.ofString "/claim/cut.py") 399] }) ::
 (nat_lit 154, mkFn (Str.ofString "part_count") (Str.ofString "_Accumulator.part_count") (show fdA (pwM 17 8) = _ from by conv => lhs; whnf) (show fdB (pwM 17 8) = _ from by conv => lhs; whnf) (show fdS (pwM 17 8) = _ from by conv => lhs; whnf) [(Str.ofString "__class__", 81)] (Value.none) (Value.str (Str.ofString "cpy313.email.header") 312) (Value.ref 153) (Value.ref 147)) ::
 (nat_lit 155, { cls := Value.type "tuple", data := Data.seq #[Value.str (Str.ofString "_initial_size") 401] }) ::
 (nat_lit 156, { cls := Value.type "dict", data := Data.dict #[{ hash := PyData.keyHash P (Str.ofString "__module__"), key := Value.str (Str.ofString "__module__") 323, val := Value.str (Str.ofString "cpy313.email.header") 312 }, { hash := PyData.keyHash P (Str.ofString "__firstlineno__"), key := Value.str (Str.ofString "__firstlineno__") 327, val := Value.int 129 326 }, { hash := PyData.keyHash P (Str.ofString "__init__"), key := Value.str (Str.ofString "__init__") 337, val := Value.ref 94 }, { hash := PyData.keyHash P (Str.ofString "push"), key := Value.str (Str.ofString "push") 346, val := Value.ref 101 }, { hash := PyData.keyHash P (Str.ofString "pop_from"), key := Value.str (Str.ofString "pop_from") 355, val := Value.ref 109 }, { hash := PyData.keyHash P (Str.ofString "pop"), key := Value.str (Str.ofString "pop") 363, val := Value.ref 117 }, { hash := PyData.keyHash P (Str.ofString "__len__"), key := Value.str (Str.ofString "__len__") 370, val := Value.ref 124 }, { hash := PyData.keyHash P (Str.ofString "__str__"), key := Value.str (Str.ofString "__str__") 377, val := Value.ref 131 }, { hash := PyData.keyHash P (Str.ofString "reset"), key := Value.str (Str.ofString "reset") 385, val := Value.ref 139 }, { hash := PyData.keyHash P (Str.ofString "is_onlyws"), key := Value.str (Str.ofString "is_onlyws") 392, val := Value.ref 146 }, { hash := PyData.keyHash P (Str.ofString "part_count"), key := Value.str (Str.ofString "part_count") 400, val := Value.ref 154 }, { hash := PyData.keyHash P (Str.ofString "__static_attributes__"), key := Value.str (Str.ofString "__static_attributes__") 402, val := Value.ref 155 }, { hash := PyData.keyHash P (Str.ofString "__dict__"), key := Value.str (Str.ofString "__dict__") 405, val := Value.ref 158 }, { hash := PyData.keyHash P (Str.ofString "__weakref__"), key := Value.str (Str.ofString "__weakref__") 407, val := Value.ref 159 }, { hash := PyData.keyHash P (Str.ofString "__doc__"), key := Value.str (Str.ofString "__doc__") 408, val := Value.none }] 5 }) ::
 (nat_lit 157, { cls := Value.type "type", data := Data.cls { name := Str.ofString "_Accumulator", bases := [Value.type "list"], mro := [Value.ref 157, Value.type "list", Value.type "object"], ns := 156, qualname := Str.ofString "_Accumulator" }, slots := #[some (Value.ref 78), none, some (Value.str (Str.ofString "_Accumulator") 316), some (Value.str (Str.ofString "_Accumulator") 324), some (Value.builtin "list.__new__"), some (Value.bool true)] }) ::
 (nat_lit 158, { cls := Value.type "getset_descriptor", data := Data.fields #[Value.str (Str.ofString "__dict__") 404, Value.ref 157, Value.builtin "function.__dict__", Value.builtin "function.__dict__#set"] }) ::
 (nat_lit 159, { cls := Value.type "getset_descriptor", data := Data.fields #[Value.str (Str.ofString "__weakref__") 406, Value.ref 157, Value.builtin "ExceptionGroup.__weakref__", Value.none] }) ::
 (nat_lit 162, { cls := Value.type "tuple", data := Data.seq #[] }) ::
 (nat_lit 164, { cls := Value.type "tuple", data := Data.seq #[Value.str (Str.ofString "row") 416, Value.str (Str.ofString "upper") 417, Value.str (Str.ofString "lower") 418, Value.str (Str.ofString "quotient") 419] }) ::
 (nat_lit 165, { cls := Value.type "tuple", data := Data.seq #[] }) ::
 (nat_lit 167, { cls := Value.type "code", data := Data.fields #[Value.str (Str.ofString "_law_pair") 413, Value.str (Str.ofString "_law_pair") 414, Value.str (Str.ofString "/claim/cut.py") 415, Value.int 161 0, Value.int 1 0, Value.int 0 0, Value.int 0 0, Value.int 3 0, Value.ref 162, Value.bool true, Value.int 181 0, Value.ref 163, Value.none, Value.ref 164, Value.ref 165, Value.ref 166, Value.int 420 0, Value.int 161 0, Value.str (Str.ofString "/claim/cut.py") 421] }) ::
 (nat_lit 168, mkFn (Str.ofString "_law_pair") (Str.ofString "_law_pair") (show fdA (pwS 19) = _ from by conv => lhs; whnf) (show fdB (pwS 19) = _ from by conv => lhs; whnf) (show fdS (pwS 19) = _ from by conv => lhs; whnf) [] (Value.none) (Value.str (Str.ofString "law_sr0059_02") 411) (Value.ref 167) (Value.none)) ::
 (nat_lit 169, { cls := Value.type "tuple", data := Data.seq #[] }) ::
 (nat_lit 171, { cls := Value.type "tuple", data := Data.seq #[Value.str (Str.ofString "upper") 426, Value.str (Str.ofString "lower") 427, Value.str (Str.ofString "row") 428, Value.str (Str.ofString "quotient") 429, Value.str (Str.ofString "rest") 430] }) ::
 (nat_lit 172, { cls := Value.type "tuple", data := Data.seq #[] }) ::
 (nat_lit 174, { cls := Value.type "code", data := Data.fields #[Value.str (Str.ofString "_law_run") 423, Value.str (Str.ofString "_law_run") 424, Value.str (Str.ofString "/claim/cut.py") 425, Value.int 166 0, Value.int 2 0, Value.int 0 0, Value.int 0 0, Value.int 3 0, Value.ref 169, Value.bool true, Value.int 181 0, Value.ref 170, Value.none, Value.ref 171, Value.ref 172, Value.ref 173, Value.int 431 0, Value.int 166 0, Value.str (Str.ofString "/claim/cut.py") 432] }) ::
 (nat_lit 175, mkFn (Str.ofString "_law_run") (Str.ofString "_law_run") (show fdA (pwS 20) = _ from by conv => lhs; whnf) (show fdB (pwS 20) = _ from by conv => lhs; whnf) (show fdS (pwS 20) = _ from by conv => lhs; whnf) [] (Value.none) (Value.str (Str.ofString "law_sr0059_02") 411) (Value.ref 174) (Value.none)) ::
 (nat_lit 176, { cls := Value.type "tuple", data := Data.seq #[] }) ::
 (nat_lit 179, { cls := Value.type "code", data := Data.fields #[Value.str (Str.ofString "_law_signs") 434, Value.str (Str.ofString "_law_signs") 435, Value.str (Str.ofString "/claim/cut.py") 436, Value.int 177 0, Value.int 1 0, Value.int 0 0, Value.int 0 0, Value.int 3 0, Value.ref 176, Value.bool true, Value.int 181 0, Value.ref 177, Value.none, Value.none, Value.none, Value.ref 178, Value.int 437 0, Value.int 177 0, Value.str (Str.ofString "/claim/cut.py") 438] }) ::
 (nat_lit 180, mkFn (Str.ofString "_law_signs") (Str.ofString "_law_signs") (show fdA (pwS 21) = _ from by conv => lhs; whnf) (show fdB (pwS 21) = _ from by conv => lhs; whnf) (show fdS (pwS 21) = _ from by conv => lhs; whnf) [] (Value.none) (Value.str (Str.ofString "law_sr0059_02") 411) (Value.ref 179) (Value.none)) ::
 (nat_lit 181, { cls := Value.type "tuple", data := Data.seq #[] }) ::
 (nat_lit 183, { cls := Value.type "tuple", data := Data.seq #[Value.str (Str.ofString "row") 443, Value.str (Str.ofString "ahead") 444, Value.str (Str.ofString "here") 445, Value.str (Str.ofString "size") 446, Value.str (Str.ofString "wider") 447, Value.str (Str.ofString "k") 448, Value.str (Str.ofString "ends") 449] }) ::
 (nat_lit 184, { cls := Value.type "tuple", data := Data.seq #[] }) ::
 (nat_lit 186, { cls := Value.type "code", data := Data.fields #[Value.str (Str.ofString "_law_least") 440, Value.str (Str.ofString "_law_least") 441, Value.str (Str.ofString "/claim/cut.py") 442, Value.int 179 0, Value.int 1 0, Value.int 0 0, Value.int 0 0, Value.int 3 0, Value.ref 181, Value.bool true, Value.int 181 0, Value.ref 182, Value.none, Value.ref 183, Value.ref 184, Value.ref 185, Value.int 450 0, Value.int 179 0, Value.str (Str.ofString "/claim/cut.py") 451] }) ::
 (nat_lit 187, mkFn (Str.ofString "_law_least") (Str.ofString "_law_least") (show fdA (pwS 22) = _ from by conv => lhs; whnf) (show fdB (pwS 22) = _ from by conv => lhs; whnf) (show fdS (pwS 22) = _ from by conv => lhs; whnf) [] (Value.none) (Value.str (Str.ofString "law_sr0059_02") 411) (Value.ref 186) (Value.none)) ::
 (nat_lit 188, { cls := Value.type "tuple", data := Data.seq #[] }) ::
 (nat_lit 191, { cls := Value.type "code", data := Data.fields #[Value.str (Str.ofString "law") 453, Value.str (Str.ofString "law") 454, Value.str (Str.ofString "/claim/cut.py") 455, Value.int 188 0, Value.int 1 0, Value.int 0 0, Value.int 0 0, Value.int 3 0, Value.ref 188, Value.bool true, Value.int 181 0, Value.ref 189, Value.none, Value.none, Value.none, Value.ref 190, Value.int 456 0, Value.int 188 0, Value.str (Str.ofString "/claim/cut.py") 457] }) ::
 (nat_lit 192, mkFn (Str.ofString "law") (Str.ofString "law") (show fdA (pwS 23) = _ from by conv => lhs; whnf) (show fdB (pwS 23) = _ from by conv => lhs; whnf) (show fdS (pwS 23) = _ from by conv => lhs; whnf) [] (Value.none) (Value.str (Str.ofString "law_sr0059_02") 411) (Value.ref 191) (Value.none)) :: []
end
section
noncomputable abbrev lawView : Program := view PySem.Challenge.pw_sr0059_02 [23]
noncomputable abbrev lawLoose : List Str := ["_wall", "_MAX_STRING_SIZE", "_MOVE_COST", "_CASE_COST", "_substitution_cost", "_levenshtein_distance", "_DIV_LIMIT", "_div2n1n", "_div3n2n", "_int2digits", "_digits2int", "_divmod_pos", "int_divmod", "EMPTYSTRING", "_Accumulator", "_law_pair", "_law_run", "_law_signs", "_law_least"]
noncomputable abbrev lawAdr : List Addr := [2, 3, 15, 17, 18, 20, 21, 22, 24, 25, 27, 28, 29, 31, 32, 34, 35, 36, 38, 39, 41, 42, 43, 45, 46, 48, 49, 50, 52, 53, 55, 56, 57, 59, 60, 62, 63, 64, 66, 67, 69, 70, 71, 73, 74, 76, 77, 78, 81, 86, 87, 88, 90, 91, 93, 94, 95, 97, 98, 100, 101, 102, 103, 105, 106, 108, 109, 110, 111, 113, 114, 116, 117, 118, 120, 121, 123, 124, 125, 127, 128, 130, 131, 132, 133, 135, 136, 138, 139, 140, 142, 143, 145, 146, 147, 148, 150, 151, 153, 154, 155, 156, 157, 158, 159, 162, 164, 165, 167, 168, 169, 171, 172, 174, 175, 176, 179, 180, 181, 183, 184, 186, 187, 188, 191, 192]
theorem K_as : ∀ P, lawAdr = (K39 P).map (·.1) := fun _ => by kernel_rfl
theorem left : LeftO PySem.Challenge.rw_sr0059_02.row.prog lawView lawLoose (fun s => xlAt lawView [] s && recOk (RowW.records PySem.Challenge.rw_sr0059_02.row.toRowW) s) (Hook.obs (kmHook K39 lawAdr K_as [58, 51, 119, 126])) (Hook.val (kmHook K39 lawAdr K_as [58, 51, 119, 126])) 2220 := by
  intro w
  kernel_rfl
end
section
theorem nt_mid0 {lo hi : Nat} (h : lo < hi) : lo ≤ (lo + hi) / 2 := by omega
theorem nt_mid1 {lo hi : Nat} (h : lo < hi) (n : ((lo + 1 : Nat) : Int) ≠ (hi : Nat)) : lo < (lo + hi) / 2 := by omega
theorem nt_mid2 {lo hi : Nat} (h : lo < hi) : (lo + hi) / 2 < hi := Nat.div_lt_of_lt_mul (by rw [Nat.two_mul]; exact Nat.add_lt_add_right h hi)
theorem nt_half {lo hi n : Nat} (h : lo < hi) (k : hi ≤ n) : (lo + hi) / 2 ≤ n := Nat.le_trans (Nat.le_of_lt (nt_mid2 h)) k
theorem nt_m1 {lo mid hi f : Nat} (h : hi - lo ≤ f + 1) (a : lo < mid) (b : mid < hi) : mid - lo ≤ f := Nat.le_of_lt_succ (Nat.lt_of_lt_of_le (Nat.sub_lt_sub_right (Nat.le_of_lt a) b) h)
theorem nt_m2 {lo mid hi f : Nat} (h : hi - lo ≤ f + 1) (a : lo < mid) (b : mid < hi) : hi - mid ≤ f := Nat.le_of_lt_succ (Nat.lt_of_lt_of_le (Nat.sub_lt_sub_left (Nat.lt_trans a b) a) h)
theorem nt_m3 {lo mid hi : Nat} (a : lo ≤ mid) (b : mid ≤ hi) : mid - lo + (hi - mid) = hi - lo := by rw [Nat.add_comm]; exact Nat.sub_add_sub_cancel b a
theorem nt_m4 {lo mid : Nat} (a : lo ≤ mid) : lo + (mid - lo) = mid := Nat.add_sub_of_le a
theorem nt_m6 {lo mid hi : Nat} (a : lo ≤ mid) (b : mid ≤ hi) : lo + (mid - lo) + (hi - mid) = hi := by rw [nt_m4 a, nt_m4 b]
theorem nt_z {lo hi : Nat} (h : hi - lo ≤ 0) : ¬ lo < hi := Nat.not_lt.mpr (Nat.le_of_sub_eq_zero (Nat.le_zero.mp h))
theorem nt_suc {lo hi : Nat} (h : ((lo + 1 : Nat) : Int) = (hi : Nat)) : hi = lo + 1 := by omega
theorem nt_ib {b n : Nat} (h : b ≤ 40) (k : n ≤ 40) : b + n - 1 ≤ 80 := Nat.le_trans (Nat.sub_le _ _) (Nat.add_le_add h k)
theorem nt_dec {n i : Nat} (h : i < n) : n + 1 - (i + 1) < n + 1 - i := Nat.sub_lt_sub_left (Nat.lt_succ_of_lt h) (Nat.lt_succ_self i)
theorem nt_63 {x : Nat} (h : x ≤ 1000) : (x : Int) < 2 ^ 63 := by omega
theorem nt_ilt {x y : Nat} (h : x < y) : (x : Int) < (y : Int) := Int.ofNat_lt.mpr h
theorem nt_m63 {x : Nat} : -2 ^ 63 ≤ (x : Int) := Int.le_trans (by decide) (Int.natCast_nonneg x)
theorem nt_sk {a k : Nat} (h : a ≤ 40) : a - k ≤ 1000 := Nat.le_trans (Nat.sub_le a k) (Nat.le_trans h (by decide))
theorem nt_sk0 {a k : Nat} (h : a ≤ 40) : a - k ≤ 40 := Nat.le_trans (Nat.sub_le a k) h
theorem nt_mk {a k : Nat} (h : a ≤ 40) : min k a ≤ 1000 := Nat.le_trans (Nat.min_le_right _ _) (Nat.le_trans h (by decide))
theorem nt_mk0 {a k : Nat} (h : a ≤ 40) : min k a ≤ 40 := Nat.le_trans (Nat.min_le_right _ _) h
theorem nt_40 {a : Nat} (h : a ≤ 40) : a ≤ 1000 := Nat.le_trans h (by decide)
theorem lv_lt {n m : Nat} (h : 0 < n - m) : m < n := Nat.lt_of_sub_pos h
theorem lv_n {n k a : Nat} (e : n + k = a) (h : 0 < a - k) : n - 1 < n := Nat.sub_lt (by rw [← e, Nat.add_sub_cancel] at h; exact h) (by decide)
theorem lv_s {n k a : Nat} (e : n + k = a) (h : 0 < a - k) : n - 1 + (k + 1) = a := by rw [← e, Nat.add_sub_cancel] at h; rw [← e, Nat.add_comm k 1, ← Nat.add_assoc, Nat.sub_add_cancel h]
theorem lv_me {n q : Nat} : min (n - q) n = n - q := Nat.min_eq_left (Nat.sub_le _ _)
theorem lv_mlt {n q : Nat} (h : 0 < min (n - q) n) : q < n := lv_lt (by rw [lv_me] at h; exact h)
theorem lv_mn {n k a : Nat} (e : n + k = a) (h : 0 < min (a - k) a) : n - 1 < n := lv_n e (by rw [lv_me] at h; exact h)
theorem lv_ms {n k a : Nat} (e : n + k = a) (h : 0 < min (a - k) a) : n - 1 + (k + 1) = a := lv_s e (by rw [lv_me] at h; exact h)
theorem lv_mz {n q : Nat} (h : min (n - q) n = 0) : n ≤ q := Nat.le_of_sub_eq_zero (by rw [lv_me] at h; exact h)
theorem lv_ge {x y : Nat} (h : ¬ (x : Int) < (y : Int)) : y ≤ x := Nat.le_of_not_lt fun k => h (Int.ofNat_lt.mpr k)
theorem nt_dr {a k c : Nat} (h : a + k < c) : a < c := Nat.lt_of_le_of_lt (Nat.le_add_right a k) h
theorem nt_c1 {a j k c : Nat} (h : a + k < c) (e : j ≤ k) : a + j < c := Nat.lt_of_le_of_lt (Nat.add_le_add_left e a) h
theorem nt_c2 {a i j k c : Nat} (h : a + k < c) (e : i + j ≤ k) : a + i + j < c := by rw [Nat.add_assoc]; exact nt_c1 h e
theorem nt_cf {a f c : Nat} (h : a + (10 * (f + 1) + 10) < c) : a + 3 + (10 * f + 10) < c := by omega
theorem nt_cf1 {a k f n c : Nat} (h : a + k < c) (e : f ≤ n) (d : 3 + (10 * n + 10) ≤ k) : a + 3 + (10 * f + 10) < c := by rw [Nat.add_assoc]; exact nt_c1 h (Nat.le_trans (Nat.add_le_add_left (Nat.add_le_add_right (Nat.mul_le_mul_left 10 e) 10) 3) d)
theorem nt_rf {a f c : Nat} (h : a + (f + 1 + 1) < c) : a + 1 + (f + 1) < c := by rw [Nat.add_assoc, Nat.add_comm 1]; exact h
theorem nt_rf1 {a k f n c : Nat} (h : a + k < c) (e : f ≤ n) (d : 1 + (n + 1) ≤ k) : a + 1 + (f + 1) < c := by rw [Nat.add_assoc]; exact nt_c1 h (Nat.le_trans (Nat.add_le_add_left (Nat.add_le_add_right e 1) 1) d)
theorem nt_lo {lo hi n : Nat} (e : ((lo + 1 : Nat) : Int) = (hi : Nat)) (h : hi ≤ n) : lo < n := Nat.lt_of_lt_of_le (Nat.lt_of_lt_of_eq (Nat.lt_succ_self lo) (Int.ofNat.inj e)) h
theorem nt_mid64 {lo hi n : Nat} (h : hi ≤ n) (k : n ≤ 80) : (lo + hi) / 2 - lo < 2 ^ 64 := by omega
theorem lta1 {a D : Nat} (h : a + 1 < D) : a < D := Nat.lt_of_succ_lt h
theorem lta2 {a D : Nat} (h : a + 1 + 1 < D) : a < D := lta1 (lta1 h)
theorem nt_80 {a : Nat} (h : a ≤ 80) : a ≤ 1000 := Nat.le_trans h (by decide)
theorem nt_lo63 {lo hi n : Nat} (e : ((lo + 1 : Nat) : Int) = (hi : Nat)) (h : hi ≤ n) (k : n ≤ 80) : (lo : Int) < 2 ^ 63 := nt_63 (nt_80 (Nat.le_trans (Nat.le_of_lt (nt_lo e h)) k))
theorem nt_lom {α β : Type} {f : α → β} {l : List α} {lo hi : Nat} (e : ((lo + 1 : Nat) : Int) = (hi : Nat)) (h : hi ≤ l.length) : (lo : Int) < ((l.map f).length : Nat) := by rw [List.length_map]; exact nt_ilt (nt_lo e h)
end
section
theorem xe0_2  {A1 A2 : Prop} {G : Prop} (h : A1 ∧ A2) (k : A1 → A2 → G) : G := k  h.1 h.2
theorem xe0_3  {A1 A2 A3 : Prop} {G : Prop} (h : A1 ∧ A2 ∧ A3) (k : A1 → A2 → A3 → G) : G := k  h.1 h.2.1 h.2.2
theorem xe0_4  {A1 A2 A3 A4 : Prop} {G : Prop} (h : A1 ∧ A2 ∧ A3 ∧ A4) (k : A1 → A2 → A3 → A4 → G) : G := k  h.1 h.2.1 h.2.2.1 h.2.2.2
theorem xe0_5  {A1 A2 A3 A4 A5 : Prop} {G : Prop} (h : A1 ∧ A2 ∧ A3 ∧ A4 ∧ A5) (k : A1 → A2 → A3 → A4 → A5 → G) : G := k  h.1 h.2.1 h.2.2.1 h.2.2.2.1 h.2.2.2.2
theorem xe0_8  {A1 A2 A3 A4 A5 A6 A7 A8 : Prop} {G : Prop} (h : A1 ∧ A2 ∧ A3 ∧ A4 ∧ A5 ∧ A6 ∧ A7 ∧ A8) (k : A1 → A2 → A3 → A4 → A5 → A6 → A7 → A8 → G) : G := k  h.1 h.2.1 h.2.2.1 h.2.2.2.1 h.2.2.2.2.1 h.2.2.2.2.2.1 h.2.2.2.2.2.2.1 h.2.2.2.2.2.2.2
theorem xe1_1.{u1} {α1 : Sort u1} {A1 : α1 → Prop} {G : Prop} (h : ∃ x1, A1 x1) (k : ∀ x1, A1 x1 → G) : G := h.elim fun x1 h => k x1 h
theorem xe1_2.{u1} {α1 : Sort u1} {A1 A2 : α1 → Prop} {G : Prop} (h : ∃ x1, A1 x1 ∧ A2 x1) (k : ∀ x1, A1 x1 → A2 x1 → G) : G := h.elim fun x1 h => k x1 h.1 h.2
theorem xe1_3.{u1} {α1 : Sort u1} {A1 A2 A3 : α1 → Prop} {G : Prop} (h : ∃ x1, A1 x1 ∧ A2 x1 ∧ A3 x1) (k : ∀ x1, A1 x1 → A2 x1 → A3 x1 → G) : G := h.elim fun x1 h => k x1 h.1 h.2.1 h.2.2
theorem xe2_1.{u1, u2} {α1 : Sort u1} {α2 : Sort u2} {A1 : α1 → α2 → Prop} {G : Prop} (h : ∃ x1 x2, A1 x1 x2) (k : ∀ x1 x2, A1 x1 x2 → G) : G := h.elim fun x1 h => h.elim fun x2 h => k x1 x2 h
theorem xe2_2.{u1, u2} {α1 : Sort u1} {α2 : Sort u2} {A1 A2 : α1 → α2 → Prop} {G : Prop} (h : ∃ x1 x2, A1 x1 x2 ∧ A2 x1 x2) (k : ∀ x1 x2, A1 x1 x2 → A2 x1 x2 → G) : G := h.elim fun x1 h => h.elim fun x2 h => k x1 x2 h.1 h.2
theorem xe2_3.{u1, u2} {α1 : Sort u1} {α2 : Sort u2} {A1 A2 A3 : α1 → α2 → Prop} {G : Prop} (h : ∃ x1 x2, A1 x1 x2 ∧ A2 x1 x2 ∧ A3 x1 x2) (k : ∀ x1 x2, A1 x1 x2 → A2 x1 x2 → A3 x1 x2 → G) : G := h.elim fun x1 h => h.elim fun x2 h => k x1 x2 h.1 h.2.1 h.2.2
theorem xe2_4.{u1, u2} {α1 : Sort u1} {α2 : Sort u2} {A1 A2 A3 A4 : α1 → α2 → Prop} {G : Prop} (h : ∃ x1 x2, A1 x1 x2 ∧ A2 x1 x2 ∧ A3 x1 x2 ∧ A4 x1 x2) (k : ∀ x1 x2, A1 x1 x2 → A2 x1 x2 → A3 x1 x2 → A4 x1 x2 → G) : G := h.elim fun x1 h => h.elim fun x2 h => k x1 x2 h.1 h.2.1 h.2.2.1 h.2.2.2
theorem xe2_5.{u1, u2} {α1 : Sort u1} {α2 : Sort u2} {A1 A2 A3 A4 A5 : α1 → α2 → Prop} {G : Prop} (h : ∃ x1 x2, A1 x1 x2 ∧ A2 x1 x2 ∧ A3 x1 x2 ∧ A4 x1 x2 ∧ A5 x1 x2) (k : ∀ x1 x2, A1 x1 x2 → A2 x1 x2 → A3 x1 x2 → A4 x1 x2 → A5 x1 x2 → G) : G := h.elim fun x1 h => h.elim fun x2 h => k x1 x2 h.1 h.2.1 h.2.2.1 h.2.2.2.1 h.2.2.2.2
theorem xe2_6.{u1, u2} {α1 : Sort u1} {α2 : Sort u2} {A1 A2 A3 A4 A5 A6 : α1 → α2 → Prop} {G : Prop} (h : ∃ x1 x2, A1 x1 x2 ∧ A2 x1 x2 ∧ A3 x1 x2 ∧ A4 x1 x2 ∧ A5 x1 x2 ∧ A6 x1 x2) (k : ∀ x1 x2, A1 x1 x2 → A2 x1 x2 → A3 x1 x2 → A4 x1 x2 → A5 x1 x2 → A6 x1 x2 → G) : G := h.elim fun x1 h => h.elim fun x2 h => k x1 x2 h.1 h.2.1 h.2.2.1 h.2.2.2.1 h.2.2.2.2.1 h.2.2.2.2.2
theorem xe3_2.{u1, u2, u3} {α1 : Sort u1} {α2 : Sort u2} {α3 : Sort u3} {A1 A2 : α1 → α2 → α3 → Prop} {G : Prop} (h : ∃ x1 x2 x3, A1 x1 x2 x3 ∧ A2 x1 x2 x3) (k : ∀ x1 x2 x3, A1 x1 x2 x3 → A2 x1 x2 x3 → G) : G := h.elim fun x1 h => h.elim fun x2 h => h.elim fun x3 h => k x1 x2 x3 h.1 h.2
theorem xe3_3.{u1, u2, u3} {α1 : Sort u1} {α2 : Sort u2} {α3 : Sort u3} {A1 A2 A3 : α1 → α2 → α3 → Prop} {G : Prop} (h : ∃ x1 x2 x3, A1 x1 x2 x3 ∧ A2 x1 x2 x3 ∧ A3 x1 x2 x3) (k : ∀ x1 x2 x3, A1 x1 x2 x3 → A2 x1 x2 x3 → A3 x1 x2 x3 → G) : G := h.elim fun x1 h => h.elim fun x2 h => h.elim fun x3 h => k x1 x2 x3 h.1 h.2.1 h.2.2
theorem xe3_4.{u1, u2, u3} {α1 : Sort u1} {α2 : Sort u2} {α3 : Sort u3} {A1 A2 A3 A4 : α1 → α2 → α3 → Prop} {G : Prop} (h : ∃ x1 x2 x3, A1 x1 x2 x3 ∧ A2 x1 x2 x3 ∧ A3 x1 x2 x3 ∧ A4 x1 x2 x3) (k : ∀ x1 x2 x3, A1 x1 x2 x3 → A2 x1 x2 x3 → A3 x1 x2 x3 → A4 x1 x2 x3 → G) : G := h.elim fun x1 h => h.elim fun x2 h => h.elim fun x3 h => k x1 x2 x3 h.1 h.2.1 h.2.2.1 h.2.2.2
theorem xe3_6.{u1, u2, u3} {α1 : Sort u1} {α2 : Sort u2} {α3 : Sort u3} {A1 A2 A3 A4 A5 A6 : α1 → α2 → α3 → Prop} {G : Prop} (h : ∃ x1 x2 x3, A1 x1 x2 x3 ∧ A2 x1 x2 x3 ∧ A3 x1 x2 x3 ∧ A4 x1 x2 x3 ∧ A5 x1 x2 x3 ∧ A6 x1 x2 x3) (k : ∀ x1 x2 x3, A1 x1 x2 x3 → A2 x1 x2 x3 → A3 x1 x2 x3 → A4 x1 x2 x3 → A5 x1 x2 x3 → A6 x1 x2 x3 → G) : G := h.elim fun x1 h => h.elim fun x2 h => h.elim fun x3 h => k x1 x2 x3 h.1 h.2.1 h.2.2.1 h.2.2.2.1 h.2.2.2.2.1 h.2.2.2.2.2
theorem xe3_7.{u1, u2, u3} {α1 : Sort u1} {α2 : Sort u2} {α3 : Sort u3} {A1 A2 A3 A4 A5 A6 A7 : α1 → α2 → α3 → Prop} {G : Prop} (h : ∃ x1 x2 x3, A1 x1 x2 x3 ∧ A2 x1 x2 x3 ∧ A3 x1 x2 x3 ∧ A4 x1 x2 x3 ∧ A5 x1 x2 x3 ∧ A6 x1 x2 x3 ∧ A7 x1 x2 x3) (k : ∀ x1 x2 x3, A1 x1 x2 x3 → A2 x1 x2 x3 → A3 x1 x2 x3 → A4 x1 x2 x3 → A5 x1 x2 x3 → A6 x1 x2 x3 → A7 x1 x2 x3 → G) : G := h.elim fun x1 h => h.elim fun x2 h => h.elim fun x3 h => k x1 x2 x3 h.1 h.2.1 h.2.2.1 h.2.2.2.1 h.2.2.2.2.1 h.2.2.2.2.2.1 h.2.2.2.2.2.2
theorem xe3_9.{u1, u2, u3} {α1 : Sort u1} {α2 : Sort u2} {α3 : Sort u3} {A1 A2 A3 A4 A5 A6 A7 A8 A9 : α1 → α2 → α3 → Prop} {G : Prop} (h : ∃ x1 x2 x3, A1 x1 x2 x3 ∧ A2 x1 x2 x3 ∧ A3 x1 x2 x3 ∧ A4 x1 x2 x3 ∧ A5 x1 x2 x3 ∧ A6 x1 x2 x3 ∧ A7 x1 x2 x3 ∧ A8 x1 x2 x3 ∧ A9 x1 x2 x3) (k : ∀ x1 x2 x3, A1 x1 x2 x3 → A2 x1 x2 x3 → A3 x1 x2 x3 → A4 x1 x2 x3 → A5 x1 x2 x3 → A6 x1 x2 x3 → A7 x1 x2 x3 → A8 x1 x2 x3 → A9 x1 x2 x3 → G) : G := h.elim fun x1 h => h.elim fun x2 h => h.elim fun x3 h => k x1 x2 x3 h.1 h.2.1 h.2.2.1 h.2.2.2.1 h.2.2.2.2.1 h.2.2.2.2.2.1 h.2.2.2.2.2.2.1 h.2.2.2.2.2.2.2.1 h.2.2.2.2.2.2.2.2
theorem xe4_2.{u1, u2, u3, u4} {α1 : Sort u1} {α2 : Sort u2} {α3 : Sort u3} {α4 : Sort u4} {A1 A2 : α1 → α2 → α3 → α4 → Prop} {G : Prop} (h : ∃ x1 x2 x3 x4, A1 x1 x2 x3 x4 ∧ A2 x1 x2 x3 x4) (k : ∀ x1 x2 x3 x4, A1 x1 x2 x3 x4 → A2 x1 x2 x3 x4 → G) : G := h.elim fun x1 h => h.elim fun x2 h => h.elim fun x3 h => h.elim fun x4 h => k x1 x2 x3 x4 h.1 h.2
theorem xe4_4.{u1, u2, u3, u4} {α1 : Sort u1} {α2 : Sort u2} {α3 : Sort u3} {α4 : Sort u4} {A1 A2 A3 A4 : α1 → α2 → α3 → α4 → Prop} {G : Prop} (h : ∃ x1 x2 x3 x4, A1 x1 x2 x3 x4 ∧ A2 x1 x2 x3 x4 ∧ A3 x1 x2 x3 x4 ∧ A4 x1 x2 x3 x4) (k : ∀ x1 x2 x3 x4, A1 x1 x2 x3 x4 → A2 x1 x2 x3 x4 → A3 x1 x2 x3 x4 → A4 x1 x2 x3 x4 → G) : G := h.elim fun x1 h => h.elim fun x2 h => h.elim fun x3 h => h.elim fun x4 h => k x1 x2 x3 x4 h.1 h.2.1 h.2.2.1 h.2.2.2
theorem xe4_5.{u1, u2, u3, u4} {α1 : Sort u1} {α2 : Sort u2} {α3 : Sort u3} {α4 : Sort u4} {A1 A2 A3 A4 A5 : α1 → α2 → α3 → α4 → Prop} {G : Prop} (h : ∃ x1 x2 x3 x4, A1 x1 x2 x3 x4 ∧ A2 x1 x2 x3 x4 ∧ A3 x1 x2 x3 x4 ∧ A4 x1 x2 x3 x4 ∧ A5 x1 x2 x3 x4) (k : ∀ x1 x2 x3 x4, A1 x1 x2 x3 x4 → A2 x1 x2 x3 x4 → A3 x1 x2 x3 x4 → A4 x1 x2 x3 x4 → A5 x1 x2 x3 x4 → G) : G := h.elim fun x1 h => h.elim fun x2 h => h.elim fun x3 h => h.elim fun x4 h => k x1 x2 x3 x4 h.1 h.2.1 h.2.2.1 h.2.2.2.1 h.2.2.2.2
theorem xe4_6.{u1, u2, u3, u4} {α1 : Sort u1} {α2 : Sort u2} {α3 : Sort u3} {α4 : Sort u4} {A1 A2 A3 A4 A5 A6 : α1 → α2 → α3 → α4 → Prop} {G : Prop} (h : ∃ x1 x2 x3 x4, A1 x1 x2 x3 x4 ∧ A2 x1 x2 x3 x4 ∧ A3 x1 x2 x3 x4 ∧ A4 x1 x2 x3 x4 ∧ A5 x1 x2 x3 x4 ∧ A6 x1 x2 x3 x4) (k : ∀ x1 x2 x3 x4, A1 x1 x2 x3 x4 → A2 x1 x2 x3 x4 → A3 x1 x2 x3 x4 → A4 x1 x2 x3 x4 → A5 x1 x2 x3 x4 → A6 x1 x2 x3 x4 → G) : G := h.elim fun x1 h => h.elim fun x2 h => h.elim fun x3 h => h.elim fun x4 h => k x1 x2 x3 x4 h.1 h.2.1 h.2.2.1 h.2.2.2.1 h.2.2.2.2.1 h.2.2.2.2.2
theorem xe4_8.{u1, u2, u3, u4} {α1 : Sort u1} {α2 : Sort u2} {α3 : Sort u3} {α4 : Sort u4} {A1 A2 A3 A4 A5 A6 A7 A8 : α1 → α2 → α3 → α4 → Prop} {G : Prop} (h : ∃ x1 x2 x3 x4, A1 x1 x2 x3 x4 ∧ A2 x1 x2 x3 x4 ∧ A3 x1 x2 x3 x4 ∧ A4 x1 x2 x3 x4 ∧ A5 x1 x2 x3 x4 ∧ A6 x1 x2 x3 x4 ∧ A7 x1 x2 x3 x4 ∧ A8 x1 x2 x3 x4) (k : ∀ x1 x2 x3 x4, A1 x1 x2 x3 x4 → A2 x1 x2 x3 x4 → A3 x1 x2 x3 x4 → A4 x1 x2 x3 x4 → A5 x1 x2 x3 x4 → A6 x1 x2 x3 x4 → A7 x1 x2 x3 x4 → A8 x1 x2 x3 x4 → G) : G := h.elim fun x1 h => h.elim fun x2 h => h.elim fun x3 h => h.elim fun x4 h => k x1 x2 x3 x4 h.1 h.2.1 h.2.2.1 h.2.2.2.1 h.2.2.2.2.1 h.2.2.2.2.2.1 h.2.2.2.2.2.2.1 h.2.2.2.2.2.2.2
theorem xe5_3.{u1, u2, u3, u4, u5} {α1 : Sort u1} {α2 : Sort u2} {α3 : Sort u3} {α4 : Sort u4} {α5 : Sort u5} {A1 A2 A3 : α1 → α2 → α3 → α4 → α5 → Prop} {G : Prop} (h : ∃ x1 x2 x3 x4 x5, A1 x1 x2 x3 x4 x5 ∧ A2 x1 x2 x3 x4 x5 ∧ A3 x1 x2 x3 x4 x5) (k : ∀ x1 x2 x3 x4 x5, A1 x1 x2 x3 x4 x5 → A2 x1 x2 x3 x4 x5 → A3 x1 x2 x3 x4 x5 → G) : G := h.elim fun x1 h => h.elim fun x2 h => h.elim fun x3 h => h.elim fun x4 h => h.elim fun x5 h => k x1 x2 x3 x4 x5 h.1 h.2.1 h.2.2
theorem xe5_4.{u1, u2, u3, u4, u5} {α1 : Sort u1} {α2 : Sort u2} {α3 : Sort u3} {α4 : Sort u4} {α5 : Sort u5} {A1 A2 A3 A4 : α1 → α2 → α3 → α4 → α5 → Prop} {G : Prop} (h : ∃ x1 x2 x3 x4 x5, A1 x1 x2 x3 x4 x5 ∧ A2 x1 x2 x3 x4 x5 ∧ A3 x1 x2 x3 x4 x5 ∧ A4 x1 x2 x3 x4 x5) (k : ∀ x1 x2 x3 x4 x5, A1 x1 x2 x3 x4 x5 → A2 x1 x2 x3 x4 x5 → A3 x1 x2 x3 x4 x5 → A4 x1 x2 x3 x4 x5 → G) : G := h.elim fun x1 h => h.elim fun x2 h => h.elim fun x3 h => h.elim fun x4 h => h.elim fun x5 h => k x1 x2 x3 x4 x5 h.1 h.2.1 h.2.2.1 h.2.2.2
theorem xe5_5.{u1, u2, u3, u4, u5} {α1 : Sort u1} {α2 : Sort u2} {α3 : Sort u3} {α4 : Sort u4} {α5 : Sort u5} {A1 A2 A3 A4 A5 : α1 → α2 → α3 → α4 → α5 → Prop} {G : Prop} (h : ∃ x1 x2 x3 x4 x5, A1 x1 x2 x3 x4 x5 ∧ A2 x1 x2 x3 x4 x5 ∧ A3 x1 x2 x3 x4 x5 ∧ A4 x1 x2 x3 x4 x5 ∧ A5 x1 x2 x3 x4 x5) (k : ∀ x1 x2 x3 x4 x5, A1 x1 x2 x3 x4 x5 → A2 x1 x2 x3 x4 x5 → A3 x1 x2 x3 x4 x5 → A4 x1 x2 x3 x4 x5 → A5 x1 x2 x3 x4 x5 → G) : G := h.elim fun x1 h => h.elim fun x2 h => h.elim fun x3 h => h.elim fun x4 h => h.elim fun x5 h => k x1 x2 x3 x4 x5 h.1 h.2.1 h.2.2.1 h.2.2.2.1 h.2.2.2.2
theorem xe5_6.{u1, u2, u3, u4, u5} {α1 : Sort u1} {α2 : Sort u2} {α3 : Sort u3} {α4 : Sort u4} {α5 : Sort u5} {A1 A2 A3 A4 A5 A6 : α1 → α2 → α3 → α4 → α5 → Prop} {G : Prop} (h : ∃ x1 x2 x3 x4 x5, A1 x1 x2 x3 x4 x5 ∧ A2 x1 x2 x3 x4 x5 ∧ A3 x1 x2 x3 x4 x5 ∧ A4 x1 x2 x3 x4 x5 ∧ A5 x1 x2 x3 x4 x5 ∧ A6 x1 x2 x3 x4 x5) (k : ∀ x1 x2 x3 x4 x5, A1 x1 x2 x3 x4 x5 → A2 x1 x2 x3 x4 x5 → A3 x1 x2 x3 x4 x5 → A4 x1 x2 x3 x4 x5 → A5 x1 x2 x3 x4 x5 → A6 x1 x2 x3 x4 x5 → G) : G := h.elim fun x1 h => h.elim fun x2 h => h.elim fun x3 h => h.elim fun x4 h => h.elim fun x5 h => k x1 x2 x3 x4 x5 h.1 h.2.1 h.2.2.1 h.2.2.2.1 h.2.2.2.2.1 h.2.2.2.2.2
theorem xe5_8.{u1, u2, u3, u4, u5} {α1 : Sort u1} {α2 : Sort u2} {α3 : Sort u3} {α4 : Sort u4} {α5 : Sort u5} {A1 A2 A3 A4 A5 A6 A7 A8 : α1 → α2 → α3 → α4 → α5 → Prop} {G : Prop} (h : ∃ x1 x2 x3 x4 x5, A1 x1 x2 x3 x4 x5 ∧ A2 x1 x2 x3 x4 x5 ∧ A3 x1 x2 x3 x4 x5 ∧ A4 x1 x2 x3 x4 x5 ∧ A5 x1 x2 x3 x4 x5 ∧ A6 x1 x2 x3 x4 x5 ∧ A7 x1 x2 x3 x4 x5 ∧ A8 x1 x2 x3 x4 x5) (k : ∀ x1 x2 x3 x4 x5, A1 x1 x2 x3 x4 x5 → A2 x1 x2 x3 x4 x5 → A3 x1 x2 x3 x4 x5 → A4 x1 x2 x3 x4 x5 → A5 x1 x2 x3 x4 x5 → A6 x1 x2 x3 x4 x5 → A7 x1 x2 x3 x4 x5 → A8 x1 x2 x3 x4 x5 → G) : G := h.elim fun x1 h => h.elim fun x2 h => h.elim fun x3 h => h.elim fun x4 h => h.elim fun x5 h => k x1 x2 x3 x4 x5 h.1 h.2.1 h.2.2.1 h.2.2.2.1 h.2.2.2.2.1 h.2.2.2.2.2.1 h.2.2.2.2.2.2.1 h.2.2.2.2.2.2.2
theorem xe6_3.{u1, u2, u3, u4, u5, u6} {α1 : Sort u1} {α2 : Sort u2} {α3 : Sort u3} {α4 : Sort u4} {α5 : Sort u5} {α6 : Sort u6} {A1 A2 A3 : α1 → α2 → α3 → α4 → α5 → α6 → Prop} {G : Prop} (h : ∃ x1 x2 x3 x4 x5 x6, A1 x1 x2 x3 x4 x5 x6 ∧ A2 x1 x2 x3 x4 x5 x6 ∧ A3 x1 x2 x3 x4 x5 x6) (k : ∀ x1 x2 x3 x4 x5 x6, A1 x1 x2 x3 x4 x5 x6 → A2 x1 x2 x3 x4 x5 x6 → A3 x1 x2 x3 x4 x5 x6 → G) : G := h.elim fun x1 h => h.elim fun x2 h => h.elim fun x3 h => h.elim fun x4 h => h.elim fun x5 h => h.elim fun x6 h => k x1 x2 x3 x4 x5 x6 h.1 h.2.1 h.2.2
theorem xe6_4.{u1, u2, u3, u4, u5, u6} {α1 : Sort u1} {α2 : Sort u2} {α3 : Sort u3} {α4 : Sort u4} {α5 : Sort u5} {α6 : Sort u6} {A1 A2 A3 A4 : α1 → α2 → α3 → α4 → α5 → α6 → Prop} {G : Prop} (h : ∃ x1 x2 x3 x4 x5 x6, A1 x1 x2 x3 x4 x5 x6 ∧ A2 x1 x2 x3 x4 x5 x6 ∧ A3 x1 x2 x3 x4 x5 x6 ∧ A4 x1 x2 x3 x4 x5 x6) (k : ∀ x1 x2 x3 x4 x5 x6, A1 x1 x2 x3 x4 x5 x6 → A2 x1 x2 x3 x4 x5 x6 → A3 x1 x2 x3 x4 x5 x6 → A4 x1 x2 x3 x4 x5 x6 → G) : G := h.elim fun x1 h => h.elim fun x2 h => h.elim fun x3 h => h.elim fun x4 h => h.elim fun x5 h => h.elim fun x6 h => k x1 x2 x3 x4 x5 x6 h.1 h.2.1 h.2.2.1 h.2.2.2
theorem xe6_5.{u1, u2, u3, u4, u5, u6} {α1 : Sort u1} {α2 : Sort u2} {α3 : Sort u3} {α4 : Sort u4} {α5 : Sort u5} {α6 : Sort u6} {A1 A2 A3 A4 A5 : α1 → α2 → α3 → α4 → α5 → α6 → Prop} {G : Prop} (h : ∃ x1 x2 x3 x4 x5 x6, A1 x1 x2 x3 x4 x5 x6 ∧ A2 x1 x2 x3 x4 x5 x6 ∧ A3 x1 x2 x3 x4 x5 x6 ∧ A4 x1 x2 x3 x4 x5 x6 ∧ A5 x1 x2 x3 x4 x5 x6) (k : ∀ x1 x2 x3 x4 x5 x6, A1 x1 x2 x3 x4 x5 x6 → A2 x1 x2 x3 x4 x5 x6 → A3 x1 x2 x3 x4 x5 x6 → A4 x1 x2 x3 x4 x5 x6 → A5 x1 x2 x3 x4 x5 x6 → G) : G := h.elim fun x1 h => h.elim fun x2 h => h.elim fun x3 h => h.elim fun x4 h => h.elim fun x5 h => h.elim fun x6 h => k x1 x2 x3 x4 x5 x6 h.1 h.2.1 h.2.2.1 h.2.2.2.1 h.2.2.2.2
theorem xe6_8.{u1, u2, u3, u4, u5, u6} {α1 : Sort u1} {α2 : Sort u2} {α3 : Sort u3} {α4 : Sort u4} {α5 : Sort u5} {α6 : Sort u6} {A1 A2 A3 A4 A5 A6 A7 A8 : α1 → α2 → α3 → α4 → α5 → α6 → Prop} {G : Prop} (h : ∃ x1 x2 x3 x4 x5 x6, A1 x1 x2 x3 x4 x5 x6 ∧ A2 x1 x2 x3 x4 x5 x6 ∧ A3 x1 x2 x3 x4 x5 x6 ∧ A4 x1 x2 x3 x4 x5 x6 ∧ A5 x1 x2 x3 x4 x5 x6 ∧ A6 x1 x2 x3 x4 x5 x6 ∧ A7 x1 x2 x3 x4 x5 x6 ∧ A8 x1 x2 x3 x4 x5 x6) (k : ∀ x1 x2 x3 x4 x5 x6, A1 x1 x2 x3 x4 x5 x6 → A2 x1 x2 x3 x4 x5 x6 → A3 x1 x2 x3 x4 x5 x6 → A4 x1 x2 x3 x4 x5 x6 → A5 x1 x2 x3 x4 x5 x6 → A6 x1 x2 x3 x4 x5 x6 → A7 x1 x2 x3 x4 x5 x6 → A8 x1 x2 x3 x4 x5 x6 → G) : G := h.elim fun x1 h => h.elim fun x2 h => h.elim fun x3 h => h.elim fun x4 h => h.elim fun x5 h => h.elim fun x6 h => k x1 x2 x3 x4 x5 x6 h.1 h.2.1 h.2.2.1 h.2.2.2.1 h.2.2.2.2.1 h.2.2.2.2.2.1 h.2.2.2.2.2.2.1 h.2.2.2.2.2.2.2
theorem xe7_8.{u1, u2, u3, u4, u5, u6, u7} {α1 : Sort u1} {α2 : Sort u2} {α3 : Sort u3} {α4 : Sort u4} {α5 : Sort u5} {α6 : Sort u6} {α7 : Sort u7} {A1 A2 A3 A4 A5 A6 A7 A8 : α1 → α2 → α3 → α4 → α5 → α6 → α7 → Prop} {G : Prop} (h : ∃ x1 x2 x3 x4 x5 x6 x7, A1 x1 x2 x3 x4 x5 x6 x7 ∧ A2 x1 x2 x3 x4 x5 x6 x7 ∧ A3 x1 x2 x3 x4 x5 x6 x7 ∧ A4 x1 x2 x3 x4 x5 x6 x7 ∧ A5 x1 x2 x3 x4 x5 x6 x7 ∧ A6 x1 x2 x3 x4 x5 x6 x7 ∧ A7 x1 x2 x3 x4 x5 x6 x7 ∧ A8 x1 x2 x3 x4 x5 x6 x7) (k : ∀ x1 x2 x3 x4 x5 x6 x7, A1 x1 x2 x3 x4 x5 x6 x7 → A2 x1 x2 x3 x4 x5 x6 x7 → A3 x1 x2 x3 x4 x5 x6 x7 → A4 x1 x2 x3 x4 x5 x6 x7 → A5 x1 x2 x3 x4 x5 x6 x7 → A6 x1 x2 x3 x4 x5 x6 x7 → A7 x1 x2 x3 x4 x5 x6 x7 → A8 x1 x2 x3 x4 x5 x6 x7 → G) : G := h.elim fun x1 h => h.elim fun x2 h => h.elim fun x3 h => h.elim fun x4 h => h.elim fun x5 h => h.elim fun x6 h => h.elim fun x7 h => k x1 x2 x3 x4 x5 x6 x7 h.1 h.2.1 h.2.2.1 h.2.2.2.1 h.2.2.2.2.1 h.2.2.2.2.2.1 h.2.2.2.2.2.2.1 h.2.2.2.2.2.2.2
theorem xe8_6.{u1, u2, u3, u4, u5, u6, u7, u8} {α1 : Sort u1} {α2 : Sort u2} {α3 : Sort u3} {α4 : Sort u4} {α5 : Sort u5} {α6 : Sort u6} {α7 : Sort u7} {α8 : Sort u8} {A1 A2 A3 A4 A5 A6 : α1 → α2 → α3 → α4 → α5 → α6 → α7 → α8 → Prop} {G : Prop} (h : ∃ x1 x2 x3 x4 x5 x6 x7 x8, A1 x1 x2 x3 x4 x5 x6 x7 x8 ∧ A2 x1 x2 x3 x4 x5 x6 x7 x8 ∧ A3 x1 x2 x3 x4 x5 x6 x7 x8 ∧ A4 x1 x2 x3 x4 x5 x6 x7 x8 ∧ A5 x1 x2 x3 x4 x5 x6 x7 x8 ∧ A6 x1 x2 x3 x4 x5 x6 x7 x8) (k : ∀ x1 x2 x3 x4 x5 x6 x7 x8, A1 x1 x2 x3 x4 x5 x6 x7 x8 → A2 x1 x2 x3 x4 x5 x6 x7 x8 → A3 x1 x2 x3 x4 x5 x6 x7 x8 → A4 x1 x2 x3 x4 x5 x6 x7 x8 → A5 x1 x2 x3 x4 x5 x6 x7 x8 → A6 x1 x2 x3 x4 x5 x6 x7 x8 → G) : G := h.elim fun x1 h => h.elim fun x2 h => h.elim fun x3 h => h.elim fun x4 h => h.elim fun x5 h => h.elim fun x6 h => h.elim fun x7 h => h.elim fun x8 h => k x1 x2 x3 x4 x5 x6 x7 x8 h.1 h.2.1 h.2.2.1 h.2.2.2.1 h.2.2.2.2.1 h.2.2.2.2.2
theorem xe9_5.{u1, u2, u3, u4, u5, u6, u7, u8, u9} {α1 : Sort u1} {α2 : Sort u2} {α3 : Sort u3} {α4 : Sort u4} {α5 : Sort u5} {α6 : Sort u6} {α7 : Sort u7} {α8 : Sort u8} {α9 : Sort u9} {A1 A2 A3 A4 A5 : α1 → α2 → α3 → α4 → α5 → α6 → α7 → α8 → α9 → Prop} {G : Prop} (h : ∃ x1 x2 x3 x4 x5 x6 x7 x8 x9, A1 x1 x2 x3 x4 x5 x6 x7 x8 x9 ∧ A2 x1 x2 x3 x4 x5 x6 x7 x8 x9 ∧ A3 x1 x2 x3 x4 x5 x6 x7 x8 x9 ∧ A4 x1 x2 x3 x4 x5 x6 x7 x8 x9 ∧ A5 x1 x2 x3 x4 x5 x6 x7 x8 x9) (k : ∀ x1 x2 x3 x4 x5 x6 x7 x8 x9, A1 x1 x2 x3 x4 x5 x6 x7 x8 x9 → A2 x1 x2 x3 x4 x5 x6 x7 x8 x9 → A3 x1 x2 x3 x4 x5 x6 x7 x8 x9 → A4 x1 x2 x3 x4 x5 x6 x7 x8 x9 → A5 x1 x2 x3 x4 x5 x6 x7 x8 x9 → G) : G := h.elim fun x1 h => h.elim fun x2 h => h.elim fun x3 h => h.elim fun x4 h => h.elim fun x5 h => h.elim fun x6 h => h.elim fun x7 h => h.elim fun x8 h => h.elim fun x9 h => k x1 x2 x3 x4 x5 x6 x7 x8 x9 h.1 h.2.1 h.2.2.1 h.2.2.2.1 h.2.2.2.2
theorem xe7_11.{u1, u2, u3, u4, u5, u6, u7} {α1 : Sort u1} {α2 : Sort u2} {α3 : Sort u3} {α4 : Sort u4} {α5 : Sort u5} {α6 : Sort u6} {α7 : Sort u7} {A1 A2 A3 A4 A5 A6 A7 A8 A9 A10 A11 : α1 → α2 → α3 → α4 → α5 → α6 → α7 → Prop} {G : Prop} (h : ∃ x1 x2 x3 x4 x5 x6 x7, A1 x1 x2 x3 x4 x5 x6 x7 ∧ A2 x1 x2 x3 x4 x5 x6 x7 ∧ A3 x1 x2 x3 x4 x5 x6 x7 ∧ A4 x1 x2 x3 x4 x5 x6 x7 ∧ A5 x1 x2 x3 x4 x5 x6 x7 ∧ A6 x1 x2 x3 x4 x5 x6 x7 ∧ A7 x1 x2 x3 x4 x5 x6 x7 ∧ A8 x1 x2 x3 x4 x5 x6 x7 ∧ A9 x1 x2 x3 x4 x5 x6 x7 ∧ A10 x1 x2 x3 x4 x5 x6 x7 ∧ A11 x1 x2 x3 x4 x5 x6 x7) (k : ∀ x1 x2 x3 x4 x5 x6 x7, A1 x1 x2 x3 x4 x5 x6 x7 → A2 x1 x2 x3 x4 x5 x6 x7 → A3 x1 x2 x3 x4 x5 x6 x7 → A4 x1 x2 x3 x4 x5 x6 x7 → A5 x1 x2 x3 x4 x5 x6 x7 → A6 x1 x2 x3 x4 x5 x6 x7 → A7 x1 x2 x3 x4 x5 x6 x7 → A8 x1 x2 x3 x4 x5 x6 x7 → A9 x1 x2 x3 x4 x5 x6 x7 → A10 x1 x2 x3 x4 x5 x6 x7 → A11 x1 x2 x3 x4 x5 x6 x7 → G) : G := h.elim fun x1 h => h.elim fun x2 h => h.elim fun x3 h => h.elim fun x4 h => h.elim fun x5 h => h.elim fun x6 h => h.elim fun x7 h => k x1 x2 x3 x4 x5 x6 x7 h.1 h.2.1 h.2.2.1 h.2.2.2.1 h.2.2.2.2.1 h.2.2.2.2.2.1 h.2.2.2.2.2.2.1 h.2.2.2.2.2.2.2.1 h.2.2.2.2.2.2.2.2.1 h.2.2.2.2.2.2.2.2.2.1 h.2.2.2.2.2.2.2.2.2.2
theorem xe8_11.{u1, u2, u3, u4, u5, u6, u7, u8} {α1 : Sort u1} {α2 : Sort u2} {α3 : Sort u3} {α4 : Sort u4} {α5 : Sort u5} {α6 : Sort u6} {α7 : Sort u7} {α8 : Sort u8} {A1 A2 A3 A4 A5 A6 A7 A8 A9 A10 A11 : α1 → α2 → α3 → α4 → α5 → α6 → α7 → α8 → Prop} {G : Prop} (h : ∃ x1 x2 x3 x4 x5 x6 x7 x8, A1 x1 x2 x3 x4 x5 x6 x7 x8 ∧ A2 x1 x2 x3 x4 x5 x6 x7 x8 ∧ A3 x1 x2 x3 x4 x5 x6 x7 x8 ∧ A4 x1 x2 x3 x4 x5 x6 x7 x8 ∧ A5 x1 x2 x3 x4 x5 x6 x7 x8 ∧ A6 x1 x2 x3 x4 x5 x6 x7 x8 ∧ A7 x1 x2 x3 x4 x5 x6 x7 x8 ∧ A8 x1 x2 x3 x4 x5 x6 x7 x8 ∧ A9 x1 x2 x3 x4 x5 x6 x7 x8 ∧ A10 x1 x2 x3 x4 x5 x6 x7 x8 ∧ A11 x1 x2 x3 x4 x5 x6 x7 x8) (k : ∀ x1 x2 x3 x4 x5 x6 x7 x8, A1 x1 x2 x3 x4 x5 x6 x7 x8 → A2 x1 x2 x3 x4 x5 x6 x7 x8 → A3 x1 x2 x3 x4 x5 x6 x7 x8 → A4 x1 x2 x3 x4 x5 x6 x7 x8 → A5 x1 x2 x3 x4 x5 x6 x7 x8 → A6 x1 x2 x3 x4 x5 x6 x7 x8 → A7 x1 x2 x3 x4 x5 x6 x7 x8 → A8 x1 x2 x3 x4 x5 x6 x7 x8 → A9 x1 x2 x3 x4 x5 x6 x7 x8 → A10 x1 x2 x3 x4 x5 x6 x7 x8 → A11 x1 x2 x3 x4 x5 x6 x7 x8 → G) : G := h.elim fun x1 h => h.elim fun x2 h => h.elim fun x3 h => h.elim fun x4 h => h.elim fun x5 h => h.elim fun x6 h => h.elim fun x7 h => h.elim fun x8 h => k x1 x2 x3 x4 x5 x6 x7 x8 h.1 h.2.1 h.2.2.1 h.2.2.2.1 h.2.2.2.2.1 h.2.2.2.2.2.1 h.2.2.2.2.2.2.1 h.2.2.2.2.2.2.2.1 h.2.2.2.2.2.2.2.2.1 h.2.2.2.2.2.2.2.2.2.1 h.2.2.2.2.2.2.2.2.2.2
theorem xe10_11.{u1, u2, u3, u4, u5, u6, u7, u8, u9, u10} {α1 : Sort u1} {α2 : Sort u2} {α3 : Sort u3} {α4 : Sort u4} {α5 : Sort u5} {α6 : Sort u6} {α7 : Sort u7} {α8 : Sort u8} {α9 : Sort u9} {α10 : Sort u10} {A1 A2 A3 A4 A5 A6 A7 A8 A9 A10 A11 : α1 → α2 → α3 → α4 → α5 → α6 → α7 → α8 → α9 → α10 → Prop} {G : Prop} (h : ∃ x1 x2 x3 x4 x5 x6 x7 x8 x9 x10, A1 x1 x2 x3 x4 x5 x6 x7 x8 x9 x10 ∧ A2 x1 x2 x3 x4 x5 x6 x7 x8 x9 x10 ∧ A3 x1 x2 x3 x4 x5 x6 x7 x8 x9 x10 ∧ A4 x1 x2 x3 x4 x5 x6 x7 x8 x9 x10 ∧ A5 x1 x2 x3 x4 x5 x6 x7 x8 x9 x10 ∧ A6 x1 x2 x3 x4 x5 x6 x7 x8 x9 x10 ∧ A7 x1 x2 x3 x4 x5 x6 x7 x8 x9 x10 ∧ A8 x1 x2 x3 x4 x5 x6 x7 x8 x9 x10 ∧ A9 x1 x2 x3 x4 x5 x6 x7 x8 x9 x10 ∧ A10 x1 x2 x3 x4 x5 x6 x7 x8 x9 x10 ∧ A11 x1 x2 x3 x4 x5 x6 x7 x8 x9 x10) (k : ∀ x1 x2 x3 x4 x5 x6 x7 x8 x9 x10, A1 x1 x2 x3 x4 x5 x6 x7 x8 x9 x10 → A2 x1 x2 x3 x4 x5 x6 x7 x8 x9 x10 → A3 x1 x2 x3 x4 x5 x6 x7 x8 x9 x10 → A4 x1 x2 x3 x4 x5 x6 x7 x8 x9 x10 → A5 x1 x2 x3 x4 x5 x6 x7 x8 x9 x10 → A6 x1 x2 x3 x4 x5 x6 x7 x8 x9 x10 → A7 x1 x2 x3 x4 x5 x6 x7 x8 x9 x10 → A8 x1 x2 x3 x4 x5 x6 x7 x8 x9 x10 → A9 x1 x2 x3 x4 x5 x6 x7 x8 x9 x10 → A10 x1 x2 x3 x4 x5 x6 x7 x8 x9 x10 → A11 x1 x2 x3 x4 x5 x6 x7 x8 x9 x10 → G) : G := h.elim fun x1 h => h.elim fun x2 h => h.elim fun x3 h => h.elim fun x4 h => h.elim fun x5 h => h.elim fun x6 h => h.elim fun x7 h => h.elim fun x8 h => h.elim fun x9 h => h.elim fun x10 h => k x1 x2 x3 x4 x5 x6 x7 x8 x9 x10 h.1 h.2.1 h.2.2.1 h.2.2.2.1 h.2.2.2.2.1 h.2.2.2.2.2.1 h.2.2.2.2.2.2.1 h.2.2.2.2.2.2.2.1 h.2.2.2.2.2.2.2.2.1 h.2.2.2.2.2.2.2.2.2.1 h.2.2.2.2.2.2.2.2.2.2
theorem mx1.{u1} {α1 : Sort u1} {A : α1 → Prop} (x1 : α1) (h : A x1) : ∃ x1, A x1 := ⟨x1, h⟩
theorem mx2.{u1, u2} {α1 : Sort u1} {α2 : Sort u2} {A : α1 → α2 → Prop} (x1 : α1) (x2 : α2) (h : A x1 x2) : ∃ x1 x2, A x1 x2 := ⟨x1, x2, h⟩
theorem mx3.{u1, u2, u3} {α1 : Sort u1} {α2 : Sort u2} {α3 : Sort u3} {A : α1 → α2 → α3 → Prop} (x1 : α1) (x2 : α2) (x3 : α3) (h : A x1 x2 x3) : ∃ x1 x2 x3, A x1 x2 x3 := ⟨x1, x2, x3, h⟩
theorem mx6.{u1, u2, u3, u4, u5, u6} {α1 : Sort u1} {α2 : Sort u2} {α3 : Sort u3} {α4 : Sort u4} {α5 : Sort u5} {α6 : Sort u6} {A : α1 → α2 → α3 → α4 → α5 → α6 → Prop} (x1 : α1) (x2 : α2) (x3 : α3) (x4 : α4) (x5 : α5) (x6 : α6) (h : A x1 x2 x3 x4 x5 x6) : ∃ x1 x2 x3 x4 x5 x6, A x1 x2 x3 x4 x5 x6 := ⟨x1, x2, x3, x4, x5, x6, h⟩
theorem mx7.{u1, u2, u3, u4, u5, u6, u7} {α1 : Sort u1} {α2 : Sort u2} {α3 : Sort u3} {α4 : Sort u4} {α5 : Sort u5} {α6 : Sort u6} {α7 : Sort u7} {A : α1 → α2 → α3 → α4 → α5 → α6 → α7 → Prop} (x1 : α1) (x2 : α2) (x3 : α3) (x4 : α4) (x5 : α5) (x6 : α6) (x7 : α7) (h : A x1 x2 x3 x4 x5 x6 x7) : ∃ x1 x2 x3 x4 x5 x6 x7, A x1 x2 x3 x4 x5 x6 x7 := ⟨x1, x2, x3, x4, x5, x6, x7, h⟩
theorem mx9.{u1, u2, u3, u4, u5, u6, u7, u8, u9} {α1 : Sort u1} {α2 : Sort u2} {α3 : Sort u3} {α4 : Sort u4} {α5 : Sort u5} {α6 : Sort u6} {α7 : Sort u7} {α8 : Sort u8} {α9 : Sort u9} {A : α1 → α2 → α3 → α4 → α5 → α6 → α7 → α8 → α9 → Prop} (x1 : α1) (x2 : α2) (x3 : α3) (x4 : α4) (x5 : α5) (x6 : α6) (x7 : α7) (x8 : α8) (x9 : α9) (h : A x1 x2 x3 x4 x5 x6 x7 x8 x9) : ∃ x1 x2 x3 x4 x5 x6 x7 x8 x9, A x1 x2 x3 x4 x5 x6 x7 x8 x9 := ⟨x1, x2, x3, x4, x5, x6, x7, x8, x9, h⟩
end
section
open PySem.Calls PySem.Spec
abbrev NoE : Value → Shared → Prop := fun _ _ => False
noncomputable def Cl (prog : Program) (w : World) (K : Frag) (p : Program) (loose : List Str) (mean : ExcName → Option Value) (mg mb : Str → Option Value) (f : Addr) (d u : Nat) (news : List (Addr × Obj)) (vs : List Value)
    (R : Value → List (Addr × Obj) → Prop) : Prop :=
  ∀ (dp un : Nat) (gd : Option (List Code)) (cn : Str) (cs : Scope) (ca : Addr) (ccd : Value) (cl : List (Str × Addr)) (outer : List Env) (A₀ : Around) (base h₀ : Heap) (L : Addr) (m : Str → Option Value) (s : Shared) (Q E : Value → Shared → Prop),
    Below A₀ base outer h₀ → Fr h₀ L s.heap m → K.In h₀ → News h₀ L s.heap news → Top p loose mean mg mb h₀ → cs.kind = .function → dp + d < recursionLimit → un + u < cLine →
    (∀ (r : Value) (news' : List (Addr × Obj)) (h' : Heap) (tk' : Nat), Fr h₀ L h' m → News h₀ L h' news' → R r news' → Q r { s with heap := h', toks := tk' }) →
      wpAny (model prog w) (ktrTop dp un gd cn cs L ca ccd cl outer) (call (.ref f) vs) Q E s
theorem Cl.mk {prog : Program} {w : World} {K : Frag} {p : Program} {loose : List Str} {mean : ExcName → Option Value} {mg mb : Str → Option Value} {f : Addr} {d u : Nat} {news : List (Addr × Obj)} {vs : List Value} {R : Value → List (Addr × Obj) → Prop}
    (h : ∀ (dp un : Nat) (gd : Option (List Code)) (cn : Str) (cs : Scope) (ca : Addr) (ccd : Value) (cl : List (Str × Addr)) (outer : List Env) (A₀ : Around) (base h₀ : Heap) (L : Addr) (m : Str → Option Value) (s : Shared) (Q E : Value → Shared → Prop),
    Below A₀ base outer h₀ → Fr h₀ L s.heap m → K.In h₀ → News h₀ L s.heap news → Top p loose mean mg mb h₀ → cs.kind = .function → dp + d < recursionLimit → un + u < cLine →
    (∀ (r : Value) (news' : List (Addr × Obj)) (h' : Heap) (tk' : Nat), Fr h₀ L h' m → News h₀ L h' news' → R r news' → Q r { s with heap := h', toks := tk' }) →
      wpAny (model prog w) (ktrTop dp un gd cn cs L ca ccd cl outer) (call (.ref f) vs) Q E s) :
    Cl prog w K p loose mean mg mb f d u news vs R := h
theorem Cl.use {prog : Program} {w : World} {K : Frag} {p : Program} {loose : List Str} {mean : ExcName → Option Value} {mg mb : Str → Option Value} {f : Addr} {d u : Nat} {news : List (Addr × Obj)} {vs : List Value} {R : Value → List (Addr × Obj) → Prop} (C : Cl prog w K p loose mean mg mb f d u news vs R)
    {dp un : Nat} {gd : Option (List Code)} {cn : Str} {cs : Scope} {ca : Addr} {ccd : Value} {cl : List (Str × Addr)} {outer : List Env} {A₀ : Around} {base h₀ : Heap} {L : Addr} {m : Str → Option Value} {s : Shared} {Q E : Value → Shared → Prop}
    (kB : Below A₀ base outer h₀) (kF : Fr h₀ L s.heap m) (kX : K.In h₀) (kN : News h₀ L s.heap news) (kT : Top p loose mean mg mb h₀) (kc : cs.kind = .function) (kd : dp + d < recursionLimit) (ku : un + u < cLine)
    (kR : ∀ (r : Value) (news' : List (Addr × Obj)) (h' : Heap) (tk' : Nat), Fr h₀ L h' m → News h₀ L h' news' → R r news' → Q r { s with heap := h', toks := tk' }) :
    wpAny (model prog w) (ktrTop dp un gd cn cs L ca ccd cl outer) (call (.ref f) vs) Q E s := C dp un gd cn cs ca ccd cl outer A₀ base h₀ L m s Q E kB kF kX kN kT kc kd ku kR
noncomputable def ClB (Pb : Heap → Prop) (prog : Program) (w : World) (K : Frag) (p : Program) (loose : List Str) (mean : ExcName → Option Value) (mg mb : Str → Option Value) (f : Addr) (d u : Nat) (news : List (Addr × Obj)) (vs : List Value)
    (R : Value → List (Addr × Obj) → Prop) : Prop :=
  ∀ (dp un : Nat) (gd : Option (List Code)) (cn : Str) (cs : Scope) (ca : Addr) (ccd : Value) (cl : List (Str × Addr)) (outer : List Env) (A₀ : Around) (base h₀ : Heap) (L : Addr) (m : Str → Option Value) (s : Shared) (Q E : Value → Shared → Prop),
    Pb base → Below A₀ base outer h₀ → Fr h₀ L s.heap m → K.In h₀ → News h₀ L s.heap news → Top p loose mean mg mb h₀ → cs.kind = .function → dp + d < recursionLimit → un + u < cLine →
    (∀ (r : Value) (news' : List (Addr × Obj)) (h' : Heap) (tk' : Nat), Fr h₀ L h' m → News h₀ L h' news' → R r news' → Q r { s with heap := h', toks := tk' }) →
      wpAny (model prog w) (ktrTop dp un gd cn cs L ca ccd cl outer) (call (.ref f) vs) Q E s
theorem ClB.mk {Pb : Heap → Prop} {prog : Program} {w : World} {K : Frag} {p : Program} {loose : List Str} {mean : ExcName → Option Value} {mg mb : Str → Option Value} {f : Addr} {d u : Nat} {news : List (Addr × Obj)} {vs : List Value} {R : Value → List (Addr × Obj) → Prop}
    (h : ∀ (dp un : Nat) (gd : Option (List Code)) (cn : Str) (cs : Scope) (ca : Addr) (ccd : Value) (cl : List (Str × Addr)) (outer : List Env) (A₀ : Around) (base h₀ : Heap) (L : Addr) (m : Str → Option Value) (s : Shared) (Q E : Value → Shared → Prop),
    Pb base → Below A₀ base outer h₀ → Fr h₀ L s.heap m → K.In h₀ → News h₀ L s.heap news → Top p loose mean mg mb h₀ → cs.kind = .function → dp + d < recursionLimit → un + u < cLine →
    (∀ (r : Value) (news' : List (Addr × Obj)) (h' : Heap) (tk' : Nat), Fr h₀ L h' m → News h₀ L h' news' → R r news' → Q r { s with heap := h', toks := tk' }) →
      wpAny (model prog w) (ktrTop dp un gd cn cs L ca ccd cl outer) (call (.ref f) vs) Q E s) :
    ClB Pb prog w K p loose mean mg mb f d u news vs R := h
theorem ClB.use {Pb : Heap → Prop} {prog : Program} {w : World} {K : Frag} {p : Program} {loose : List Str} {mean : ExcName → Option Value} {mg mb : Str → Option Value} {f : Addr} {d u : Nat} {news : List (Addr × Obj)} {vs : List Value} {R : Value → List (Addr × Obj) → Prop} (C : ClB Pb prog w K p loose mean mg mb f d u news vs R)
    {dp un : Nat} {gd : Option (List Code)} {cn : Str} {cs : Scope} {ca : Addr} {ccd : Value} {cl : List (Str × Addr)} {outer : List Env} {A₀ : Around} {base h₀ : Heap} {L : Addr} {m : Str → Option Value} {s : Shared} {Q E : Value → Shared → Prop}
    (kP : Pb base) (kB : Below A₀ base outer h₀) (kF : Fr h₀ L s.heap m) (kX : K.In h₀) (kN : News h₀ L s.heap news) (kT : Top p loose mean mg mb h₀) (kc : cs.kind = .function) (kd : dp + d < recursionLimit) (ku : un + u < cLine)
    (kR : ∀ (r : Value) (news' : List (Addr × Obj)) (h' : Heap) (tk' : Nat), Fr h₀ L h' m → News h₀ L h' news' → R r news' → Q r { s with heap := h', toks := tk' }) :
    wpAny (model prog w) (ktrTop dp un gd cn cs L ca ccd cl outer) (call (.ref f) vs) Q E s := C dp un gd cn cs ca ccd cl outer A₀ base h₀ L m s Q E kP kB kF kX kN kT kc kd ku kR
section
variable {h₀ h : Heap} {L : Addr} {m : Str → Option Value}
theorem kstB_id {m : Str → Option Value} {l : List (Str × Value)} (hk : ∀ p ∈ l, m p.1 = some p.2) : kstB m l = m := by
  funext y
  exact kstB_eq hk fun _ => rfl
theorem kn {l : List (Str × Value)} (F : Fr h₀ L h m) (hk : ∀ p ∈ l, m p.1 = some p.2) : Fr h₀ L h (kstB m l) := by
  rw [kstB_id hk]; exact F
noncomputable def Loc (h₀ : Heap) (L : Addr) (h : Heap) (l : List (Str × Value)) : Prop := ∃ r, Fr h₀ L h (kstB r l)
theorem loc {l : List (Str × Value)} (F : Fr h₀ L h m) (hk : ∀ p ∈ l, m p.1 = some p.2) : Loc h₀ L h l := ⟨m, kn F hk⟩
end
section
variable {prog : Program} {w : World} {A : Around} {E : Value → Shared → Prop} {s : Shared} {env : Env}
theorem noE {α : Type} {M : Model} {t : Sem α} {Q : α → Shared → Prop} (h : wpAny M A t Q NoE s) : wpAny M A t Q E s := wpAny_mono h (fun _ _ x => x) fun _ _ x => x.elim
theorem seqN {st : Stmt} {rest : List Stmt} {Q : Flow → Shared → Prop} (P : Heap → Prop)
    (h : wpAny (model prog w) A (exec st env) (fun f s' => (f = .next ∧ ∃ h' tk, s' = { s with heap := h', toks := tk } ∧ P h') ∨ (∃ v, f = .ret v ∧ Q (.ret v) s')) E s)
    (k : ∀ h' tk, P h' → wpAny (model prog w) A (execs rest env) Q E { s with heap := h', toks := tk }) :
    wpAny (model prog w) A (execs (st :: rest) env) Q E s := by
  refine wpAny_execs_cons (wpAny_mono h (fun f s' hf => ?_) fun _ _ x => x)
  rcases hf with ⟨rfl, h', tk, rfl, hp⟩ | ⟨v, rfl, hq⟩
  · exact k h' tk hp
  · exact hq
noncomputable def WhEnd (I : Nat → Heap → Prop) (Q : Flow → Shared → Prop) (s : Shared) (n : Nat) (f : Flow) (s₃ : Shared) : Prop :=
  match f with
  | .next | .cont => ∃ h' tk n', s₃ = { s with heap := h', toks := tk } ∧ n' < n ∧ I n' h'
  | .brk => Q .next s₃
  | .ret v => Q (.ret v) s₃
theorem whileH {test : Expr} {body : List Stmt} {pos : Pos} {Q : Flow → Shared → Prop} {n₀ : Nat} (I : Nat → Heap → Prop) (h0 : I n₀ s.heap)
    (turn : ∀ n h tk, I n h → wpAny (model prog w) A (isTrue test env (eval test env)) (fun b s₂ =>
        if b = true then wpAny (model prog w) A (execs body env) (WhEnd I Q s n) NoE s₂ else Q .next s₂) NoE { s with heap := h, toks := tk }) :
    wpAny (model prog w) A (exec (.While test body [] pos) env) Q NoE s := by
  have hE : PassesOwn (model prog w) A env NoE := by passes_own
  refine wpAny_While (codeAny_whileLoop (fun n s' => ∃ h₁ tk₁, s' = { s with heap := h₁, toks := tk₁ } ∧ I n h₁) ?_ n₀ ⟨s.heap, s.toks, rfl, h0⟩)
  rintro n s' ⟨h₁, tk₁, rfl, J₁⟩
  refine wpAny_mono (turn n h₁ tk₁ J₁) (fun b s₂ h₂ => ?_) hE
  cases b with
  | false =>
    simp only [Bool.false_eq_true, if_false] at h₂ ⊢
    exact wpAny_execs_nil h₂
  | true =>
    simp only [if_true] at h₂ ⊢
    refine wpAny_mono h₂ (fun f s₃ h₃ => ?_) hE
    cases f with
    | next =>
      obtain ⟨h', tk, n', rfl, hn, J₂⟩ := h₃
      exact ⟨n', hn, h', tk, rfl, J₂⟩
    | cont =>
      obtain ⟨h', tk, n', rfl, hn, J₂⟩ := h₃
      exact ⟨n', hn, h', tk, rfl, J₂⟩
    | brk => exact h₃
    | ret v => exact h₃
end
section
variable {prog : Program} {w : World} {A : Around} {E : Value → Shared → Prop} {s : Shared} {env : Env} {h₀ : Heap} {x : Str} {body : List Stmt} {Q : Flow → Shared → Prop}
noncomputable def TurnJ {σ : Type} (Led : σ → List (Addr × Obj)) (ps : σ → List (Str × Value)) (Inv : Nat → σ → Prop) (i : Nat) (m : Str → Option Value) (nx : List (Addr × Obj)) : Prop :=
  ∃ c : σ, nx = Led c ∧ (∀ p ∈ ps c, m p.1 = some p.2) ∧ Inv i c
theorem turnEnd {L : Addr} {σ : Type} {Led : σ → List (Addr × Obj)} {ps : σ → List (Str × Value)} {Inv : Nat → σ → Prop} {i : Nat} {own news' : List (Addr × Obj)} {adr : List Addr} {h' : Heap} {tk : Nat} {m' : Str → Option Value} (c : σ)
    (F : Fr h₀ L h' m') (N : News h₀ L h' news') (e : news' = Led c ++ own) (ha : (Led c).map (·.1) = adr) (hk : ∀ p ∈ ps c, m' p.1 = some p.2) (hi : Inv i c) :
    InvEndN h₀ L (TurnJ Led ps Inv i) own adr s { s with heap := h', toks := tk } :=
  ⟨h', tk, m', news', Led c, rfl, F, N, fun p hp => by rw [e]; exact List.mem_append_left _ hp, fun p hp => by rw [e]; exact List.mem_append_right _ hp, ha, c, rfl, hk, hi⟩
theorem forWalks {σ : Type} {I : Addr} {fp wr : List Addr} {n : Nat} {P : Nat → Value → Prop} {St : Nat → Heap → Prop} {m₀ : Str → Option Value} (Led : σ → List (Addr × Obj)) (ps : σ → List (Str × Value)) (Inv : Nat → σ → Prop) (c₀ : σ)
    (W : Walks prog w A I fp wr n P St) (hLf : env.locals ∉ fp) (hwr : ∀ b ∈ wr, h₀.get? b = none) (hfp : ∀ q ∈ Led c₀, q.1 ∉ fp) (hst : St 0 s.heap) (F : Fr h₀ env.locals s.heap m₀) (N : News h₀ env.locals s.heap (Led c₀))
    (hk : ∀ p ∈ ps c₀, m₀ p.1 = some p.2) (hi : Inv 0 c₀)
    (turn : ∀ (c : σ) i v r h tk own, i < n → P i v → OwnOff own ((Led c₀).map (·.1)) → Inv i c → Fr h₀ env.locals h (kstB r ((x, v) :: ps c)) → News h₀ env.locals h (Led c ++ own) →
      wpAny (model prog w) A (execs body env) (InvPostN h₀ env.locals (TurnJ Led ps Inv (i + 1)) own ((Led c₀).map (·.1)) { s with heap := h, toks := tk } Q) E { s with heap := h, toks := tk })
    (done : ∀ (c : σ) r h tk, Inv n c → Fr h₀ env.locals h (kstB r (ps c)) → News h₀ env.locals h (Led c) → Q .next { s with heap := h, toks := tk }) :
    LoopAtV prog w A h₀ env x body Q E (.ref I) s := by
  refine loop_invN (TurnJ Led ps Inv) W hLf hwr (fun q hq hm => hfp q hq (W.sub _ hm)) hfp hst F N ⟨c₀, rfl, hk, hi⟩ ?_ ?_
  · rintro i v m₁ nx h tk own hin hP _ hoff ⟨c, rfl, hk', hi'⟩ F₁ N₁
    refine turn c i v m₁ h tk own hin hP hoff hi' ?_ N₁
    have e : kstB m₁ ((x, v) :: ps c) = fun y => if y = x then some v else m₁ y := by
      show (fun z => if z = x then some v else kstB m₁ (ps c) z) = _
      rw [kstB_id hk']
    rw [e]; exact F₁
  · rintro m₁ nx h tk ⟨c, rfl, hk', hi'⟩ F₁ N₁
    exact done c m₁ h tk hi' (kn F₁ hk') N₁
theorem forRange {σ : Type} {r : Addr} {a₀ b₀ : Int} {t₀ u₀ v₀ : Tok} {n : Nat} {m₀ : Str → Option Value} (Led : σ → List (Addr × Obj)) (ps : σ → List (Str × Value)) (Inv : Nat → σ → Prop) (c₀ : σ)
    (hh : A.handled = none) (hr : IsRange s.heap r a₀ b₀ 1 t₀ u₀ v₀) (hsmall : Builtin.Range.small a₀ b₀ 1 = true) (hn : Builtin.Range.rangeSize a₀ b₀ 1 = (n : Int)) (F : Fr h₀ env.locals s.heap m₀) (N : News h₀ env.locals s.heap (Led c₀))
    (hk : ∀ p ∈ ps c₀, m₀ p.1 = some p.2) (hi : Inv 0 c₀)
    (turn : ∀ (c : σ) (i : Nat) t rr h tk own, i < n → OwnOff own ((Led c₀).map (·.1)) → Inv i c → Fr h₀ env.locals h (kstB rr ((x, .int (a₀ + i) t) :: ps c)) → News h₀ env.locals h (Led c ++ own) →
      wpAny (model prog w) A (execs body env) (InvPostN h₀ env.locals (TurnJ Led ps Inv (i + 1)) own ((Led c₀).map (·.1)) { s with heap := h, toks := tk } Q) E { s with heap := h, toks := tk })
    (done : ∀ (c : σ) rr h tk, Inv n c → Fr h₀ env.locals h (kstB rr (ps c)) → News h₀ env.locals h (Led c) → Q .next { s with heap := h, toks := tk }) :
    wpAny (model prog w) A (pyIter (.ref r)) (fun it s₂ => LoopAtV prog w A h₀ env x body Q E it s₂) E s := by
  refine wpAny_pyIter_range hr hsmall ?_
  have W : Walks prog w A s.heap.objs.size [s.heap.objs.size] [s.heap.objs.size] n (fun i v => i < n ∧ ∃ t, v = .int (a₀ + i * 1) t)
      (fun i h => IsRangeIter h s.heap.objs.size (a₀ + (i : Nat) * 1) ((n : Int) - (i : Nat)) 1) := (Walks.range hh _ a₀ 1 n).bound
  refine forWalks Led ps Inv c₀ W ?_ ?_ ?_ (by show IsRangeIter _ _ _ _ _; rw [hn]; simpa using Heap.get?_push_size _ rfl) (F.push _) (fun p hp => ⟨Heap.get?_push_of_some _ (N p hp).1, (N p hp).2⟩) hk hi ?_ ?_
  · intro hm
    exact absurd F.ns.lt ((List.mem_singleton.mp hm) ▸ Nat.lt_irrefl _)
  · intro b hb
    rw [List.mem_singleton.mp hb]
    exact next_is_new F
  · intro p hp hI
    exact absurd (Heap.lt_size (N p hp).1) ((List.mem_singleton.mp hI) ▸ Nat.lt_irrefl _)
  · rintro c i v rr h tk own hin ⟨_, t, rfl⟩ hoff hi' F₁ N₁
    have e1 : a₀ + (i : Int) * 1 = a₀ + (i : Int) := by lia
    rw [e1] at F₁
    exact turn c i t rr h tk own hin hoff hi' F₁ N₁
  · rintro c rr h tk hi' F₁ N₁
    exact done c rr h tk hi' F₁ N₁
end
section
variable {prog : Program} {w : World} {A : Around} {E : Value → Shared → Prop} {s : Shared} {h₀ : Heap} {L : Addr} {m : Str → Option Value} {news : List (Addr × Obj)}
theorem itemN {value slice : Expr} {l : Addr} {its : Array Value} {n : Nat} {k : Int} {t : Tok} {v : Value} {Q : Value → Shared → Prop}
    (N : News h₀ L s.heap news) (hm : (l, listOf its n) ∈ news) (h0 : 0 ≤ k) (h1 : k < 2 ^ 63) (hx : its[k.toNat]? = some v) (h : Q v s)
    (hs : subscripted slice false (.ref l) (.int k t) = operate [.ref l, .int k t] (getItem (.ref l) (.int k t))) :
    wpAny (model prog w) A (subscriptTail value slice (.ref l) (.int k t)) Q E s :=
  have hl : s.heap.IsList l its := ⟨_, (N _ hm).1, rfl, _, rfl⟩
  tail_any hl.typeIs slot_list_getitem.lookup (wpAny_getItem_list hl h0 h1 hx h) hs
end
theorem fa0 {α : Type} {P : α → Prop} : ∀ p ∈ ([] : List α), P p := fun _ h => absurd h (by simp)
theorem fac {α : Type} {P : α → Prop} {a : α} {l : List α} (h : P a) (k : ∀ p ∈ l, P p) : ∀ p ∈ a :: l, P p := List.forall_mem_cons.mpr ⟨h, k⟩
theorem faa {α : Type} {P : α → Prop} {x y : List α} (h : ∀ p ∈ x, P p) (k : ∀ p ∈ y, P p) : ∀ p ∈ x ++ y, P p := List.forall_mem_append.mpr ⟨h, k⟩
theorem al0 {d : Addr} : ∀ p ∈ ([] : List (Addr × Obj)), p.1 ≠ d := fun _ h => absurd h (by simp)
theorem alc {a d : Addr} {o : Obj} {r : List (Addr × Obj)} (h : @Ne Nat a d) (k : ∀ p ∈ r, p.1 ≠ d) : ∀ p ∈ (a, o) :: r, p.1 ≠ d := List.forall_mem_cons.mpr ⟨h, k⟩
theorem ala {d : Addr} {x y : List (Addr × Obj)} (h : ∀ p ∈ x, p.1 ≠ d) (k : ∀ p ∈ y, p.1 ≠ d) : ∀ p ∈ x ++ y, p.1 ≠ d := List.forall_mem_append.mpr ⟨h, k⟩
theorem kall_lt {news : List (Addr × Obj)} {D : Addr} (h : ∀ p ∈ news, p.1 < D) : ∀ p ∈ news, p.1 ≠ D := fun p hp => Nat.ne_of_lt (h p hp)
noncomputable def Kn (m : Str → Option Value) (l : List (Str × Value)) : Prop := ∀ p ∈ l, m p.1 = some p.2
section
variable {h₀ h : Heap} {L : Addr} {m : Str → Option Value} {l : List (Str × Value)} {a : Str} {v : Value}
theorem knx (h : Kn m l) : ∀ p ∈ l, m p.1 = some p.2 := h
theorem kn0 : Kn m [] := fun _ h => absurd h (by simp)
theorem knc (h : m a = some v) (k : Kn m l) : Kn m ((a, v) :: l) := List.forall_mem_cons.mpr ⟨h, k⟩
theorem locK (F : Fr h₀ L h m) (hk : Kn m l) : Loc h₀ L h l := loc F hk
end
noncomputable def Sb (l m : List (Addr × Obj)) : Prop := ∀ p ∈ l, p ∈ m
section
variable {a b : Addr × Obj} {l m x y : List (Addr × Obj)}
theorem sbx (h : Sb l m) : ∀ p ∈ l, p ∈ m := h
theorem sb0 : Sb [] m := fun _ h => absurd h (by simp)
theorem sbr : Sb m m := fun _ h => h
theorem sbc (k : Sb l m) (h : a ∈ m) : Sb (a :: l) m := List.forall_mem_cons.mpr ⟨h, k⟩
theorem sbcc (h : a ∈ m) (k : Sb l m) : Sb (a :: l) m := sbc k h
theorem sbb (k : Sb l m) : Sb (a :: l) (a :: m) := List.forall_mem_cons.mpr ⟨.head _, fun p hp => .tail _ (k p hp)⟩
theorem sbt (k : Sb l m) : Sb l (b :: m) := fun p hp => .tail _ (k p hp)
theorem sba (h : Sb x m) (k : Sb l m) : Sb (x ++ l) m := List.forall_mem_append.mpr ⟨h, k⟩
theorem sbl (h : Sb l x) : Sb l (x ++ y) := fun p hp => List.mem_append_left _ (h p hp)
theorem sbR (h : Sb l y) : Sb l (x ++ y) := fun p hp => List.mem_append_right _ (h p hp)
theorem sbaa (k : Sb l m) : Sb (x ++ l) (x ++ m) := sba (sbl sbr) (sbR k)
theorem smh : a ∈ a :: m := .head _
theorem smt (h : a ∈ m) : a ∈ b :: m := .tail _ h
theorem sml (h : a ∈ x) : a ∈ x ++ y := List.mem_append_left _ h
theorem smr (h : a ∈ y) : a ∈ x ++ y := List.mem_append_right _ h
end
end
section
open PySem.Builtin PySem.Builtin.Str
noncomputable def tx (l : List Nat) : Str := ⟨l.toArray⟩
theorem tx_len (l : List Nat) : (tx l).length = l.length := by simp [tx, Str.length]
theorem tx_list (l : List Nat) : (tx l).cps.toList = l := rfl
theorem tx_inj {a b : List Nat} : tx a = tx b ↔ a = b := by
  constructor
  · intro h
    have := congrArg (fun x : Str => x.cps.toList) h
    simpa [tx] using this
  · intro h; rw [h]
theorem slice_from (l : List Nat) (k : Nat) (h : k ≤ l.length) : Txt.slice (tx l) (some (k : Int)) none = tx (l.drop k) := by
  rw [slice_from_eq (b := (l.length : Int)) (by lia) (by rw [tx_len]; lia) (by rw [tx_len])]
  show tx _ = _
  rw [tx_list, Int.toNat_natCast, List.take_of_length_le (by rw [List.length_drop]; lia)]
theorem slice_to (l : List Nat) (k : Nat) (h : k ≤ l.length) : Txt.slice (tx l) none (some (k : Int)) = tx (l.take k) := by
  have e := beq_iff_eq.mp (slice_closes_to (x := tx l) (j := (k : Int)) ⟨by lia, by rw [tx_list]; lia⟩)
  rw [e]
  show tx _ = _
  rw [tx_list]
  have : ((k : Int) - 0).toNat = k := by lia
  rw [this]; rfl
theorem slice_to_neg (l : List Nat) (q : Nat) (h0 : 0 < q) (h : q ≤ l.length) : Txt.slice (tx l) none (some (-(q : Int))) = tx (l.take (l.length - q)) := by
  rw [← slice_to l (l.length - q) (by lia)]
  have e : strSliceIndices none (some (-(q : Int))) 1 (tx l).length = strSliceIndices none (some ((l.length - q : Nat) : Int)) 1 (tx l).length := by
    rw [tx_len]
    simp only [strSliceIndices]
    have h1 : (-(q : Int)) < 0 := by lia
    have h2 : ¬ (((l.length - q : Nat) : Int) < 0) := by lia
    have h3 : -(q : Int) + (l.length : Int) = ((l.length - q : Nat) : Int) := by lia
    simp only [h1, h2, h3, if_true, if_false]
  unfold Txt.slice
  rw [e]
theorem slice_all (l : List Nat) : Txt.slice (tx l) none none = tx l := by
  have : Txt.slice (tx l) none none = Txt.slice (tx l) none (some (l.length : Int)) := by
    unfold Txt.slice
    have e : strSliceIndices none none 1 (tx l).length = strSliceIndices none (some (l.length : Int)) 1 (tx l).length := by
      rw [tx_len]
      simp only [strSliceIndices]
      have h2 : ¬ ((l.length : Int) < 0) := by lia
      have h3 : max (0 : Int) (min (l.length : Int) (l.length : Int)) = l.length := by lia
      simp only [h2, if_false, show ((1 : Int) > 0) from by decide, if_true, h3]
    rw [e]
  rw [this, slice_to l l.length (Nat.le_refl _), List.take_length]
theorem item_at (l : List Nat) (k : Nat) (h : k < l.length) : Txt.item (tx l) (k : Int) = tx [l.getD k 0] := by
  unfold Txt.item Txt.charAt seqIndex?
  rw [tx_len]
  have h1 : ¬ ((k : Int) < 0) := by lia
  have h2 : (k : Int) < (l.length : Int) := by lia
  simp [h1, h2, tx, h]
theorem item_neg (l : List Nat) (q : Nat) (h0 : 0 < q) (h : q ≤ l.length) : Txt.item (tx l) (-(q : Int)) = tx [l.getD (l.length - q) 0] := by
  unfold Txt.item Txt.charAt seqIndex?
  rw [tx_len]
  have h1 : (-(q : Int)) < 0 := by lia
  have h2 : -(q : Int) + (l.length : Int) = ((l.length - q : Nat) : Int) := by lia
  have h3 : l.length - q < l.length := by lia
  have h4 : ((l.length - q : Nat) : Int) < (l.length : Int) := by lia
  simp only [h1, if_true, h2]
  have h5 : ¬ (((l.length - q : Nat) : Int) < 0) := by lia
  simp [h4, tx, h3]
noncomputable def cpl : List Nat → List Nat → Nat
  | x :: xs, y :: ys => if x = y then cpl xs ys + 1 else 0
  | _, _ => 0
theorem cpl_le_left : ∀ a b : List Nat, cpl a b ≤ a.length
  | [], _ => by simp [cpl]
  | x :: xs, [] => by simp [cpl]
  | x :: xs, y :: ys => by
    have := cpl_le_left xs ys
    simp only [cpl]; split <;> simp <;> lia
theorem cpl_comm : ∀ a b : List Nat, cpl a b = cpl b a
  | [], [] => rfl
  | [], _ :: _ => rfl
  | _ :: _, [] => rfl
  | x :: xs, y :: ys => by
    simp only [cpl, cpl_comm xs ys]
    by_cases h : x = y
    · subst h; simp
    · have : ¬ y = x := fun e => h e.symm
      simp [h, this]
theorem cpl_le_right (a b : List Nat) : cpl a b ≤ b.length := by rw [cpl_comm]; exact cpl_le_left b a
theorem cpl_drop : ∀ (k : Nat) (a b : List Nat), k ≤ cpl a b → cpl a b = k + cpl (a.drop k) (b.drop k)
  | 0, a, b, _ => by simp
  | k + 1, [], b, h => by simp [cpl] at h
  | k + 1, x :: xs, [], h => by simp [cpl] at h
  | k + 1, x :: xs, y :: ys, h => by
    simp only [cpl] at h ⊢
    split at h
    · rename_i e
      rw [if_pos e]
      have := cpl_drop k xs ys (by lia)
      simp only [List.drop_succ_cons]; lia
    · lia
theorem cpl_stop_left {a b : List Nat} {k : Nat} (h : k ≤ cpl a b) (hk : a.length ≤ k) : cpl a b = k := by
  have := cpl_le_left a b; lia
theorem cpl_stop_right {a b : List Nat} {k : Nat} (h : k ≤ cpl a b) (hk : b.length ≤ k) : cpl a b = k := by
  have := cpl_le_right a b; lia
theorem cpl_at {a b : List Nat} {k : Nat} (h : k ≤ cpl a b) (ha : k < a.length) (hb : k < b.length) :
    (a.getD k 0 = b.getD k 0 → k + 1 ≤ cpl a b) ∧ (a.getD k 0 ≠ b.getD k 0 → cpl a b = k) := by
  have e := cpl_drop k a b h
  have ea : a.drop k = a.getD k 0 :: a.drop (k + 1) := by
    rw [List.drop_eq_getElem_cons ha]; simp [List.getD, ha]
  have eb : b.drop k = b.getD k 0 :: b.drop (k + 1) := by
    rw [List.drop_eq_getElem_cons hb]; simp [List.getD, hb]
  rw [ea, eb] at e
  simp only [cpl] at e
  constructor
  · intro h1; rw [if_pos h1] at e; lia
  · intro h1; rw [if_neg h1] at e; lia
theorem beq_no {x y : List Nat} (h : (tx x == tx y) = false) : x ≠ y := by
  intro e; subst e; simp at h
theorem beq_yes {x y : List Nat} (h : (tx x == tx y) = true) : x = y := tx_inj.mp (by simpa using h)
theorem beq_no1 {x y : Nat} (h : (tx [x] == tx [y]) = false) : x ≠ y := fun e => beq_no h (by rw [e])
theorem beq_yes1 {x y : Nat} (h : (tx [x] == tx [y]) = true) : x = y := by simpa using beq_yes h
end
section
noncomputable def scS (x y : Str) : Int := if x = y then 0 else if Txt.lower x = Txt.lower y then 1 else 2
noncomputable def scN (x y : Nat) : Int := scS (tx [x]) (tx [y])
structure InSt where
  row : List Int
  d : Int
  res : Int
  mn : Int
noncomputable def inS (A : List Nat) (bc i : Nat) (st : InSt) : InSt :=
  let sub := st.d + scN bc (A.getD i 0)
  let d := st.row.getD i 0
  let ide := (if d < st.res then d else st.res) + 2
  let res := if sub < ide then sub else ide
  ⟨st.row.set i res, d, res, if res < st.mn then res else st.mn⟩
noncomputable def inn (A : List Nat) (bc : Nat) (st : InSt) : Nat → InSt
  | 0 => st
  | i + 1 => inS A bc i (inn A bc st i)
noncomputable def big : Int := 9223372036854775807
noncomputable def outFrom (A : List Nat) (m : Int) : List Nat → Nat → List Int → Int → Int
  | [], _, _, res => res
  | bc :: bs, j, row, _ =>
    let st := inn A bc ⟨row, 2 * j, 2 * j, big⟩ A.length
    if st.mn > m then m + 1 else outFrom A m bs (j + 1) st.row st.res
noncomputable def row0 (n : Nat) : List Int := (List.range n).map fun (i : Nat) => 2 + (i : Int) * 2
noncomputable def levCore (A B : List Nat) (m : Int) : Int := if ((B.length : Int) - A.length) * 2 > m then m + 1 else outFrom A m B 0 (row0 A.length) 0
noncomputable def levMid (A B : List Nat) (m : Int) : Int :=
  if A = [] ∨ B = [] then 2 * ((A.length : Int) + B.length)
  else if 40 < A.length ∨ 40 < B.length then m + 1
  else if B.length < A.length then levCore B A m else levCore A B m
noncomputable def pyLev (a b : List Nat) (m : Int) : Int :=
  if a = b then 0 else
    let p := cpl a b
    let A := a.drop p
    let B := b.drop p
    let q := cpl A.reverse B.reverse
    levMid (A.take (A.length - q)) (B.take (B.length - q)) m
theorem inn_len (A : List Nat) (bc : Nat) (st : InSt) : ∀ i, (inn A bc st i).row.length = st.row.length
  | 0 => rfl
  | i + 1 => by simp [inn, inS, inn_len A bc st i]
end
section
section
variable {prog : Program} {w : World} {A : Around} {E : Value → Shared → Prop} {s : Shared} {h₀ : Heap} {L : Addr} {m : Str → Option Value} {news : List (Addr × Obj)} {value slice : Expr} {l : List Nat} {t : Tok}
theorem tx_size {l : List Nat} (h : l.length ≤ 1000) : (tx l).length ≤ sizeLine := by rw [tx_len, sizeLine_eq]; k_extra "li"
theorem sl_from {k : Nat} {uk : Tok} {Q : Value → Shared → Prop} (F : Fr h₀ L s.heap m) (N : News h₀ L s.heap news) (hk : k ≤ l.length) (hl : l.length ≤ 1000)
    (h : ∀ h' t' tk, Fr h₀ L h' m → News h₀ L h' news → Q (.str (tx (l.drop k)) t') { s with heap := h', toks := tk })
    (hs : subscripted slice false (.str (tx l) t) (.ref s.heap.objs.size) = operate [.ref s.heap.objs.size, .str (tx l) t] (getItem (.str (tx l) t) (.ref s.heap.objs.size)))
    (ht : ∀ r, letTemporaryGo value (.str (tx l) t) r = pure ()) :
    wpAny (model prog w) A (subscriptTail value slice (.str (tx l) t) (.ref s.heap.objs.size)) Q E { s with heap := s.heap.push { cls := .type "slice", data := .fields #[.int k uk, .none, .none] } } :=
  slice_strN_sn_len F N (fun h' t' tk F' N' _ => by rw [slice_from l k hk]; exact h h' t' tk F' N') hs ht (tx_size hl)
theorem it_at {k : Nat} {uk : Tok} {Q : Value → Shared → Prop} (hk : k < l.length) (hl : l.length ≤ 1000)
    (h : ∀ t' tk, Q (.str (tx [l.getD k 0]) t') { s with toks := tk })
    (hs : subscripted slice false (.str (tx l) t) (.int k uk) = operate [.str (tx l) t, .int k uk] (getItem (.str (tx l) t) (.int k uk)))
    (ht : ∀ r, letTemporaryGo value (.str (tx l) t) r = pure ()) :
    wpAny (model prog w) A (subscriptTail value slice (.str (tx l) t) (.int k uk)) Q E s :=
  KXi.item (n := l.length) (tx_len l) (by k_extra "li") (by k_extra "li") (by k_extra "li") (fun _ => by rw [item_at l k hk]; exact h _ _) hs ht
theorem it_neg {i : Int} {q : Nat} {uk : Tok} {Q : Value → Shared → Prop} (hi : i = -(q : Int)) (h0 : 0 < q) (hk : q ≤ l.length) (hl : l.length ≤ 1000)
    (h : ∀ t' tk, Q (.str (tx [l.getD (l.length - q) 0]) t') { s with toks := tk })
    (hs : subscripted slice false (.str (tx l) t) (.int i uk) = operate [.str (tx l) t, .int i uk] (getItem (.str (tx l) t) (.int i uk)))
    (ht : ∀ r, letTemporaryGo value (.str (tx l) t) r = pure ()) :
    wpAny (model prog w) A (subscriptTail value slice (.str (tx l) t) (.int i uk)) Q E s := by
  subst hi
  exact KXi.item (n := l.length) (tx_len l) (by k_extra "li") (by k_extra "li") (by k_extra "li") (fun _ => by rw [item_neg l q h0 hk]; exact h _ _) hs ht
theorem it_neg1 {q : Nat} {uk : Tok} {Q : Value → Shared → Prop} (hk : q < l.length) (hl : l.length ≤ 1000)
    (h : ∀ t' tk, Q (.str (tx [l.getD (l.length - (q + 1)) 0]) t') { s with toks := tk })
    (hs : subscripted slice false (.str (tx l) t) (.int (-(q : Int) - 1) uk) = operate [.str (tx l) t, .int (-(q : Int) - 1) uk] (getItem (.str (tx l) t) (.int (-(q : Int) - 1) uk)))
    (ht : ∀ r, letTemporaryGo value (.str (tx l) t) r = pure ()) :
    wpAny (model prog w) A (subscriptTail value slice (.str (tx l) t) (.int (-(q : Int) - 1) uk)) Q E s :=
  it_neg (q := q + 1) (by k_extra "li") (by k_extra "li") (by k_extra "li") hl h hs ht
variable {cn : Str} {cs : Scope} {a : Addr} {ccd : Value}
theorem cutEnd {xa xp : Str} {p1 p2 p3 p4 p5 p6 : Pos} {k3 : Nat} {q : Nat} {t' : Tok} {Q : Value → Shared → Prop} (F : Fr h₀ L s.heap m) (N : News h₀ L s.heap news)
    (ha : m xa = some (.str (tx l) t)) (hp : m xp = some (.int (-(q : Int)) t')) (hq : q ≤ l.length) (hl : l.length ≤ 1000)
    (h : ∀ h' t'' tk, Fr h₀ L h' m → News h₀ L h' news → Q (.str (tx (l.take (l.length - q))) t'') { s with heap := h', toks := tk })
    (hk : cs.kind = .function) (hxa : (envOf cn cs L a ccd).kindOf xa = some .local) (hxp : (envOf cn cs L a ccd).kindOf xp = some .local)
    (hda : (xa == ("__debug__" : Str)) = false) (hdp : (xp == ("__debug__" : Str)) = false) :
    wpAny (model prog w) A (eval (.Subscript (.Name xa p1) (.Slice none (some (.BoolOp .Or [.Name xp p2, .Constant .none k3 p3] p4)) none p5) p6) (envOf cn cs L a ccd)) Q E s := by
  refine Subscript_ (ld F ha ?_ hk hxa hda)
  refine wpAny_Slice (evalPart_none_step (evalPart_some_step (BoolOp_or (ld F hp (truthy_int ?_) hk hxp hdp))))
  by_cases h0 : q = 0
  · subst h0
    have e : ((-((0 : Nat) : Int)) != 0) = false := rfl
    rw [e]
    simp only [Bool.false_eq_true, if_false]
    refine BoolOp_one (Constant_none (evalPart_none_step ?_))
    exact slice_strN_nn_len F N (fun h' t'' tk F' N' _ => by rw [slice_all l]; have := h h' t'' tk F' N'; simpa using this) (by with_unfolding_all rfl) (by intro _; with_unfolding_all rfl) (tx_size hl)
  · have e : ((-((q : Nat) : Int)) != 0) = true := by
      simp only [bne_iff_ne, ne_eq]; k_extra "li"
    rw [e]
    simp only [if_true]
    refine evalPart_none_step ?_
    exact slice_strN_ns_len F N (fun h' t'' tk F' N' _ => by rw [slice_to_neg l q (by k_extra "li") hq]; exact h h' t'' tk F' N') (by with_unfolding_all rfl) (by intro _; with_unfolding_all rfl) (tx_size hl)
end
section
variable {prog : Program} {w : World} {A : Around} {E : Value → Shared → Prop} {s : Shared}
theorem truthy_tx {l : List Nat} {t : Tok} {Q : Bool → Shared → Prop} (hl : l.length ≤ 1000) (h1 : 0 < l.length → ∀ tk, Q true { s with toks := tk }) (h2 : l.length = 0 → ∀ tk, Q false { s with toks := tk }) : wpAny (model prog w) A (truthy (.str (tx l) t)) Q E s := by
  refine P.truthy_str (by rw [tx_len]; k_extra "li") ?_
  by_cases e : l.length = 0
  · have : (((tx l).length : Int) != 0) = false := by rw [tx_len, e]; rfl
    rw [this]; exact h2 e _
  · have : (((tx l).length : Int) != 0) = true := by rw [tx_len]; simp only [bne_iff_ne, ne_eq]; k_extra "li"
    rw [this]; exact h1 (by k_extra "li") _
end
section
variable {prog : Program} {w : World} {A : Around} {E : Value → Shared → Prop} {s : Shared}
theorem len_tx {l : List Nat} {t : Tok} {Q : Value → Shared → Prop} (hl : l.length ≤ 1000) (h : ∀ t' tk, Q (.int l.length t') { s with toks := tk }) : wpAny (model prog w) A (call (.builtin "len") [.str (tx l) t]) Q E s := by
  refine P.len_str (by rw [tx_len]; k_extra "li") ?_
  rw [tx_len]; exact h _ _
end
end
section
theorem ints_of : ∀ (vs : List Value) (ks : List Int), vs.length = ks.length → (∀ (j : Nat) (v : Value), vs[j]? = some v → ∃ t, v = .int (ks.getD j 0) t) → IntsAre vs ks
  | [], [], _, _ => .nil
  | [], _ :: _, e, _ => by simp at e
  | _ :: _, [], e, _ => by simp at e
  | v :: r, k :: ks, e, h => by
    have hx9 := h 0 v rfl
    first | (k_extra "xe2"; clear hx9; intro t ht) | obtain ⟨t, ht⟩ := hx9
    have hv : v = .int k t := by rw [ht]; rfl
    subst hv
    exact .cons _ _ (ints_of r ks (by simpa using e) fun j v hj => by
      have hx9 := h (j + 1) v hj
      first | (k_extra "xe2"; clear hx9; intro t' ht') | obtain ⟨t', ht'⟩ := hx9
      exact ⟨t', by rw [ht']; rfl⟩)
section
variable {prog : Program} {w : World} {A : Around} {E : Value → Shared → Prop} {s : Shared} {env : Env} {h₀ : Heap} {L : Addr} {m : Str → Option Value} {news : List (Addr × Obj)} {Q : Value → Shared → Prop}
theorem lrange {r : Addr} {a b c : Int} {t₀ u₀ v₀ : Tok} {n : Nat} (hh : A.handled = none) (F : Fr h₀ L s.heap m) (N : News h₀ L s.heap news) (hr : IsRange s.heap r a b c t₀ u₀ v₀) (hsmall : Builtin.Range.small a b c = true) (hn : Builtin.Range.rangeSize a b c = (n : Int)) (hz : n ≤ 2 ^ 24)
    (h : ∀ D us k h' tk, Fr h₀ L h' m → News h₀ L h' ((D, listOf (List.toArray us) k) :: news) → (∀ p ∈ news, p.1 < D) → IntsAre us ((List.range n).map fun i => a + (i : Nat) * c) → Q (.ref D) { s with heap := h', toks := tk }) :
    wpAny (model prog w) A (call (.type "list") [.ref r]) Q E s := by
  refine call_list_range hh hr hsmall hn hz fun h' tk acc k hk hD hI => ?_
  have hD' : h'.get? s.heap.objs.size = some (listOf (List.toArray acc.toList) k) := by
    rw [Array.toArray_toList]
    exact hD
  refine h _ acc.toList k h' tk (F.keeps hk) (news_pushed F N hk hD' rfl) (fun p hp => Heap.lt_size (N p hp).1) (ints_of _ _ (by rw [Array.length_toList, List.length_map, List.length_range]; exact hI.1) fun j v hj => ?_)
  have hj' : acc[j]? = some v := by rw [← hj, Array.getElem?_toList]
  have hx9 := hI.2 j v hj'
  first | (k_extra "xe2"; clear hx9; intro t eq9; subst eq9) | obtain ⟨t, rfl⟩ := hx9
  have hlt : j < n := by
    have := (Array.getElem?_eq_some_iff.mp hj').1
    rw [hI.1] at this; exact this
  exact ⟨t, by simp [List.getD, hlt]⟩
theorem fits_long {i : Int} (h1 : -1000000000 ≤ i) (h2 : i ≤ 1000000000) : Builtin.Range.rangeFitsLong i = true := by
  unfold Builtin.Range.rangeFitsLong
  rw [decide_eq_true (by k_extra "li"), decide_eq_true (by k_extra "li")]
  rfl
theorem range2 (n : Nat) (h : 0 < n) (hn : n ≤ 1000) : Builtin.Range.small 2 (2 * ((n : Int) + 1)) 2 = true ∧ Builtin.Range.rangeSize 2 (2 * ((n : Int) + 1)) 2 = (n : Int) := by
  have e : Builtin.Range.rangeSize 2 (2 * ((n : Int) + 1)) 2 = (n : Int) := by
    unfold Builtin.Range.rangeSize
    rw [if_pos (by decide), if_pos (by k_extra "li")]
    k_extra "li"
  refine ⟨?_, e⟩
  unfold Builtin.Range.small
  rw [e, fits_long (i := 2) (by k_extra "li") (by k_extra "li"), fits_long (i := 2 * ((n : Int) + 1)) (by k_extra "li") (by k_extra "li"), fits_long (i := (n : Int)) (by k_extra "li") (by k_extra "li"), if_pos (by k_extra "li"), fits_long (by k_extra "li") (by k_extra "li")]
  simp
theorem forRange0 {σ : Type} {x : Str} {body : List Stmt} {Q : Flow → Shared → Prop} {r : Addr} {b₀ : Int} {t₀ u₀ v₀ : Tok} {n : Nat} {m₀ : Str → Option Value} (Led : σ → List (Addr × Obj)) (ps : σ → List (Str × Value)) (Inv : Nat → σ → Prop) (c₀ : σ)
    (hh : A.handled = none) (hr : IsRange s.heap r 0 b₀ 1 t₀ u₀ v₀) (hb : b₀ = (n : Int)) (hz : n ≤ 1000000) (F : Fr h₀ env.locals s.heap m₀) (N : News h₀ env.locals s.heap (Led c₀))
    (hk : ∀ p ∈ ps c₀, m₀ p.1 = some p.2) (hi : Inv 0 c₀)
    (turn : ∀ (c : σ) (i : Nat) t rr h tk own, i < n → OwnOff own ((Led c₀).map (·.1)) → Inv i c → Fr h₀ env.locals h (kstB rr ((x, .int (i : Int) t) :: ps c)) → News h₀ env.locals h (Led c ++ own) →
      wpAny (model prog w) A (execs body env) (InvPostN h₀ env.locals (TurnJ Led ps Inv (i + 1)) own ((Led c₀).map (·.1)) { s with heap := h, toks := tk } Q) E { s with heap := h, toks := tk })
    (done : ∀ (c : σ) rr h tk, Inv n c → Fr h₀ env.locals h (kstB rr (ps c)) → News h₀ env.locals h (Led c) → Q .next { s with heap := h, toks := tk }) :
    wpAny (model prog w) A (pyIter (.ref r)) (fun it s₂ => LoopAtV prog w A h₀ env x body Q E it s₂) E s := by
  subst hb
  refine forRange Led ps Inv c₀ hh hr (small_one (by k_extra "li") (by k_extra "li") (by k_extra "li") (by k_extra "li")) (by rw [rangeSize_one]; split <;> k_extra "li") F N hk hi ?_ done
  intro c i t rr h tk own hin hoff hi' F₁ N₁
  rw [show (0 : Int) + (i : Int) = (i : Int) from by k_extra "li"] at F₁
  exact turn c i t rr h tk own hin hoff hi' F₁ N₁
end
section
variable {prog : Program} {w : World} {A : Around} {E : Value → Shared → Prop} {s : Shared} {env : Env} {h₀ : Heap} {L : Addr} {m : Str → Option Value} {news : List (Addr × Obj)}
theorem forRev {σ : Type} {x : Str} {body : List Stmt} {Q : Flow → Shared → Prop} {l I : Addr} {us : List Value} {kk : Nat} {m₀ : Str → Option Value} (Led : σ → List (Addr × Obj)) (ps : σ → List (Str × Value)) (Inv : Nat → σ → Prop) (c₀ : σ)
    (hh : A.handled = none) (N : News h₀ env.locals s.heap ((I, revObj l ((us.length : Int) - 1)) :: (l, listOf us.toArray kk) :: Led c₀)) (hne : l ≠ I) (hof : ∀ q ∈ Led c₀, q.1 ≠ I ∧ q.1 ≠ l) (F : Fr h₀ env.locals s.heap m₀)
    (hk : ∀ p ∈ ps c₀, m₀ p.1 = some p.2) (hi : Inv 0 c₀)
    (turn : ∀ (c : σ) (i : Nat) v rr h tk own, i < us.length → us[us.length - 1 - i]? = some v → OwnOff own ((Led c₀).map (·.1)) → Inv i c → Fr h₀ env.locals h (kstB rr ((x, v) :: ps c)) → News h₀ env.locals h (Led c ++ own) →
      wpAny (model prog w) A (execs body env) (InvPostN h₀ env.locals (TurnJ Led ps Inv (i + 1)) own ((Led c₀).map (·.1)) { s with heap := h, toks := tk } Q) E { s with heap := h, toks := tk })
    (done : ∀ (c : σ) rr h tk, Inv us.length c → Fr h₀ env.locals h (kstB rr (ps c)) → News h₀ env.locals h (Led c) → Q .next { s with heap := h, toks := tk }) :
    wpAny (model prog w) A (pyIter (.ref I)) (fun it s₂ => LoopAtV prog w A h₀ env x body Q E it s₂) E s := by
  have hIx := N _ (List.mem_cons_self ..)
  have hax := N _ (List.mem_cons_of_mem _ (List.mem_cons_self ..))
  have hit : s.heap.IsRevIter I l ((us.length : Int) - 1) := ⟨_, hIx.1, rfl, rfl⟩
  have hl : s.heap.IsList l us.toArray := ⟨_, hax.1, rfl, _, rfl⟩
  refine wpAny_pyIter_revIter hit ?_
  have W := Walks.listRev (prog := prog) (w := w) hh I l hne us.toArray
  have hlen : us.toArray.size = us.length := by simp
  rw [hlen] at W
  refine forWalks Led ps Inv c₀ W ?_ ?_ ?_ ⟨Nat.zero_le _, ?_, hl⟩ F (fun p hp => N p (List.mem_cons_of_mem _ (List.mem_cons_of_mem _ hp))) hk hi ?_ done
  · intro hmm
    rcases List.mem_cons.mp hmm with e | hmm
    · exact hIx.2.1 e.symm
    · exact hax.2.1 (List.mem_singleton.mp hmm).symm
  · intro b hb
    rw [List.mem_singleton.mp hb]
    exact hIx.2.2
  · intro q hq hm
    rcases List.mem_cons.mp hm with e | hm
    · exact (hof q hq).1 e
    · exact (hof q hq).2 (List.mem_singleton.mp hm)
  · have e : (us.length : Int) - 1 - ((0 : Nat) : Int) = (us.length : Int) - 1 := by k_extra "li"
    rw [e]; exact hit
  · intro c i v rr h tk own hin hP hoff hi' F₁ N₁
    exact turn c i v rr h tk own hin (by simpa using hP) hoff hi' F₁ N₁
theorem rev_list {D : Addr} {us : List Value} {kk : Nat} {news' : List (Addr × Obj)} {Q : Value → Shared → Prop} (F : Fr h₀ L s.heap m) (N : News h₀ L s.heap news) (U : Upd D (listOf us.toArray kk) (listOf us.reverse.toArray kk) news news') (hz : us.length ≤ 1000000)
    (h : ∀ h', Fr h₀ L h' m → News h₀ L h' news' → Q .none { s with heap := h' }) : wpAny (model prog w) A (call (.builtin "list.reverse") [.ref D]) Q E s :=
  kl_reverse F N (by simp) U (by simp [sizeLine_eq]; k_extra "li") h
theorem app_list {D : Addr} {us : List Value} {kk : Nat} {v : Value} {news' : List (Addr × Obj)} {Q : Value → Shared → Prop} (F : Fr h₀ L s.heap m) (N : News h₀ L s.heap news) (U : Upd D (listOf us.toArray kk) (listOf (us ++ [v]).toArray (kk + 1)) news news') (hz : us.length ≤ 1000000)
    (h : ∀ h', Fr h₀ L h' m → News h₀ L h' news' → Q .none { s with heap := h' }) : wpAny (model prog w) A (call (.builtin "list.append") [.ref D, v]) Q E s := by
  have e : us.toArray.push v = (us ++ [v]).toArray := by simp
  rw [← e] at U
  exact append_K F N U h (by rw [List.size_toArray, sizeLine_eq]; k_extra "li")
end
end
section
theorem and_hi (x k : Nat) : x &&& (x / 2 ^ k * 2 ^ k) = x / 2 ^ k * 2 ^ k := by
  apply Nat.eq_of_testBit_eq
  intro i
  rw [Nat.testBit_and, Nat.mul_comm, Nat.testBit_two_pow_mul]
  by_cases h : k ≤ i
  · simp only [h, decide_true, Bool.true_and]
    rw [Nat.testBit_div_two_pow, show i - k + k = i from by k_extra "li", Bool.and_self]
  · simp [h]
theorem xor_hi (x k : Nat) : Builtin.bitXor (x : Int) ((x / 2 ^ k * 2 ^ k : Nat) : Int) = ((x % 2 ^ k : Nat) : Int) := by
  rw [bitXor_and]
  have e : Builtin.bitAnd (x : Int) ((x / 2 ^ k * 2 ^ k : Nat) : Int) = ((x &&& (x / 2 ^ k * 2 ^ k) : Nat) : Int) := by
    generalize x / 2 ^ k * 2 ^ k = y
    unfold Builtin.bitAnd
    simp
  rw [e, and_hi]
  have := Nat.div_add_mod x (2 ^ k)
  rw [Nat.mul_comm] at this
  k_extra "li"
section
variable {prog : Program} {w : World} {A : Around} {E : Value → Shared → Prop} {s : Shared} {h₀ : Heap} {L : Addr} {m : Str → Option Value} {news : List (Addr × Obj)} {Q : Value → Shared → Prop} {x y k : Nat} {t u : Tok}
theorem rsh_nat (h : ∀ t' tk, Q (.int ((x / 2 ^ k : Nat) : Int) t') { s with toks := tk }) : wpAny (model prog w) A (binaryOp .RShift (.int (x : Int) t) (.int (k : Int) u)) Q E s := by
  refine rshift_int (by k_extra "li") ?_
  have e : (x : Int).fdiv (2 ^ (k : Int).toNat) = ((x / 2 ^ k : Nat) : Int) := by
    rw [Int.toNat_natCast, Int.fdiv_eq_ediv_of_nonneg _ (by exact Int.le_of_lt (Int.pow_pos (by decide)))]
    simp
  rw [e]; exact h _ _
theorem rsh_one (h : ∀ t' tk, Q (.int ((x / 2 : Nat) : Int) t') { s with toks := tk }) : wpAny (model prog w) A (binaryOp .RShift (.int (x : Int) t) (.int 1 u)) Q E s := by
  have := rsh_nat (prog := prog) (w := w) (A := A) (E := E) (s := s) (Q := Q) (x := x) (k := 1) (t := t) (u := u) (by simpa using h)
  simpa using this
theorem lsh_nat (hx : x < 2 ^ 250) (hk : k ≤ 1000) (h : ∀ t' tk, Q (.int ((x * 2 ^ k : Nat) : Int) t') { s with toks := tk }) : wpAny (model prog w) A (binaryOp .LShift (.int (x : Int) t) (.int (k : Int) u)) Q E s := by
  have hb : Builtin.Int.intBits (x : Int) ≤ 250 := intBits_le_iff.mpr (by simpa using hx)
  refine lshift_int (by k_extra "li") (by k_extra "li") ?_
  have e : (x : Int) * 2 ^ (k : Int).toNat = ((x * 2 ^ k : Nat) : Int) := by
    rw [Int.toNat_natCast]; simp
  rw [e]; exact h _ _
theorem xor_nat (h : ∀ t' tk, Q (.int ((x % 2 ^ k : Nat) : Int) t') { s with toks := tk }) : wpAny (model prog w) A (binaryOp .BitXor (.int (x : Int) t) (.int ((x / 2 ^ k * 2 ^ k : Nat) : Int) u)) Q E s := by
  refine xor_int ?_
  rw [xor_hi]; exact h _ _
theorem add_nat (h : ∀ t' tk, Q (.int ((x + y : Nat) : Int) t') { s with toks := tk }) : wpAny (model prog w) A (binaryOp .Add (.int (x : Int) t) (.int (y : Int) u)) Q E s := by
  refine add_int ?_
  have e : (x : Int) + (y : Int) = ((x + y : Nat) : Int) := by simp
  rw [e]; exact h _ _
theorem add_one (h : ∀ t' tk, Q (.int ((x + 1 : Nat) : Int) t') { s with toks := tk }) : wpAny (model prog w) A (binaryOp .Add (.int (x : Int) t) (.int 1 u)) Q E s := by
  refine add_int ?_
  have e : (x : Int) + 1 = ((x + 1 : Nat) : Int) := by simp
  rw [e]; exact h _ _
theorem sub_nat (hxy : y ≤ x) (h : ∀ t' tk, Q (.int ((x - y : Nat) : Int) t') { s with toks := tk }) : wpAny (model prog w) A (binaryOp .Sub (.int (x : Int) t) (.int (y : Int) u)) Q E s := by
  refine sub_int ?_
  have e : (x : Int) - (y : Int) = ((x - y : Nat) : Int) := by k_extra "li"
  rw [e]; exact h _ _
theorem divmod_nat (F : Fr h₀ L s.heap m) (N : News h₀ L s.heap news) (hy : 0 < y) (hb : y < 2 ^ 250)
    (h : ∀ D h' tk t1 t2, Fr h₀ L h' m → News h₀ L h' ((D, { cls := .type "tuple", data := .seq #[.int ((x / y : Nat) : Int) t1, .int ((x % y : Nat) : Int) t2] }) :: news) → (∀ p ∈ news, p.1 < D) → Q (.ref D) { s with heap := h', toks := tk }) :
    wpAny (model prog w) A (call (.builtin "divmod") [.int (x : Int) t, .int (y : Int) u]) Q E s := by
  refine divmod_N F N (by k_extra "li") (fun h' F' N' => ?_) (Or.inl (PyProof.noPylong_of_log2 ?_))
  · have e1 : (x : Int).fdiv y = ((x / y : Nat) : Int) := by rw [Int.fdiv_eq_ediv_of_nonneg _ (by k_extra "li")]; simp
    have e2 : (x : Int).fmod y = ((x % y : Nat) : Int) := by rw [Int.fmod_eq_emod_of_nonneg _ (by k_extra "li")]; simp
    rw [e1, e2] at N'
    exact h _ h' _ _ _ F' N' fun p hp => Heap.lt_size (N p hp).1
  · have : (y : Int).natAbs.log2 < 250 := (Nat.log2_lt (by k_extra "li")).mpr (by simpa using hb)
    k_extra "li"
end
section
variable {prog : Program} {w : World} {A : Around} {E : Value → Shared → Prop} {s : Shared} {Q : Value → Shared → Prop} {x y k : Nat} {t u : Tok}
theorem mul_nat (hx : x < 2 ^ 64) (h : ∀ t' tk, Q (.int ((x * y : Nat) : Int) t') { s with toks := tk }) : wpAny (model prog w) A (binaryOp .Mult (.int (x : Int) t) (.int (y : Int) u)) Q E s := by
  have hb : Builtin.Int.intBits (x : Int) ≤ 64 := intBits_le_iff.mpr (by simpa using hx)
  refine PyProof.Rows.mul_int ?_ (IntMulOk.of_left hb)
  have e : (x : Int) * (y : Int) = ((x * y : Nat) : Int) := by simp
  rw [e]; exact h _ _
end
noncomputable def TbM (P : Addr) (line col : Nat) (qual : Str) (own : List (Addr × Obj)) : Prop :=
  ∃ (c' : Addr) (oc : Obj) (vs : Array Value) (t : Tok), own = [(c', oc), (P, tabObj #[rawInt line, rawInt col, .ref c'])] ∧ oc.data = .fields vs ∧ vs[1]? = some (.str qual t) ∧ c' ≠ P
noncomputable def Tb (P : Addr) (line col : Nat) (qual : Str) (own : List (Addr × Obj)) : Prop :=
  own = [(P, tabObj #[])] ∨ TbM P line col qual own
noncomputable def Off (own others : List (Addr × Obj)) : Prop := ∀ p ∈ own, ∀ q ∈ others, q.1 ≠ p.1
section
variable {M : Model} {A : Around} {E : Value → Shared → Prop} {s : Shared} {h₀ : Heap} {L a c P : Addr} {m mg mb : Str → Option Value} {cn : Str} {cs : Scope} {ccd : Value} {cl : List (Str × Addr)} {own others : List (Addr × Obj)}
  {p : Program} {loose : List Str} {mean : ExcName → Option Value} {name qual : Str} {params : Arguments} {body : List Stmt} {scope : Scope} {pos : Pos} {firstLine : Nat} {clos : List (Str × Addr)}
theorem nest_U {Q : Value → Shared → Prop} (F : Fr h₀ L s.heap m) (N : News h₀ L s.heap (own ++ others)) (T : Top p loose mean mg mb h₀) (C : CodeHd h₀ c P) (hcd : ccd = .ref c) (hT : Tb P pos.line pos.col qual own) (hO : Off own others)
    (hcl : closureFor scope (envX cn cs L a ccd cl) = pure clos)
    (h : ∀ f c' oc vs t ctv doc h' tk, Fr h₀ L h' m →
      News h₀ L h' ((f, fnMade name qual params body scope clos doc ((mg "__name__").getD .none) c' ctv) :: (c', oc) :: (P, tabObj #[rawInt pos.line, rawInt pos.col, .ref c']) :: others) →
      oc.data = .fields vs → vs[1]? = some (.str qual t) → c' < f → P < f → (∀ q ∈ others, q.1 < f) → c' ≠ P → (∀ q ∈ others, q.1 ≠ c') → (∀ q ∈ others, q.1 ≠ P) → (TbM P pos.line pos.col qual own → [(c', oc), (P, tabObj #[rawInt pos.line, rawInt pos.col, .ref c'])] = own) → Q (.ref f) { s with heap := h', toks := tk }) :
    wpAny M A (makeFunction name qual params (.stmts body) scope (envX cn cs L a ccd cl) [] [] [] pos firstLine) Q E s := by
  rcases hT with rfl | ⟨c', oc, vs, t, rfl, hd, hv, hne⟩
  · have hP : ∀ q ∈ others, q.1 ≠ P := fun q hq => hO _ (.head _) q hq
    refine nest_K (ps := #[]) F N T C hcd (UpdF.head hP) trivial rfl hcl fun f c' oc vs t ctv doc h' tk F' N' hd hv hlt hcf => ?_
    have hPc : P < c' := hlt (P, tabObj #[]) (.head _)
    exact h f c' oc vs t ctv doc h' tk F' N' hd hv hcf (Nat.lt_trans hPc hcf) (fun q hq => Nat.lt_trans (hlt q (.tail _ hq)) hcf) (Nat.ne_of_gt hPc) (fun q hq => Nat.ne_of_lt (hlt q (.tail _ hq))) hP (fun ⟨_, _, _, _, e, _⟩ => by simp at e)
  · refine nestHit_K (c' := c') F N T C hcd (.tail _ (.head _)) (by simp [TriplesOk, rawInt]) (by simp [codeAmong, rawInt]) hcl fun f ctv doc h' tk F' N' hlt => ?_
    exact h f c' oc vs t ctv doc h' tk F' N' hd hv (hlt _ (.head _)) (hlt _ (.tail _ (.head _))) (fun q hq => hlt q (.tail _ (.tail _ hq))) hne (fun q hq => hO _ (.head _) q hq) (fun q hq => hO _ (.tail _ (.head _)) q hq) (fun _ => rfl)
end
theorem nestRec {h₀ h : Heap} {L : Addr} {f : Addr} {fo : Obj} {news : List (Addr × Obj)} {G : Prop} (P : Obj → Prop) (N : News h₀ L h ((f, fo) :: news)) (hP : P fo) (k : P fo → G) : G := k hP
section
variable {prog : Program} {w : World} {A : Around} {E : Value → Shared → Prop} {s : Shared} {h₀ : Heap} {L : Addr} {m : Str → Option Value} {news : List (Addr × Obj)} {Q : Value → Shared → Prop} {x y k : Nat} {t u : Tok}
theorem sub_one (hx : 1 ≤ x) (h : ∀ t' tk, Q (.int ((x - 1 : Nat) : Int) t') { s with toks := tk }) : wpAny (model prog w) A (binaryOp .Sub (.int (x : Int) t) (.int 1 u)) Q E s := by
  refine PyProof.Rows.sub_int ?_
  have e : (x : Int) - 1 = ((x - 1 : Nat) : Int) := by k_extra "li"
  rw [e]; exact h _ _
theorem div_nat (hy : 0 < y) (hb : y < 2 ^ 250) (h : ∀ t' tk, Q (.int ((x / y : Nat) : Int) t') { s with toks := tk }) : wpAny (model prog w) A (binaryOp .FloorDiv (.int (x : Int) t) (.int (y : Int) u)) Q E s := by
  have e : (x : Int).fdiv y = ((x / y : Nat) : Int) := by rw [Int.fdiv_eq_ediv_of_nonneg _ (by k_extra "li")]; simp
  refine floordiv_int (by k_extra "li") ?_ (Or.inl (PyProof.noPylong_of_log2 ?_))
  · rw [e]; exact h _ _
  · have : (y : Int).natAbs.log2 < 250 := (Nat.log2_lt (by k_extra "li")).mpr (by simpa using hb)
    k_extra "li"
theorem flat_one {α : Type} (v : α) : ∀ n : Nat, (List.replicate n [v]).flatten = List.replicate n v
  | 0 => rfl
  | n + 1 => by simp [List.replicate_succ, flat_one v n]
theorem rep_nat {l : Addr} {kk : Nat} {z : Int} {tz : Tok} (F : Fr h₀ L s.heap m) (N : News h₀ L s.heap news) (hm : (l, listOf #[.int z tz] kk) ∈ news) (hx : x ≤ 1000000)
    (h : ∀ D h' tk, Fr h₀ L h' m → News h₀ L h' ((D, listOf (List.replicate x (.int z tz)).toArray 0) :: news) → (∀ p ∈ news, p.1 < D) → IntsAre (List.replicate x (.int z tz)) (List.replicate x z) → Q (.ref D) { s with heap := h', toks := tk }) :
    wpAny (model prog w) A (binaryOp .Mult (.ref l) (.int (x : Int) u)) Q E s := by
  have hi : IntsAre [Value.int z tz] [z] := .cons _ _ .nil
  refine KM.mul (vs := [.int z tz]) F N (PySem.IsL.isList (n := kk) (N _ hm).1) hi (by k_extra "li") (by k_extra "li") (by rw [Int.toNat_natCast, List.length_singleton]; k_extra "li") fun D h' F' N' l1 i1 _ _ _ _ _ => ?_
  simp only [Int.toNat_natCast, flat_one] at N' i1
  exact h D h' s.toks F' N' l1 i1
end
theorem allLt_mem {d : Addr} {l : List (Addr × Obj)} : AllLt d l → ∀ p ∈ l, p.1 < d := by
  induction l with
  | nil => intro _ p hp; exact nomatch hp
  | cons q r ih =>
    intro h p hp
    rcases List.mem_cons.mp hp with e | hp
    · rw [e]; exact h.1
    · exact ih h.2 p hp
theorem ledTail {h₀ h : Heap} {L : Addr} {a b c : Addr × Obj} {x y : List (Addr × Obj)} (N : News h₀ L h (a :: b :: c :: (x ++ y))) : News h₀ L h (a :: b :: c :: (y ++ x)) :=
  News.perm N (by k_extra "psub")
end
section
section
variable {prog : Program} {w : World} {A : Around} {E : Value → Shared → Prop} {s : Shared} {env : Env}
theorem seqQ {st : Stmt} {rest : List Stmt} {Q : Flow → Shared → Prop} (P : Heap → Prop)
    (h : ∀ Q' : Flow → Shared → Prop, (∀ h' tk, P h' → Q' .next { s with heap := h', toks := tk }) → (∀ v s', Q (.ret v) s' → Q' (.ret v) s') → wpAny (model prog w) A (exec st env) Q' E s)
    (k : ∀ h' tk, P h' → wpAny (model prog w) A (execs rest env) Q E { s with heap := h', toks := tk }) :
    wpAny (model prog w) A (execs (st :: rest) env) Q E s :=
  seqN P (h _ (fun h' tk hp => .inl ⟨rfl, h', tk, rfl, hp⟩) fun v s' hq => .inr ⟨v, rfl, hq⟩) k
theorem whileQ {test : Expr} {body : List Stmt} {pos : Pos} {Q : Flow → Shared → Prop} {n₀ : Nat} (I : Nat → Heap → Prop) (h0 : I n₀ s.heap)
    (turn : ∀ n h tk, I n h → ∀ (QT : Flow → Shared → Prop) (QX : Shared → Prop), (∀ h' tk' n', n' < n → I n' h' → QT .next { s with heap := h', toks := tk' }) → (∀ v s', Q (.ret v) s' → QT (.ret v) s') → (∀ s', Q .next s' → QX s') →
        wpAny (model prog w) A (isTrue test env (eval test env)) (fun b s₂ =>
        if b = true then wpAny (model prog w) A (execs body env) QT NoE s₂ else QX s₂) NoE { s with heap := h, toks := tk }) :
    wpAny (model prog w) A (exec (.While test body [] pos) env) Q NoE s :=
  whileH I h0 fun n h tk hi => turn n h tk hi (WhEnd I Q s n) (Q .next) (fun h' tk' n' hn hi' => ⟨h', tk', n', rfl, hn, hi'⟩) (fun v s' hq => hq) (fun s' hq => hq)
end
section
variable {prog : Program} {w : World} {A : Around} {E : Value → Shared → Prop} {s : Shared} {env : Env} {h₀ : Heap}
theorem turnQ {σ : Type} {body : List Stmt} {Led : σ → List (Addr × Obj)} {ps : σ → List (Str × Value)} {Inv : Nat → σ → Prop} {i : Nat} {own : List (Addr × Obj)} {adr : List Addr} {s₁ : Shared} {Q : Flow → Shared → Prop}
    (h : ∀ QT : Flow → Shared → Prop, (∀ (c : σ) {h' : Heap} {tk : Nat} {m' : Str → Option Value} {news' : List (Addr × Obj)}, Fr h₀ env.locals h' m' → News h₀ env.locals h' news' → news' = Led c ++ own → (Led c).map (·.1) = adr → (∀ p ∈ ps c, m' p.1 = some p.2) → Inv i c → QT .next { s₁ with heap := h', toks := tk }) →
      (∀ v s', Q (.ret v) s' → QT (.ret v) s') → wpAny (model prog w) A (execs body env) QT E s) :
    wpAny (model prog w) A (execs body env) (InvPostN h₀ env.locals (TurnJ Led ps Inv i) own adr s₁ Q) E s :=
  h _ (fun c h' tk m' news' F N e ha hk hi => turnEnd c F N e ha hk hi) fun v s' hq => hq
end
end
section
theorem div2_c (w : World) (loose : List Str) (mean : ExcName → Option Value) (mg mb : Str → Option Value) : ∀ (news : CbLed) (a : Nat) (ta : Tok) (b : Nat) (tb : Tok) (n : Nat) (tn : Tok), a < 2 ^ 200 → 0 < b → b < 2 ^ 250 →
   Cl PySem.Challenge.rw_sr0059_02.row.prog w (K39 w.params) topProg loose mean mg mb 42 1 8 news [.int (a : Int) ta, .int (b : Int) tb, .int (n : Int) tn] (fun r news' => ∃ D t1 t2, r = .ref D ∧ news' = (D, { cls := .type "tuple", data := .seq #[.int ((a / b : Nat) : Int) t1, .int ((a % b : Nat) : Int) t2] }) :: news ∧ ∀ p ∈ news, p.1 < D) := by
  k_fill
  intro news a ta b tb n tn ha hb hb2
  refine Cl.mk ?_
  intro dp un gd cn cs ca ccd cl outer A₀ base h₀ L m s Q E kB kF kX kN kT kcs kd ku hret
  have hbits : Builtin.Int.intBits (a : Int) ≤ 200 := intBits_le_iff.mpr (by simpa using ha)
  refine wpAny_call ?_
  k_extra "enter"
  intro g L1 h1 FG F0 N B X T
  dsimp only
  refine noE ?_
  k_fold
  k_gentoks
  k_extra "ks"
  exact hret _ _ _ _ (by assumption) (by assumption) ⟨_, _, _, rfl, rfl, by assumption⟩
end
section
noncomputable def dg (n k x : Nat) : List Int := (List.range k).map fun i => ((x / 2 ^ (n * i) % 2 ^ n : Nat) : Int)
noncomputable def spl (ks : List Int) (lo : Nat) (d : List Int) : List Int := ks.take lo ++ d ++ ks.drop (lo + d.length)
theorem dg_len (n k x : Nat) : (dg n k x).length = k := by simp [dg]
theorem dg_one {n x : Nat} (h : x < 2 ^ n) : dg n 1 x = [(x : Int)] := by
  show [((x / 2 ^ (n * 0) % 2 ^ n : Nat) : Int)] = _
  rw [Nat.mul_zero, Nat.pow_zero, Nat.div_one, Nat.mod_eq_of_lt h]
theorem dg_add (n p q x : Nat) : dg n (p + q) x = dg n p (x % 2 ^ (p * n)) ++ dg n q (x / 2 ^ (p * n)) := by
  unfold dg
  rw [List.range_add, List.map_append, List.map_map]
  congr 1
  · apply List.map_congr_left
    intro i hi
    have hi' := List.mem_range.mp hi
    have e : 2 ^ (p * n) = 2 ^ (n * i) * 2 ^ (n * (p - i)) := by
      rw [← Nat.pow_add, ← Nat.mul_add, Nat.add_sub_cancel' (Nat.le_of_lt hi'), Nat.mul_comm]
    have h2 : 2 ^ (n * (p - i)) = 2 ^ n * 2 ^ (n * (p - i - 1)) := by
      rw [← Nat.pow_add]
      congr 1
      have : p - i = 1 + (p - i - 1) := by k_extra "li"
      conv => lhs; rw [this, Nat.mul_add, Nat.mul_one]
    rw [e, Nat.mod_mul_right_div_self, h2, Nat.mod_mul_right_mod]
  · apply List.map_congr_left
    intro i _
    simp only [Function.comp]
    rw [Nat.div_div_eq_div_mul, ← Nat.pow_add, Nat.mul_add, Nat.mul_comm p n]
theorem spl_set {ks : List Int} {lo : Nat} (h : lo < ks.length) (v : Int) : ks.set lo v = spl ks lo [v] := by
  unfold spl
  rw [List.set_eq_take_append_cons_drop, if_pos h]
  simp
theorem spl_spl {ks : List Int} {lo : Nat} {d e : List Int} (h : lo + d.length + e.length ≤ ks.length) : spl (spl ks lo d) (lo + d.length) e = spl ks lo (d ++ e) := by
  unfold spl
  have h1 : (ks.take lo).length = lo := by rw [List.length_take]; k_extra "li"
  have h2 : (ks.take lo ++ d).length = lo + d.length := by rw [List.length_append, h1]
  rw [List.take_append_of_le_length (by k_extra "li"), List.take_of_length_le (by k_extra "li"), List.drop_append, List.drop_of_length_le (by k_extra "li")]
  rw [h2, List.drop_drop, List.length_append]
  simp only [List.nil_append, List.append_assoc]
  congr 3
  congr 1
  k_extra "li"
theorem spl_len {ks : List Int} {lo : Nat} {d : List Int} (h : lo + d.length ≤ ks.length) : (spl ks lo d).length = ks.length := by
  unfold spl
  simp only [List.length_append, List.length_take, List.length_drop]
  k_extra "li"
theorem spl_all {ks d : List Int} (h : d.length = ks.length) : spl ks 0 d = d := by
  unfold spl
  simp [h]
theorem dg_dg {n p q x : Nat} {ks : List Int} {lo : Nat} (h : lo + p + q ≤ ks.length) : spl (spl ks lo (dg n p (x % 2 ^ (p * n)))) (lo + p) (dg n q (x / 2 ^ (p * n))) = spl ks lo (dg n (p + q) x) := by
  have e := spl_spl (ks := ks) (lo := lo) (d := dg n p (x % 2 ^ (p * n))) (e := dg n q (x / 2 ^ (p * n))) (by rw [dg_len, dg_len]; k_extra "li")
  rw [dg_len] at e
  rw [e, ← dg_add]
noncomputable def nd (n a : Nat) : Nat := (Builtin.Int.intBits (a : Int) + n - 1) / n
theorem nd_zero {n : Nat} (h : 1 ≤ n) : nd n 0 = 0 := by
  unfold nd
  have e : Builtin.Int.intBits ((0 : Nat) : Int) = 0 := rfl
  rw [e, Nat.zero_add]
  exact Nat.div_eq_of_lt (by k_extra "li")
theorem nd_bound {n a : Nat} (h : 1 ≤ n) : a < 2 ^ (n * nd n a) := by
  have h1 : a < 2 ^ Builtin.Int.intBits (a : Int) := by simpa using intBits_le_iff.mp (Nat.le_refl (Builtin.Int.intBits (a : Int)))
  refine Nat.lt_of_lt_of_le h1 (Nat.pow_le_pow_right (by decide) ?_)
  unfold nd
  generalize Builtin.Int.intBits (a : Int) = b
  have h2 := Nat.div_add_mod (b + n - 1) n
  have h3 := Nat.mod_lt (b + n - 1) (show n > 0 from h)
  k_extra "li"
theorem nd_pos {n a : Nat} (h : 1 ≤ n) (ha : a ≠ 0) : 0 < nd n a := by
  false_or_by_contra
  have h0 : nd n a = 0 := by k_extra "li"
  have := nd_bound (n := n) (a := a) h
  rw [h0, Nat.mul_zero, Nat.pow_zero] at this
  k_extra "li"
noncomputable def dvl (n : Nat) : List Nat → Nat
  | [] => 0
  | q :: r => q + 2 ^ n * dvl n r
theorem dvl_append (n : Nat) : ∀ x y : List Nat, dvl n (x ++ y) = dvl n x + 2 ^ (n * x.length) * dvl n y
  | [], y => by simp [dvl]
  | q :: r, y => by
    simp only [List.cons_append, dvl, dvl_append n r y, List.length_cons]
    rw [Nat.mul_add, Nat.mul_add, Nat.mul_one, Nat.pow_add, Nat.mul_comm (2 ^ (n * r.length)) (2 ^ n), Nat.mul_assoc, Nat.add_assoc]
theorem dvl_lt (n : Nat) : ∀ x : List Nat, (∀ q ∈ x, q < 2 ^ n) → dvl n x < 2 ^ (n * x.length)
  | [], _ => by simp [dvl]
  | q :: r, h => by
    have h1 := h q (.head _)
    have h2 := dvl_lt n r fun p hp => h p (.tail _ hp)
    simp only [dvl, List.length_cons]
    rw [Nat.mul_add, Nat.mul_one, Nat.pow_add, Nat.mul_comm (2 ^ (n * r.length)) (2 ^ n)]
    have h3 : 2 ^ n * (dvl n r + 1) ≤ 2 ^ n * 2 ^ (n * r.length) := Nat.mul_le_mul_left _ h2
    rw [Nat.mul_add, Nat.mul_one] at h3
    k_extra "li"
theorem dvl_split (n : Nat) (qs : List Nat) {lo mid hi : Nat} (h1 : lo ≤ mid) (h2 : mid ≤ hi) (h3 : hi ≤ qs.length) :
    dvl n ((qs.drop lo).take (hi - lo)) = dvl n ((qs.drop mid).take (hi - mid)) * 2 ^ ((mid - lo) * n) + dvl n ((qs.drop lo).take (mid - lo)) := by
  have e : (qs.drop lo).take (hi - lo) = (qs.drop lo).take (mid - lo) ++ (qs.drop mid).take (hi - mid) := by
    have e1 : hi - lo = (mid - lo) + (hi - mid) := by rw [Nat.add_comm]; exact (Nat.sub_add_sub_cancel h2 h1).symm
    rw [e1, List.take_add, List.drop_drop, show lo + (mid - lo) = mid from Nat.add_sub_of_le h1]
  rw [e, dvl_append, List.length_take, List.length_drop, Nat.min_eq_left (Nat.sub_le_sub_right (Nat.le_trans h2 h3) lo), Nat.mul_comm n, Nat.mul_comm (2 ^ _), Nat.add_comm]
theorem dvl_one (n : Nat) (qs : List Nat) {lo : Nat} (h : lo < qs.length) : dvl n ((qs.drop lo).take 1) = qs.getD lo 0 := by
  rw [List.drop_eq_getElem_cons h, List.take_succ_cons, List.take_zero]
  simp only [dvl]
  simp [List.getD, h]
theorem dvl_part (n : Nat) (qs : List Nat) (hq : ∀ q ∈ qs, q < 2 ^ n) (lo k : Nat) : dvl n ((qs.drop lo).take k) < 2 ^ (n * qs.length) := by
  refine Nat.lt_of_lt_of_le (dvl_lt n _ fun q h => hq q (List.mem_of_mem_drop (List.mem_of_mem_take h))) (Nat.pow_le_pow_right (by decide) (Nat.mul_le_mul_left _ ?_))
  rw [List.length_take, List.length_drop]
  exact Nat.le_trans (Nat.min_le_right _ _) (Nat.sub_le _ _)
theorem div_step {a b n N i : Nat} (hb : 0 < b) (hi : i < N) :
    ((a / 2 ^ (n * (N - i)) % b) * 2 ^ n + a / 2 ^ (n * (N - 1 - i)) % 2 ^ n) % b = a / 2 ^ (n * (N - (i + 1))) % b ∧
    a / 2 ^ (n * (N - (i + 1))) / b = ((a / 2 ^ (n * (N - i)) % b) * 2 ^ n + a / 2 ^ (n * (N - 1 - i)) % 2 ^ n) / b + 2 ^ n * (a / 2 ^ (n * (N - i)) / b) := by
  have e1 : N - (i + 1) = N - 1 - i := by k_extra "li"
  have e2 : a / 2 ^ (n * (N - i)) = a / 2 ^ (n * (N - 1 - i)) / 2 ^ n := by
    rw [Nat.div_div_eq_div_mul, ← Nat.pow_add]
    congr 2
    have : N - i = N - 1 - i + 1 := by k_extra "li"
    rw [this, Nat.mul_add, Nat.mul_one]
  rw [e1, e2]
  generalize a / 2 ^ (n * (N - 1 - i)) = A
  have h1 := Nat.div_add_mod A (2 ^ n)
  have h2 := Nat.div_add_mod (A / 2 ^ n) b
  generalize hx : A / 2 ^ n / b = q at *
  generalize hy : A / 2 ^ n % b = r at *
  generalize hd : A % 2 ^ n = d at *
  have h3 : A = r * 2 ^ n + d + b * (2 ^ n * q) := by
    rw [← h1, ← h2, Nat.mul_add, Nat.mul_comm (2 ^ n) r, Nat.mul_left_comm]
    k_extra "li"
  constructor
  · conv => rhs; rw [h3]
    rw [Nat.add_mul_mod_self_left]
  · conv => lhs; rw [h3]
    rw [Nat.add_mul_div_left _ _ hb]
theorem div_digit {b n r d : Nat} (hr : r < b) (hd : d < 2 ^ n) : (r * 2 ^ n + d) / b < 2 ^ n := by
  refine Nat.div_lt_of_lt_mul ?_
  have : (r + 1) * 2 ^ n ≤ b * 2 ^ n := Nat.mul_le_mul_right _ hr
  rw [Nat.add_mul] at this
  k_extra "li"
end
section
theorem i2d_c (w : World) (loose : List Str) (mean : ExcName → Option Value) (mg mb : Str → Option Value) : ∀ (own news : CbLed) (a : Nat) (ta : Tok) (n : Nat) (tn : Tok), a < 2 ^ 40 → 1 ≤ n → n ≤ 40 → Tb 51 83 4 "_int2digits.<locals>.inner" own → Off own news →
   ClB (fun b => CodeHd b 55 51) PySem.Challenge.rw_sr0059_02.row.prog w (K39 w.params) topProg loose mean mg mb 56 45 450 (own ++ news) [.int (a : Int) ta, .int (n : Int) tn] (fun r nx => ∃ (D : Addr) (us : List Value) (own' : CbLed), r = .ref D ∧ nx = (D, listOf us.toArray 0) :: (own' ++ news) ∧ TbM 51 83 4 "_int2digits.<locals>.inner" own' ∧ (TbM 51 83 4 "_int2digits.<locals>.inner" own → own' = own) ∧ Off own' news ∧ (∀ p ∈ own' ++ news, p.1 ≠ D) ∧ IntsAre us (dg n (nd n a) a)) := by
  k_fill
  intro own news a ta n tn ha hn1 hn2 hT hO
  refine ClB.mk ?_
  intro dp un gd cn cs ca ccd cl outer A₀ base h₀ L m s Q E kP kB kF kX kN kT kcs kd ku hret
  have hbits : Builtin.Int.intBits (a : Int) ≤ 40 := intBits_le_iff.mpr (by simpa using ha)
  have hn0 : 0 < n := hn1
  have hn3 : n < 2 ^ 250 := Nat.lt_of_le_of_lt hn2 (by decide)
  have hN : (Builtin.Int.intBits (a : Int) + n - 1) / n ≤ 1000000 := Nat.le_trans (Nat.div_le_self _ _) (Nat.le_trans (nt_ib hbits hn2) (by decide))
  refine wpAny_call ?_
  k_extra "enterC"
  intro g L1 h1 tk1 cells FG F0 N Y B X T l1
  k_cells Y
  simp only [List.cons_append, List.nil_append] at N
  rename_i o1 o2 o3 d1 d2 d3
  replace d1 : o1.data = .cell none := d1
  replace d2 : o2.data = .cell none := d2
  replace d3 : o3.data = .cell (some (.int (n : Int) tn)) := d3
  have q1 : ∀ p ∈ own ++ news, p.1 < L1 + 1 := fun p hp => Nat.lt_succ_of_lt (l1 p hp)
  have q2 : ∀ p ∈ own ++ news, p.1 < L1 + 1 + 1 := fun p hp => Nat.lt_succ_of_lt (q1 p hp)
  have q3 : ∀ p ∈ own ++ news, p.1 < L1 + 1 + 1 + 1 := fun p hp => Nat.lt_succ_of_lt (q2 p hp)
  dsimp only
  refine noE ?_
  k_fold
  try k_gentoks
  have hx9 : Loc g L1 h1 [("a", .int (a : Int) ta)] := loc F0 (by k_extra "kn_all")
  first | (k_extra "xe2"; clear hx9; intro r1 F) | obtain ⟨r1, F⟩ := hx9
  clear F0
  refine seqQ (fun h => ∃ (D : Addr) (t : Tok) (o2' : Obj), Loc g L1 h [("a", .int (a : Int) ta)] ∧ News g L1 h ((own ++ news) ++ [(D, listOf (List.replicate ((Builtin.Int.intBits (a : Int) + n - 1) / n) (.int 0 t)).toArray 0), (L1 + 1 + 1 + 1, o1), (L1 + 1 + 1, o2'), (L1 + 1, o3)]) ∧ o2'.data = .cell (some (.ref D)) ∧ L1 + 1 + 1 + 1 < D ∧ (∀ p ∈ own ++ news, p.1 < D) ∧ IntsAre (List.replicate ((Builtin.Int.intBits (a : Int) + n - 1) / n) (.int 0 t)) (List.replicate ((Builtin.Int.intBits (a : Int) + n - 1) / n) 0)) ?_ ?_
  · intro Qn hN hRt
    k_extra "ks"
    rename_i lfact _ _ _ _ _
    refine hN _ _ ⟨_, _, _, by k_extra "lo", News.perm (by assumption) ?_, by assumption, lfact.2.1, allLt_mem lfact.2.2.2.2, by assumption⟩
    k_extra "psub"
  intro h2 tk2 hP
  first | (revert hP; intro hx9; k_extra "xe9"; clear hx9; intro D t2 o2' hx9; (first | (k_extra "xq2"; clear hx9; intro r2 F2) | obtain ⟨r2, F2⟩ := hx9); intro N2 d2' hD1 hD2 I2) | obtain ⟨D, t2, o2', ⟨r2, F2⟩, N2, d2', hD1, hD2, I2⟩ := hP
  clear F N
  dsimp only
  generalize hNN : (Builtin.Int.intBits (a : Int) + n - 1) / n = NN at *
  have hnd : nd n a = NN := hNN
  refine wpAny_execs_cons (nestDef_K rfl rfl rfl ?_)
  refine nest_U (own := own) (others := news ++ [(D, listOf (List.replicate NN (.int 0 t2)).toArray 0), (L1 + 1 + 1 + 1, o1), (L1 + 1 + 1, o2'), (L1 + 1, o3)]) F2 (News.perm N2 (by k_extra "psub")) (by assumption) (CodeHd.keeps kP (Below.stays B)) rfl hT ?_ rfl ?_
  · intro p hp q hq
    rcases List.mem_append.mp hq with hq | hq
    · exact hO p hp q hq
    · have e1 : @LT.lt Nat _ p.1 L1 := l1 p (List.mem_append_left _ hp)
      have e2 : @LT.lt Nat _ p.1 D := hD2 p (List.mem_append_left _ hp)
      simp only [List.mem_cons, List.not_mem_nil, or_false] at hq
      rcases hq with rfl | rfl | rfl | rfl <;> first | exact neN (Nat.ne_of_gt e2) | exact neN (Nat.ne_of_gt (Nat.lt_succ_of_lt e1)) | exact neN (Nat.ne_of_gt (Nat.lt_succ_of_lt (Nat.lt_succ_of_lt e1))) | exact neN (Nat.ne_of_gt (Nat.lt_succ_of_lt (Nat.lt_succ_of_lt (Nat.lt_succ_of_lt e1))))
  intro f c' oc vs tq ctv doc h3 tk3 F3 N3 hoc hvs hcf hPf hqf hcP hqc hqP hsame
  have x1 := ltN (hqf _ (List.mem_append_right _ (.head _)))
  have x2 := neN (hqc _ (List.mem_append_right _ (.head _)))
  have x3 := neN (hqP _ (List.mem_append_right _ (.head _)))
  have y1 := ltN (hqf _ (List.mem_append_right _ (.tail _ (.head _))))
  have y2 := neN (hqc _ (List.mem_append_right _ (.tail _ (.head _))))
  have y3 := neN (hqP _ (List.mem_append_right _ (.tail _ (.head _))))
  have z1 := ltN (hqf _ (List.mem_append_right _ (.tail _ (.tail _ (.head _)))))
  have z2 := neN (hqc _ (List.mem_append_right _ (.tail _ (.tail _ (.head _)))))
  have z3 := neN (hqP _ (List.mem_append_right _ (.tail _ (.tail _ (.head _)))))
  have u1 := ltN (hqf _ (List.mem_append_right _ (.tail _ (.tail _ (.tail _ (.head _))))))
  have u2 := neN (hqc _ (List.mem_append_right _ (.tail _ (.tail _ (.tail _ (.head _))))))
  have u3 := neN (hqP _ (List.mem_append_right _ (.tail _ (.tail _ (.tail _ (.head _))))))
  have hcf' := ltN hcf
  have hPf' := ltN hPf
  have hcP' := neN hcP
  have hD1' := ltN hD1
  have nf : ∀ p ∈ news, p.1 < f := fun p hp => hqf p (List.mem_append_left _ hp)
  have nc : ∀ p ∈ news, p.1 ≠ c' := fun p hp => hqc p (List.mem_append_left _ hp)
  have nP : ∀ p ∈ news, p.1 ≠ 51 := fun p hp => hqP p (List.mem_append_left _ hp)
  have nD : ∀ p ∈ news, p.1 < D := fun p hp => hD2 p (List.mem_append_right _ hp)
  have n1 : ∀ p ∈ news, p.1 < L1 + 1 := fun p hp => q1 p (List.mem_append_right _ hp)
  have n2 : ∀ p ∈ news, p.1 < L1 + 1 + 1 := fun p hp => q2 p (List.mem_append_right _ hp)
  have n3 : ∀ p ∈ news, p.1 < L1 + 1 + 1 + 1 := fun p hp => q3 p (List.mem_append_right _ hp)
  dsimp only at x1 x2 x3 y1 y2 y3 z1 z2 z3 u1 u2 u3
  replace N3 := ledTail N3
  simp only [List.cons_append, List.nil_append] at N3
  clear N2 F2 hqf hqc hqP
  k_extra "ks1"
  k_extra "ks1"
  rename_i h4 o1' F4 N4 d4
  have hnN : n * NN ≤ 80 := by
    have := Nat.div_mul_le_self (Builtin.Int.intBits (a : Int) + n - 1) n
    rw [hNN, Nat.mul_comm] at this
    exact Nat.le_trans this (nt_ib hbits hn2)
  refine nestRec (fun fo => ∀ (fuel : Nat) (us : List Value) (ks : List Int) (x : Nat) (tx tL tR : Tok) (lo hi : Nat), hi - lo ≤ fuel → fuel ≤ 40 → lo < hi → hi ≤ ks.length → n * ks.length ≤ 80 → IntsAre us ks → x < 2 ^ (n * (hi - lo)) →
    ClB (fun b => CodeHd b 55 51) PySem.Challenge.rw_sr0059_02.row.prog w (K39 w.params) topProg loose mean mg mb f (fuel + 1) (10 * fuel + 10) ((f, fo) :: (c', oc) :: (51, tabObj #[rawInt 83 , rawInt 4, .ref c']) :: (D, listOf us.toArray 0) :: (L1 + 1 + 1 + 1, o1') :: (L1 + 1 + 1, o2') :: (L1 + 1, o3) :: news) [.int (x : Int) tx, .int (lo : Int) tL, .int (hi : Int) tR]
      (fun r nx => r = .none ∧ ∃ us', nx = ((f, fo) :: (c', oc) :: (51, tabObj #[rawInt 83 , rawInt 4, .ref c']) :: (D, listOf us'.toArray 0) :: (L1 + 1 + 1 + 1, o1') :: (L1 + 1 + 1, o2') :: (L1 + 1, o3) :: news) ∧ IntsAre us' (spl ks lo (dg n (hi - lo) x)))) N4 ?_ ?_
  · clear F4 N4 hNN hN I2
    intro fuel
    induction fuel with
    | zero => exact fun _ _ _ _ _ _ _ _ h1 _ h3 => absurd h3 (nt_z h1)
    | succ fuel ih =>
      intro us ks x tx tL tR lo hi hf1 hf2 hlo hhi hk hI hx
      refine ClB.mk ?_
      intro dp un gd cn cs ca ccd cl outer A₀ base' h₀ L m s Q E kP kB kF kX kN kT kcs kd ku hret
      refine wpAny_call ?_
      k_extra "enterN"
      · exact codeRec_news kN (by k_mem) hoc hvs
      intro g2 L2 h5 FG2 F5 N5 B5 X5 T5
      dsimp only
      refine noE ?_
      k_fold
      try k_gentoks
      have hkl : ks.length ≤ 80 := by
        have : 1 * ks.length ≤ n * ks.length := Nat.mul_le_mul_right _ hn1
        rw [Nat.one_mul] at this
        exact Nat.le_trans this hk
      have hle := nt_mid0 hlo
      have hml := nt_half hlo hhi
      have hf3 := Nat.le_of_succ_le hf2
      have hshl : ((lo + hi) / 2 - lo) * n ≤ 80 := by
        have : n * ((lo + hi) / 2 - lo) ≤ n * ks.length := Nat.mul_le_mul_left _ (Nat.le_trans (Nat.sub_le _ _) hml)
        rw [Nat.mul_comm n ((lo + hi) / 2 - lo)] at this
        exact Nat.le_trans this hk
      have hxb : x < 2 ^ 80 := Nat.lt_of_lt_of_le hx (Nat.pow_le_pow_right (by decide) (by
        have : n * (hi - lo) ≤ n * ks.length := Nat.mul_le_mul_left _ (Nat.le_trans (Nat.sub_le _ _) hhi)
        exact Nat.le_trans this hk))
      have hup : x / 2 ^ (((lo + hi) / 2 - lo) * n) < 2 ^ 250 := Nat.lt_of_le_of_lt (Nat.div_le_self _ _) (Nat.lt_of_lt_of_le hxb (Nat.pow_le_pow_right (by decide) (by decide)))
      k_extra "ks"
      · -- a digit
        refine hret _ _ _ _ (by assumption) (by assumption) ⟨rfl, _, rfl, ?_⟩
        have e1 : hi = lo + 1 := nt_suc (by assumption)
        subst e1
        rw [show lo + 1 - lo = 1 from Nat.add_sub_cancel_left _ _] at hx ⊢
        rw [Nat.mul_one] at hx
        rw [dg_one hx, ← spl_set hhi]
        assumption
      · have hlm : lo < (lo + hi) / 2 := nt_mid1 hlo (by assumption)
        have hmh : (lo + hi) / 2 < hi := nt_mid2 hlo
        clear hup hshl
        generalize (lo + hi) / 2 = mid at *
        (k_dflt (refine' ClB.use (ih us ks _ _ _ _ _ _ ?q1 ?q2 ?q3 ?q4 ?q5 ?q6 ?q7) ?k0 ?k1 ?k2 ?k3 ?k4 ?k5 ?kK ?kd ?ku ?_; k_extra "clb_use"))
        case q1 => exact nt_m1 hf1 hlm hmh
        case q2 => exact hf3
        case q3 => exact hlm
        case q4 => exact hml
        case q5 => assumption
        case q6 => assumption
        case q7 => rw [Nat.mul_comm n]; exact Nat.mod_lt _ (Nat.pow_pos (by decide))
        intro r nx h6 tk6 F6 N6 hR
        first | (revert hR; intro hx9; k_extra "xe4"; clear hx9; intro e1 us6 e2 I6) | obtain ⟨e1, us6, e2, I6⟩ := hR
        subst e1
        subst e2
        dsimp only
        have hl6 := spl_len (ks := ks) (lo := lo) (d := dg n (mid - lo) (x % 2 ^ ((mid - lo) * n))) (by rw [dg_len, nt_m4 hle]; exact hml)
        k_extra "ks"
        (k_dflt (refine' ClB.use (ih us6 (spl ks lo (dg n (mid - lo) (x % 2 ^ ((mid - lo) * n)))) _ _ _ _ _ _ ?q1 ?q2 ?q3 ?q4 ?q5 ?q6 ?q7) ?k0 ?k1 ?k2 ?k3 ?k4 ?k5 ?kK ?kd ?ku ?_; k_extra "clb_use"))
        case q1 => exact nt_m2 hf1 hlm hmh
        case q2 => exact hf3
        case q3 => exact hmh
        case q4 => rw [hl6]; exact hhi
        case q5 => rw [hl6]; assumption
        case q6 => exact I6
        case q7 =>
          refine Nat.div_lt_of_lt_mul ?_
          rw [← Nat.pow_add, Nat.mul_comm _ n, ← Nat.mul_add, show mid - lo + (hi - mid) = hi - lo from nt_m3 hle (Nat.le_of_lt hmh)]
          exact hx
        intro r nx h7 tk7 F7 N7 hR
        first | (revert hR; intro hx9; k_extra "xe4"; clear hx9; intro e1 us7 e2 I7) | obtain ⟨e1, us7, e2, I7⟩ := hR
        subst e1
        subst e2
        dsimp only
        k_extra "ks"
        refine hret _ _ _ _ (by assumption) (by assumption) ⟨rfl, _, rfl, ?_⟩
        have e3 := dg_dg (n := n) (p := mid - lo) (q := hi - mid) (x := x) (ks := ks) (lo := lo) (by rw [nt_m6 hle (Nat.le_of_lt hmh)]; exact hhi)
        rw [nt_m4 hle, nt_m3 hle (Nat.le_of_lt hmh)] at e3
        rw [← e3]
        exact I7
  intro inner
  have hsz : (List.replicate NN (Value.int 0 t2)).toArray.size = NN := by simp
  have oT : TbM 51 83 4 "_int2digits.<locals>.inner" [(c', oc), (51, tabObj #[rawInt 83, rawInt 4, .ref c'])] := ⟨c', oc, vs, tq, rfl, hoc, hvs, hcP⟩
  have oO : Off [(c', oc), (51, tabObj #[rawInt 83, rawInt 4, .ref c'])] news := by
    intro p hp q hq
    simp only [List.mem_cons, List.not_mem_nil, or_false] at hp
    rcases hp with rfl | rfl
    · exact nc q hq
    · exact nP q hq
  have oD : ∀ p ∈ [(c', oc), (51, tabObj #[rawInt 83, rawInt 4, .ref c'])] ++ news, p.1 ≠ D := by
    intro p hp
    rcases List.mem_append.mp hp with hp | hp
    · simp only [List.mem_cons, List.not_mem_nil, or_false] at hp
      rcases hp with rfl | rfl
      · exact x2.symm
      · exact x3.symm
    · exact Nat.ne_of_lt (nD p hp)
  k_extra "ks"
  · have ha0 : a ≠ 0 := by k_extra "li"
    have hpos := nd_pos hn1 ha0
    rw [hnd] at hpos
    have hbd := nd_bound (n := n) (a := a) hn1
    rw [hnd] at hbd
    have hNle : NN ≤ 40 := by
      rw [← hNN]
      refine Nat.le_trans (Nat.div_le_of_le_mul (n := 40) ?_) (Nat.le_refl _)
      have : n * 40 = 40 * n := Nat.mul_comm _ _
      k_extra "li"
    (k_dflt (refine' ClB.use (inner NN (List.replicate NN (.int 0 t2)) (List.replicate NN 0) a _ _ _ 0 NN ?q1 ?q2 ?q3 ?q4 ?q5 ?q6 ?q7) ?k0 ?k1 ?k2 ?k3 ?k4 ?k5 ?kK ?kd ?ku ?_; k_extra "clb_use"))
    case q1 => k_extra "li"
    case q2 => k_extra "li"
    case q3 => k_extra "li"
    case q4 => rw [List.length_replicate]; k_extra "li"
    case q5 => rw [List.length_replicate]; assumption
    case q6 => exact I2
    case q7 => exact hbd
    intro r nx h6 tk6 F6 N6 hR
    first | (revert hR; intro hx9; k_extra "xe4"; clear hx9; intro e1 us6 e2 I6) | obtain ⟨e1, us6, e2, I6⟩ := hR
    subst e1
    subst e2
    rw [spl_all (by rw [dg_len, List.length_replicate]; k_extra "li"), Nat.sub_zero, ← hnd] at I6
    dsimp only
    k_extra "ks"
    exact hret _ _ _ _ (by assumption) (News.perm (by assumption) (by k_extra "psub")) ⟨D, us6, _, rfl, rfl, oT, hsame, oO, oD, I6⟩
  · have ha0 : a = 0 := by k_extra "li"
    subst ha0
    rw [nd_zero hn1] at hnd
    refine hret _ _ _ _ (by assumption) (News.perm (by assumption) (by k_extra "psub")) ⟨D, List.replicate NN (.int 0 t2), _, rfl, rfl, oT, hsame, oO, oD, ?_⟩
    rw [nd_zero hn1, ← hnd]
    exact .nil
end
section
theorem d2i_c (w : World) (loose : List Str) (mean : ExcName → Option Value) (mg mb : Str → Option Value) : ∀ (own news : CbLed) (D : Addr) (us : List Value) (kk : Nat) (qs : List Nat) (n : Nat) (tn : Tok), 1 ≤ n → n ≤ 40 → n * qs.length ≤ 80 → (∀ q ∈ qs, q < 2 ^ n) → IntsAre us (qs.map fun q => ((q : Nat) : Int)) → Tb 58 98 4 "_digits2int.<locals>.inner" own → Off own ((D, listOf us.toArray kk) :: news) →
   ClB (fun b => CodeHd b 62 58) PySem.Challenge.rw_sr0059_02.row.prog w (K39 w.params) topProg loose mean mg mb 63 85 1000 (own ++ ((D, listOf us.toArray kk) :: news)) [.ref D, .int (n : Int) tn] (fun r nx => ∃ (t : Tok) (own' : CbLed), r = .int (dvl n qs : Nat) t ∧ nx = own' ++ ((D, listOf us.toArray kk) :: news) ∧ TbM 58 98 4 "_digits2int.<locals>.inner" own' ∧ (TbM 58 98 4 "_digits2int.<locals>.inner" own → own' = own) ∧ Off own' ((D, listOf us.toArray kk) :: news)) := by
  k_fill
  intro own news D us kk qs n tn hn1 hn2 hnq hql hI hT hO
  refine ClB.mk ?_
  intro dp un gd cn cs ca ccd cl outer A₀ base h₀ L m s Q E kP kB kF kX kN kT kcs kd ku hret
  have hlen : qs.length ≤ 80 := by
    have : 1 * qs.length ≤ n * qs.length := Nat.mul_le_mul_right _ hn1
    rw [Nat.one_mul] at this
    exact Nat.le_trans this hnq
  refine wpAny_call ?_
  k_extra "enterC"
  intro g L1 h1 tk1 cells FG F0 N Y B X T l1
  k_cells Y
  simp only [List.cons_append, List.nil_append] at N
  rename_i o1 o2 o3 d1 d2 d3
  replace d1 : o1.data = .cell none := d1
  replace d2 : o2.data = .cell (some (.int (n : Int) tn)) := d2
  replace d3 : o3.data = .cell (some (.ref D)) := d3
  dsimp only
  refine noE ?_
  k_fold
  try k_gentoks
  have hx9 : Loc g L1 h1 [] := loc F0 (by k_extra "kn_all")
  first | (k_extra "xe2"; clear hx9; intro r1 F) | obtain ⟨r1, F⟩ := hx9
  clear F0
  have hD : D < L1 := l1 (D, listOf us.toArray kk) (List.mem_append_right _ (.head _))
  have hn : ∀ p ∈ news, p.1 < L1 := fun p hp => l1 p (List.mem_append_right _ (.tail _ hp))
  have hDn : D ≠ 58 → True := fun _ => trivial
  refine wpAny_execs_cons (nestDef_K rfl rfl rfl ?_)
  refine nest_U (own := own) (others := ((D, listOf us.toArray kk) :: news) ++ [(L1 + 1 + 1 + 1, o1), (L1 + 1 + 1, o2), (L1 + 1, o3)]) F (News.perm N (by k_extra "psub")) (by assumption) (CodeHd.keeps kP (Below.stays B)) rfl hT ?_ rfl ?_
  · intro p hp q hq
    rcases List.mem_append.mp hq with hq | hq
    · exact hO p hp q hq
    · have e1 : @LT.lt Nat _ p.1 L1 := l1 p (List.mem_append_left _ hp)
      simp only [List.mem_cons, List.not_mem_nil, or_false] at hq
      rcases hq with rfl | rfl | rfl <;> first | exact neN (Nat.ne_of_gt (Nat.lt_succ_of_lt e1)) | exact neN (Nat.ne_of_gt (Nat.lt_succ_of_lt (Nat.lt_succ_of_lt e1))) | exact neN (Nat.ne_of_gt (Nat.lt_succ_of_lt (Nat.lt_succ_of_lt (Nat.lt_succ_of_lt e1))))
  intro f c' oc vs tq ctv doc h3 tk3 F3 N3 hoc hvs hcf hPf hqf hcP hqc hqP hsame
  have x1 := ltN (hqf _ (List.mem_append_left _ (.head _)))
  have x2 := neN (hqc _ (List.mem_append_left _ (.head _)))
  have x3 := neN (hqP _ (List.mem_append_left _ (.head _)))
  have y1 := ltN (hqf _ (List.mem_append_right _ (.head _)))
  have y2 := neN (hqc _ (List.mem_append_right _ (.head _)))
  have y3 := neN (hqP _ (List.mem_append_right _ (.head _)))
  have z1 := ltN (hqf _ (List.mem_append_right _ (.tail _ (.head _))))
  have z2 := neN (hqc _ (List.mem_append_right _ (.tail _ (.head _))))
  have z3 := neN (hqP _ (List.mem_append_right _ (.tail _ (.head _))))
  have u1 := ltN (hqf _ (List.mem_append_right _ (.tail _ (.tail _ (.head _)))))
  have u2 := neN (hqc _ (List.mem_append_right _ (.tail _ (.tail _ (.head _)))))
  have u3 := neN (hqP _ (List.mem_append_right _ (.tail _ (.tail _ (.head _)))))
  have hcf' := ltN hcf
  have hPf' := ltN hPf
  have hcP' := neN hcP
  have hD1' := ltN hD
  have nc : ∀ p ∈ (D, listOf us.toArray kk) :: news, p.1 ≠ c' := fun p hp => hqc p (List.mem_append_left _ hp)
  have nP : ∀ p ∈ (D, listOf us.toArray kk) :: news, p.1 ≠ 58 := fun p hp => hqP p (List.mem_append_left _ hp)
  have n1 : ∀ p ∈ news, p.1 < L1 + 1 := fun p hp => Nat.lt_succ_of_lt (hn p hp)
  have n2 : ∀ p ∈ news, p.1 < L1 + 1 + 1 := fun p hp => Nat.lt_succ_of_lt (n1 p hp)
  have n3 : ∀ p ∈ news, p.1 < L1 + 1 + 1 + 1 := fun p hp => Nat.lt_succ_of_lt (n2 p hp)
  dsimp only at x1 x2 x3 y1 y2 y3 z1 z2 z3 u1 u2 u3
  replace N3 := ledTail N3
  simp only [List.cons_append, List.nil_append] at N3
  clear N F hqf hqc hqP
  k_extra "ks1"
  k_extra "ks1"
  rename_i h4 o1' F4 N4 d4
  refine nestRec (fun fo => ∀ (fuel : Nat) (tL tR : Tok) (lo hi : Nat), hi - lo ≤ fuel → fuel ≤ 80 → lo < hi → hi ≤ qs.length →
    ClB (fun b => CodeHd b 62 58) PySem.Challenge.rw_sr0059_02.row.prog w (K39 w.params) topProg loose mean mg mb f (fuel + 1) (10 * fuel + 10) ((f, fo) :: (c', oc) :: (58, tabObj #[rawInt 98, rawInt 4, .ref c']) :: (L1 + 1 + 1 + 1, o1') :: (L1 + 1 + 1, o2) :: (L1 + 1, o3) :: (D, listOf us.toArray kk) :: news) [.int (lo : Int) tL, .int (hi : Int) tR]
      (fun r nx => (∃ t, r = .int (dvl n ((qs.drop lo).take (hi - lo)) : Nat) t) ∧ nx = ((f, fo) :: (c', oc) :: (58, tabObj #[rawInt 98, rawInt 4, .ref c']) :: (L1 + 1 + 1 + 1, o1') :: (L1 + 1 + 1, o2) :: (L1 + 1, o3) :: (D, listOf us.toArray kk) :: news))) N4 ?_ ?_
  · clear F4 N4
    intro fuel
    induction fuel with
    | zero => exact fun _ _ _ _ h1 _ h3 => absurd h3 (nt_z h1)
    | succ fuel ih =>
      intro tL tR lo hi hf1 hf2 hlo hhi
      refine ClB.mk ?_
      intro dp un gd cn cs ca ccd cl outer A₀ base' h₀ L m s Q E kP kB kF kX kN kT kcs kd ku hret
      refine wpAny_call ?_
      k_extra "enterN"
      · exact codeRec_news kN (by k_mem) hoc hvs
      intro g2 L2 h5 FG2 F5 N5 B5 X5 T5
      dsimp only
      refine noE ?_
      k_fold
      try k_gentoks
      have hml : (qs.map fun q => ((q : Nat) : Int)).length = qs.length := List.length_map ..
      have hle := nt_mid0 hlo
      have hmq := nt_half hlo hhi
      have hf3 := Nat.le_of_succ_le hf2
      have hshl : ((lo + hi) / 2 - lo) * n ≤ 80 := by
        have : n * ((lo + hi) / 2 - lo) ≤ n * qs.length := Nat.mul_le_mul_left _ (Nat.le_trans (Nat.sub_le _ _) hmq)
        rw [Nat.mul_comm n ((lo + hi) / 2 - lo)] at this
        exact Nat.le_trans this hnq
      have hup : ∀ k, dvl n ((qs.drop ((lo + hi) / 2)).take k) < 2 ^ 250 := fun k => Nat.lt_of_lt_of_le (dvl_part n qs hql _ _) (Nat.pow_le_pow_right (by decide) (by k_extra "li"))
      have hup' := hup (hi - (lo + hi) / 2)
      k_extra "ks"
      · refine hret _ _ _ _ (by assumption) (by assumption) ⟨⟨_, congrArg (fun z => Value.int z _) ?_⟩, rfl⟩
        have e1 : hi = lo + 1 := nt_suc (by assumption)
        subst e1
        rw [show lo + 1 - lo = 1 from Nat.add_sub_cancel_left _ _, dvl_one n qs hhi, Int.toNat_natCast]
        simp [List.getD, List.getElem?_map]
        cases qs[lo]? <;> simp
      · have hlm : lo < (lo + hi) / 2 := nt_mid1 hlo (by assumption)
        have hmh : (lo + hi) / 2 < hi := nt_mid2 hlo
        generalize (lo + hi) / 2 = mid at *
        (k_dflt (refine' ClB.use (ih _ _ _ _ ?q1 ?q2 ?q3 ?q4) ?k0 ?k1 ?k2 ?k3 ?k4 ?k5 ?kK ?kd ?ku ?_; k_extra "clb_use"))
        case q1 => exact nt_m2 hf1 hlm hmh
        case q2 => exact hf3
        case q3 => exact hmh
        case q4 => exact hhi
        intro r nx h6 tk6 F6 N6 hR
        first | (revert hR; intro hx9; k_extra "xe2"; clear hx9; intro hx9; (first | (k_extra "xq2"; clear hx9; intro t6 e1) | obtain ⟨t6, e1⟩ := hx9); intro e2) | obtain ⟨⟨t6, e1⟩, e2⟩ := hR
        subst e1
        subst e2
        dsimp only
        k_extra "ks"
        (k_dflt (refine' ClB.use (ih _ _ _ _ ?q1 ?q2 ?q3 ?q4) ?k0 ?k1 ?k2 ?k3 ?k4 ?k5 ?kK ?kd ?ku ?_; k_extra "clb_use"))
        case q1 => exact nt_m1 hf1 hlm hmh
        case q2 => exact hf3
        case q3 => exact hlm
        case q4 => exact hmq
        intro r nx h7 tk7 F7 N7 hR
        first | (revert hR; intro hx9; k_extra "xe2"; clear hx9; intro hx9; (first | (k_extra "xq2"; clear hx9; intro t7 e1) | obtain ⟨t7, e1⟩ := hx9); intro e2) | obtain ⟨⟨t7, e1⟩, e2⟩ := hR
        subst e1
        subst e2
        dsimp only
        k_extra "ks"
        refine hret _ _ _ _ (by assumption) (by assumption) ⟨⟨_, congrArg (fun z => Value.int z _) ?_⟩, rfl⟩
        rw [dvl_split n qs (Nat.le_of_lt hlm) (Nat.le_of_lt hmh) hhi]
  intro inner
  have oT : TbM 58 98 4 "_digits2int.<locals>.inner" [(c', oc), (58, tabObj #[rawInt 98, rawInt 4, .ref c'])] := ⟨c', oc, vs, tq, rfl, hoc, hvs, hcP⟩
  have oO : Off [(c', oc), (58, tabObj #[rawInt 98, rawInt 4, .ref c'])] ((D, listOf us.toArray kk) :: news) := by
    intro p hp q hq
    simp only [List.mem_cons, List.not_mem_nil, or_false] at hp
    rcases hp with rfl | rfl
    · exact nc q hq
    · exact nP q hq
  k_extra "ks"
  · have hml : (qs.map fun q => ((q : Nat) : Int)).length = qs.length := List.length_map ..
    rename_i hpos
    rw [hml] at hpos
    rw [hml]
    (k_dflt (refine' ClB.use (inner qs.length _ _ 0 qs.length ?q1 ?q2 ?q3 ?q4) ?k0 ?k1 ?k2 ?k3 ?k4 ?k5 ?kK ?kd ?ku ?_; k_extra "clb_use"))
    case q1 => k_extra "li"
    case q2 => k_extra "li"
    case q3 => k_extra "li"
    case q4 => k_extra "li"
    intro r nx h6 tk6 F6 N6 hR
    first | (revert hR; intro hx9; k_extra "xe2"; clear hx9; intro hx9; (first | (k_extra "xq2"; clear hx9; intro t6 e1) | obtain ⟨t6, e1⟩ := hx9); intro e2) | obtain ⟨⟨t6, e1⟩, e2⟩ := hR
    subst e1
    subst e2
    rw [List.drop_zero, Nat.sub_zero, List.take_length]
    dsimp only
    k_extra "ks"
    exact hret _ _ _ _ (by assumption) (News.perm (by assumption) (by k_extra "psub")) ⟨_, _, rfl, rfl, oT, hsame, oO⟩
  · rename_i hpos _ _ _ _
    have hml : (qs.map fun q => ((q : Nat) : Int)).length = qs.length := List.length_map ..
    have hq : qs = [] := List.length_eq_zero_iff.mp (by k_extra "li")
    refine hret _ _ _ _ (by assumption) (News.perm (by assumption) (by k_extra "psub")) ⟨_, _, congrArg (fun z => Value.int z _) ?_, rfl, oT, hsame, oO⟩
    rw [hq]
    rfl
end
section
noncomputable def Tbs (own1 own2 news : CbLed) : Prop := Tb 51 83 4 "_int2digits.<locals>.inner" own1 ∧ Tb 58 98 4 "_digits2int.<locals>.inner" own2 ∧ Off own1 (own2 ++ news) ∧ Off own2 news
noncomputable def TbsM (own1 own2 news : CbLed) : Prop := TbM 51 83 4 "_int2digits.<locals>.inner" own1 ∧ TbM 58 98 4 "_digits2int.<locals>.inner" own2 ∧ Off own1 (own2 ++ news) ∧ Off own2 news
theorem TbsM.tbs {own1 own2 news : CbLed} (h : TbsM own1 own2 news) : Tbs own1 own2 news := ⟨Or.inr h.1, Or.inr h.2.1, h.2.2⟩
noncomputable def TbsR (own1 own2 own1' own2' news : CbLed) : Prop := TbsM own1' own2' news ∧ (TbM 51 83 4 "_int2digits.<locals>.inner" own1 → own1' = own1) ∧ (TbM 58 98 4 "_digits2int.<locals>.inner" own2 → own2' = own2)
abbrev CdH (b : Heap) : Prop := CodeHd b 55 51 ∧ CodeHd b 62 58
abbrev tup2 (q r : Int) (t1 t2 : Tok) : Obj := { cls := .type "tuple", data := .seq #[.int q t1, .int r t2] }
theorem divpos_c (w : World) (loose : List Str) (mean : ExcName → Option Value) (mg mb : Str → Option Value) : ∀ (own1 own2 news : CbLed) (a : Nat) (ta : Tok) (b : Nat) (tb : Tok), a < 2 ^ 40 → 0 < b → b < 2 ^ 40 → Tbs own1 own2 news →
   ClB CdH PySem.Challenge.rw_sr0059_02.row.prog w (K39 w.params) topProg loose mean mg mb 70 90 1500 (own1 ++ (own2 ++ news)) [.int (a : Int) ta, .int (b : Int) tb]
     (fun r nx => ∃ (T : Addr) (t1 t2 : Tok) (own1' own2' : CbLed), r = .ref T ∧ nx = (T, tup2 (a / b : Nat) (a % b : Nat) t1 t2) :: (own1' ++ (own2' ++ news)) ∧ TbsR own1 own2 own1' own2' news ∧ ∀ p ∈ own1' ++ (own2' ++ news), p.1 < T) := by
  k_fill
  intro own1 own2 news a ta b tb ha hb0 hb hT
  refine ClB.mk ?_
  intro dp un gd cn cs ca ccd cl outer A₀ base h₀ L m s Q E kP kB kF kX kN kT kcs kd ku hret
  first | (revert hT; intro hx9; k_extra "xe4"; clear hx9; intro hT1 hT2 hO1 hO2) | obtain ⟨hT1, hT2, hO1, hO2⟩ := hT
  have kP1 := kP.1
  have kP2 := kP.2
  have hbits : Builtin.Int.intBits (b : Int) ≤ 40 := intBits_le_iff.mpr (by simpa using hb)
  have hbb : b < 2 ^ Builtin.Int.intBits (b : Int) := by simpa using intBits_le_iff.mp (Nat.le_refl (Builtin.Int.intBits (b : Int)))
  have hn1 : 1 ≤ Builtin.Int.intBits (b : Int) := by
    false_or_by_contra
    have : Builtin.Int.intBits (b : Int) = 0 := by k_extra "li"
    rw [this] at hbb
    k_extra "li"
  have habits : Builtin.Int.intBits (a : Int) ≤ 40 := intBits_le_iff.mpr (by simpa using ha)
  refine wpAny_call ?_
  k_extra "enter"
  intro g L1 h1 FG F0 N B X T
  dsimp only
  refine noE ?_
  k_fold
  try k_gentoks
  have hx9 : Loc g L1 h1 [("b", .int (b : Int) tb), ("a", .int (a : Int) ta)] := loc F0 (by k_extra "kn_all")
  first | (k_extra "xe2"; clear hx9; intro r1 F) | obtain ⟨r1, F⟩ := hx9
  clear F0
  generalize hn : Builtin.Int.intBits (b : Int) = n at *
  refine seqQ (fun h => ∃ t, Loc g L1 h [("n", .int (n : Int) t), ("b", .int (b : Int) tb), ("a", .int (a : Int) ta)] ∧ News g L1 h (own1 ++ (own2 ++ news))) ?_ ?_
  · intro Qn hN hRt
    k_extra "ks"
    rw [hn] at *
    exact hN _ _ ⟨_, by k_extra "lo", by assumption⟩
  intro h2 tk2 hP
  first | (revert hP; intro hx9; k_extra "xe3"; clear hx9; intro t2 hx9; (first | (k_extra "xq2"; clear hx9; intro r2 F2) | obtain ⟨r2, F2⟩ := hx9); intro N2) | obtain ⟨t2, ⟨r2, F2⟩, N2⟩ := hP
  clear F N
  dsimp only
  refine seqQ (fun h => ∃ (t : Tok) (D : Addr) (us : List Value) (own1' : CbLed), Loc g L1 h [("a_digits", .ref D), ("n", .int (n : Int) t), ("b", .int (b : Int) tb)] ∧ News g L1 h ((D, listOf us.toArray 0) :: (own1' ++ (own2 ++ news))) ∧ (TbM 51 83 4 "_int2digits.<locals>.inner" own1' ∧ (TbM 51 83 4 "_int2digits.<locals>.inner" own1 → own1' = own1)) ∧ Off own1' (own2 ++ news) ∧ (∀ p ∈ own1' ++ (own2 ++ news), p.1 ≠ D) ∧ IntsAre us (dg n (nd n a) a)) ?_ ?_
  · intro Qn hN hRt
    k_extra "ks"
    (k_dflt (refine' ClB.use (i2d_c _ _ _ _ _ own1 (own2 ++ news) _ _ _ _ ?q1 ?q2 ?q3 ?q4 ?q5) ?k0 ?k1 ?k2 ?k3 ?k4 ?k5 ?kK ?kd ?ku ?_; k_extra "clb_use"))
    case q1 => exact ha
    case q2 => exact hn1
    case q3 => exact hbits
    case q4 => exact hT1
    case q5 => exact hO1
    intro r nx h3 tk3 F3 N3 hR
    first | (revert hR; intro hx9; k_extra "xe10"; clear hx9; intro D us own1' e1 e2 oT oTs oO oD oI) | obtain ⟨D, us, own1', e1, e2, oT, oTs, oO, oD, oI⟩ := hR
    subst e1
    subst e2
    dsimp only
    k_extra "ks"
    exact hN _ _ ⟨_, _, _, own1', by k_extra "lo", by assumption, ⟨oT, oTs⟩, oO, oD, oI⟩
  intro h3 tk3 hP
  first | (revert hP; intro hx9; k_extra "xe10"; clear hx9; intro t3 D us own1' hx9; (first | (k_extra "xq2"; clear hx9; intro r3 F3) | obtain ⟨r3, F3⟩ := hx9); intro N3 hx9; (first | (k_extra "xq2"; clear hx9; intro oT oTs) | obtain ⟨oT, oTs⟩ := hx9); intro oO oD oI) | obtain ⟨t3, D, us, own1', ⟨r3, F3⟩, N3, ⟨oT, oTs⟩, oO, oD, oI⟩ := hP
  clear F2 N2 hT1 hO1
  dsimp only
  refine seqQ (fun h => ∃ (t t' : Tok), Loc g L1 h [("r", .int ((0 : Nat) : Int) t'), ("a_digits", .ref D), ("n", .int (n : Int) t), ("b", .int (b : Int) tb)] ∧ News g L1 h ((D, listOf us.toArray 0) :: (own1' ++ (own2 ++ news)))) ?_ ?_
  · intro Qn hN hRt
    k_extra "ks"
    exact hN _ _ ⟨_, _, by k_extra "lo", by assumption⟩
  intro h4 tk4 hP
  first | (revert hP; intro hx9; k_extra "xe4"; clear hx9; intro t4 t4' hx9; (first | (k_extra "xq2"; clear hx9; intro r4 F4) | obtain ⟨r4, F4⟩ := hx9); intro N4) | obtain ⟨t4, t4', ⟨r4, F4⟩, N4⟩ := hP
  clear F3 N3
  dsimp only
  refine seqQ (fun h => ∃ (t t' : Tok) (G : Addr), Loc g L1 h [("q_digits", .ref G), ("r", .int ((0 : Nat) : Int) t'), ("a_digits", .ref D), ("n", .int (n : Int) t), ("b", .int (b : Int) tb)] ∧ News g L1 h ((G, listOf ([] : List Value).toArray 0) :: (D, listOf us.toArray 0) :: (own1' ++ (own2 ++ news))) ∧ D < G ∧ ∀ p ∈ own1' ++ (own2 ++ news), p.1 < G) ?_ ?_
  · intro Qn hN hRt
    k_extra "ks"
    rename_i lf _ _ _
    exact hN _ _ ⟨_, _, _, by k_extra "lo", by assumption, lf.1, allLt_mem lf.2⟩
  intro h5 tk5 hP
  first | (revert hP; intro hx9; k_extra "xe7"; clear hx9; intro t5 t5' G hx9; (first | (k_extra "xq2"; clear hx9; intro r5 F5) | obtain ⟨r5, F5⟩ := hx9); intro N5 lD lG) | obtain ⟨t5, t5', G, ⟨r5, F5⟩, N5, lD, lG⟩ := hP
  clear F4 N4
  dsimp only
  have hlen : us.length = nd n a := by rw [oI.length, dg_len]
  have hnd : n * nd n a ≤ 80 := by
    unfold nd
    have := Nat.div_mul_le_self (Builtin.Int.intBits (a : Int) + n - 1) n
    rw [Nat.mul_comm] at this
    k_extra "li"
  have hlen2 : nd n a ≤ 80 := by
    have : 1 * nd n a ≤ n * nd n a := Nat.mul_le_mul_right _ hn1
    k_extra "li"
  have hab := nd_bound (n := n) (a := a) hn1
  generalize hNN : nd n a = NN at *
  refine seqQ (fun h => ∃ (t t' : Tok) (us' : List Value) (qs : List Nat) (k : Nat), Loc g L1 h [("q_digits", .ref G), ("r", .int ((a % b : Nat) : Int) t'), ("n", .int (n : Int) t), ("b", .int (b : Int) tb)] ∧ News g L1 h ((G, listOf us'.toArray k) :: (own1' ++ (own2 ++ news))) ∧ qs.length = NN ∧ IntsAre us' (qs.map fun q => ((q : Nat) : Int)) ∧ dvl n qs.reverse = a / b ∧ ∀ q ∈ qs, q < 2 ^ n) ?_ ?_
  · intro Qn hN hRt
    k_extra "kfor"
    rename_i I h6 F6 N6 lI
    refine forRev (us := us) (kk := 0) (l := D) (I := I) (σ := List Value × List Nat × Nat × Nat × Tok) (fun c => (G, listOf c.1.toArray c.2.2.1) :: (own1' ++ (own2 ++ news))) (fun c => [("q_digits", .ref G), ("r", .int ((c.2.2.2.1 : Nat) : Int) c.2.2.2.2), ("n", .int (n : Int) t5), ("b", .int (b : Int) tb)])
      (fun i c => IntsAre c.1 (c.2.1.map fun q => ((q : Nat) : Int)) ∧ c.2.1.length = i ∧ c.2.2.2.1 = a / 2 ^ (n * (NN - i)) % b ∧ dvl n c.2.1.reverse = a / 2 ^ (n * (NN - i)) / b ∧ ∀ q ∈ c.2.1, q < 2 ^ n) ([], [], 0, 0, t5') rfl (News.perm N6 (by k_extra "psub")) (Nat.ne_of_lt lI.2.1) ?_ F6 (by k_extra "kn_all") ?_ ?_ ?_
    · intro q hq
      rcases List.mem_cons.mp hq with rfl | hq
      · exact ⟨Nat.ne_of_lt lI.1, Nat.ne_of_gt lD⟩
      · exact ⟨Nat.ne_of_lt (allLt_mem lI.2.2 q hq), oD q hq⟩
    · have e0 : a / 2 ^ (n * (NN - 0)) = 0 := Nat.div_eq_of_lt (by rw [Nat.sub_zero]; exact hab)
      refine ⟨.nil, rfl, ?_, ?_, by simp⟩
      · show 0 = _
        rw [e0, Nat.zero_mod]
      · show dvl n [] = _
        rw [e0, Nat.zero_div]
        rfl
    · intro hx9
      first | (k_extra "xq5"; clear hx9; intro us1 qs1 k1 rv tr1) | obtain ⟨us1, qs1, k1, rv, tr1⟩ := hx9
      intro i v rr h7 tk7 own hin hv hoff hx9
      first | (k_extra "xq5"; clear hx9; intro I1 hl1 hr1 hd1 hq1) | obtain ⟨I1, hl1, hr1, hd1, hq1⟩ := hx9
      intro F7 N7
      dsimp only at *
      have F7' : Fr g L1 h7 _ := F7
      have N7' : News g L1 h7 _ := N7
      clear F7 N7 F6 N6
      have hrb : rv < b := by rw [hr1]; exact Nat.mod_lt _ hb0
      have hrv : rv < 2 ^ 250 := Nat.lt_trans hrb (Nat.lt_of_lt_of_le hb (Nat.pow_le_pow_right (by decide) (by decide)))
      have hj : (dg n NN a)[us.length - 1 - i]? = some ((a / 2 ^ (n * (NN - 1 - i)) % 2 ^ n : Nat) : Int) := by
        rw [hlen]
        unfold dg
        rw [List.getElem?_map, List.getElem?_range (by k_extra "li")]
        rfl
      have hx9 := oI.get _ _ hj
      first | (k_extra "xe2"; clear hx9; intro tv hv2) | obtain ⟨tv, hv2⟩ := hx9
      rw [hv] at hv2
      have hv3 := Option.some.inj hv2
      subst hv3
      have hx9 := div_step (a := a) (b := b) (n := n) (N := NN) (i := i) hb0 (by k_extra "li")
      first | (k_extra "xe2"; clear hx9; intro st1 st2) | obtain ⟨st1, st2⟩ := hx9
      rw [← hr1] at st1 st2
      rw [← hd1] at st2
      have hdl : a / 2 ^ (n * (NN - 1 - i)) % 2 ^ n < 2 ^ n := Nat.mod_lt _ (Nat.pow_pos (by decide))
      generalize a / 2 ^ (n * (NN - 1 - i)) % 2 ^ n = dd at *
      have hdd := div_digit (b := b) hrb hdl
      have hbig : rv * 2 ^ n + dd < 2 ^ 200 := by
        have h1 : rv * 2 ^ n ≤ b * 2 ^ n := Nat.mul_le_mul_right _ (Nat.le_of_lt hrb)
        have h2 : b * 2 ^ n ≤ 2 ^ 40 * 2 ^ 40 := Nat.mul_le_mul (Nat.le_of_lt hb) (Nat.pow_le_pow_right (by decide) hbits)
        have h3 : 2 ^ n ≤ 2 ^ 40 := Nat.pow_le_pow_right (by decide) hbits
        have h4 : (2 : Nat) ^ 40 * 2 ^ 40 + 2 ^ 40 < 2 ^ 200 := by decide
        k_extra "li"
      have hus1 : us1.length ≤ 1000 := by rw [I1.length, List.length_map]; k_extra "li"
      k_extra "ks"
      (k_dflt (refine' Cl.use (div2_c _ _ _ _ _ _ _ _ _ _ _ _ ?q1 ?q2 ?q3) ?k1 ?k2 ?k3 ?k4 ?k5 ?kK ?kd ?ku ?_; k_extra "cl_use"))
      case q1 => exact hbig
      case q2 => exact hb0
      case q3 => exact Nat.lt_of_lt_of_le hb (Nat.pow_le_pow_right (by decide) (by decide))
      intro r nx h8 tk8 F8 N8 hR
      first | (revert hR; intro hx9; k_extra "xe6"; clear hx9; intro T u1 u2 e1 e2 lT) | obtain ⟨T, u1, u2, e1, e2, lT⟩ := hR
      subst e1
      subst e2
      have lT1 := ltN (lT _ (List.mem_append_left _ (.head _)))
      have lT2 : ∀ p ∈ own1' ++ (own2 ++ news), p.1 < T := fun p hp => lT p (List.mem_append_left _ (.tail _ hp))
      have lT3 : ∀ p ∈ own, p.1 < T := fun p hp => lT p (List.mem_append_right _ hp)
      have hoffG : ∀ p ∈ own, p.1 ≠ G := OwnOff.ne hoff (by simp)
      dsimp only at lT1 ⊢
      k_extra "ks"
      · refine turnEnd ⟨us1 ++ [Value.int (((rv * 2 ^ n + dd) / b : Nat) : Int) u1], qs1 ++ [(rv * 2 ^ n + dd) / b], k1 + 1, (rv * 2 ^ n + dd) % b, u2⟩ (by assumption) (News.perm (news' := ((G, listOf (us1 ++ [Value.int (((rv * 2 ^ n + dd) / b : Nat) : Int) u1]).toArray (k1 + 1)) :: (own1' ++ (own2 ++ news))) ++ own) (by assumption) (fun p hp => List.mem_cons_of_mem _ hp)) rfl (by simp) (by k_extra "kn_all") ⟨?_, ?_, st1, ?_, ?_⟩
        · rw [List.map_append]
          exact IntsAre.append I1 (.cons _ _ .nil)
        · simp [hl1]
        · rw [List.reverse_append, st2]
          rfl
        · intro q hq
          rcases List.mem_append.mp hq with hq | hq
          · exact hq1 q hq
          · rw [List.mem_singleton.mp hq]; exact hdd
    · intro hx9
      first | (k_extra "xq5"; clear hx9; intro us1 qs1 k1 rv tr1) | obtain ⟨us1, qs1, k1, rv, tr1⟩ := hx9
      intro rr h7 tk7 hx9
      first | (k_extra "xq5"; clear hx9; intro I1 hl1 hr1 hd1 hq1) | obtain ⟨I1, hl1, hr1, hd1, hq1⟩ := hx9
      intro F7 N7
      dsimp only at *
      rw [hlen, Nat.sub_self, Nat.mul_zero, Nat.pow_zero, Nat.div_one] at hr1 hd1
      subst hr1
      exact hN _ _ ⟨_, _, us1, qs1, _, by k_extra "lo", N7, by k_extra "li", I1, hd1, hq1⟩
  intro h6 tk6 hP
  first | (revert hP; intro hx9; k_extra "xe11"; clear hx9; intro t6 t6' us' qs k hx9; (first | (k_extra "xq2"; clear hx9; intro r6 F6) | obtain ⟨r6, F6⟩ := hx9); intro N6 hql Iq hqd hqb) | obtain ⟨t6, t6', us', qs, k, ⟨r6, F6⟩, N6, hql, Iq, hqd, hqb⟩ := hP
  clear F5 N5
  dsimp only
  have hus' : us'.length ≤ 1000 := by rw [Iq.length, List.length_map]; k_extra "li"
  refine seqQ (fun h => ∃ (t t' : Tok), Loc g L1 h [("q_digits", .ref G), ("r", .int ((a % b : Nat) : Int) t'), ("n", .int (n : Int) t), ("b", .int (b : Int) tb)] ∧ News g L1 h (own2 ++ ((G, listOf us'.reverse.toArray k) :: (own1' ++ news)))) ?_ ?_
  · intro Qn hN hRt
    k_extra "ks"
    exact hN _ _ ⟨_, _, by k_extra "lo", News.perm (by assumption) (by k_extra "psub")⟩
  intro h7 tk7 hP
  first | (revert hP; intro hx9; k_extra "xe4"; clear hx9; intro t7 t7' hx9; (first | (k_extra "xq2"; clear hx9; intro r7 F7) | obtain ⟨r7, F7⟩ := hx9); intro N7) | obtain ⟨t7, t7', ⟨r7, F7⟩, N7⟩ := hP
  clear F6 N6
  dsimp only
  have oO2 : Off own2 ((G, listOf us'.reverse.toArray k) :: (own1' ++ news)) := by
    intro p hp q hq
    rcases List.mem_cons.mp hq with rfl | hq
    · exact Nat.ne_of_gt (lG p (List.mem_append_right _ (List.mem_append_left _ hp)))
    · rcases List.mem_append.mp hq with hq | hq
      · exact (oO q hq p (List.mem_append_left _ hp)).symm
      · exact hO2 p hp q hq
  k_extra "ks"
  (k_dflt (refine' ClB.use (d2i_c _ _ _ _ _ own2 (own1' ++ news) G us'.reverse k qs.reverse n _ ?q1 ?q2 ?q3 ?q4 ?q5 ?q6 ?q7) ?k0 ?k1 ?k2 ?k3 ?k4 ?k5 ?kK ?kd ?ku ?_; k_extra "clb_use"))
  case q1 => exact hn1
  case q2 => exact hbits
  case q3 => rw [List.length_reverse, hql]; exact hnd
  case q4 => exact fun q hq => hqb q (List.mem_reverse.mp hq)
  case q5 => rw [List.map_reverse]; exact IntsAre.reverse Iq
  case q6 => exact hT2
  case q7 => exact oO2
  intro r nx h8 tk8 F8 N8 hR
  first | (revert hR; intro hx9; k_extra "xe7"; clear hx9; intro t8 own2' e1 e2 oT2 oTs2 oO2') | obtain ⟨t8, own2', e1, e2, oT2, oTs2, oO2'⟩ := hR
  subst e1
  subst e2
  rw [hqd]
  dsimp only
  replace N8 := News.perm N8 (news' := own1' ++ (own2' ++ news)) (by k_extra "psub")
  k_extra "ks"
  refine hret _ _ _ _ (by assumption) (by assumption) ⟨_, _, _, own1', own2', rfl, rfl, ⟨⟨oT, oT2, ?_, fun p hp q hq => oO2' p hp q (.tail _ (List.mem_append_right _ hq))⟩, oTs, oTs2⟩, by assumption⟩
  intro p hp q hq
  rcases List.mem_append.mp hq with hq | hq
  · exact (oO2' q hq p (.tail _ (List.mem_append_left _ hp))).symm
  · exact oO p hp q (List.mem_append_right _ hq)
end
section
theorem idm0_c (w : World) (loose : List Str) (mean : ExcName → Option Value) (mg mb : Str → Option Value) : ∀ (own1 own2 news : CbLed) (a : Nat) (ta : Tok) (b : Nat) (tb : Tok), a < 2 ^ 40 → 0 < b → b < 2 ^ 40 → Tbs own1 own2 news →
   ClB CdH PySem.Challenge.rw_sr0059_02.row.prog w (K39 w.params) topProg loose mean mg mb 77 92 1600 (own1 ++ (own2 ++ news)) [.int (a : Int) ta, .int (b : Int) tb]
     (fun r nx => ∃ (T : Addr) (t1 t2 : Tok) (own1' own2' : CbLed), r = .ref T ∧ nx = (T, tup2 (a / b : Nat) (a % b : Nat) t1 t2) :: (own1' ++ (own2' ++ news)) ∧ TbsR own1 own2 own1' own2' news ∧ ∀ p ∈ own1' ++ (own2' ++ news), p.1 < T) := by
  k_fill
  intro own1 own2 news a ta b tb ha hb0 hb hT
  refine ClB.mk ?_
  intro dp un gd cn cs ca ccd cl outer A₀ base h₀ L m s Q E kP kB kF kX kN kT kcs kd ku hret
  refine wpAny_call ?_
  k_extra "enter"
  intro g L1 h1 FG F0 N B X T
  dsimp only
  refine noE ?_
  k_fold
  try k_gentoks
  have hx9 : Loc g L1 h1 [("b", .int (b : Int) tb), ("a", .int (a : Int) ta)] := loc F0 (by k_extra "kn_all")
  first | (k_extra "xe2"; clear hx9; intro r1 F) | obtain ⟨r1, F⟩ := hx9
  clear F0
  k_extra "ks"
  · exfalso; k_extra "li"
  (k_dflt (refine' ClB.use (divpos_c _ _ _ _ _ own1 own2 news _ _ _ _ ?q1 ?q2 ?q3 ?q4) ?k0 ?k1 ?k2 ?k3 ?k4 ?k5 ?kK ?kd ?ku ?_; k_extra "clb_use"))
  case q1 => exact ha
  case q2 => exact hb0
  case q3 => exact hb
  case q4 => exact hT
  intro r nx h8 tk8 F8 N8 hR
  first | (revert hR; intro hx9; k_extra "xe9"; clear hx9; intro T t1 t2 o1 o2 e1 e2 hT' lT) | obtain ⟨T, t1, t2, o1, o2, e1, e2, hT', lT⟩ := hR
  subst e1
  subst e2
  dsimp only
  k_extra "ks"
  exact hret _ _ _ _ (by assumption) (by assumption) ⟨_, _, _, _, _, rfl, rfl, hT', lT⟩
theorem neg_div {k b : Nat} (hb : 0 < b) : (-(k : Int) - 1) / (b : Int) = -((k / b : Nat) : Int) - 1 ∧ (-(k : Int) - 1) % (b : Int) = (b : Int) - ((k % b : Nat) : Int) - 1 := by
  refine (Int.ediv_emod_unique (by k_extra "li")).mpr ⟨?_, ?_, ?_⟩
  · have h := Nat.div_add_mod k b
    have h' : ((b * (k / b) + k % b : Nat) : Int) = (k : Int) := by rw [h]
    rw [Int.natCast_add, Int.natCast_mul] at h'
    rw [Int.mul_sub, Int.mul_one, Int.mul_neg]
    k_extra "li"
  · have := Nat.mod_lt k hb
    k_extra "li"
  · k_extra "li"
theorem idm1_c (w : World) (loose : List Str) (mean : ExcName → Option Value) (mg mb : Str → Option Value) : ∀ (own1 own2 news : CbLed) (k : Nat) (a : Int) (ta : Tok) (b : Nat) (tb : Tok), a = -(k : Int) - 1 → k < 2 ^ 40 → 0 < b → b < 2 ^ 40 → Tbs own1 own2 news →
   ClB CdH PySem.Challenge.rw_sr0059_02.row.prog w (K39 w.params) topProg loose mean mg mb 77 94 1700 (own1 ++ (own2 ++ news)) [.int a ta, .int (b : Int) tb]
     (fun r nx => ∃ (T : Addr) (t1 t2 : Tok) (own1' own2' : CbLed), r = .ref T ∧ nx = (T, tup2 (a / b) (a % b) t1 t2) :: (own1' ++ (own2' ++ news)) ∧ TbsR own1 own2 own1' own2' news ∧ ∀ p ∈ own1' ++ (own2' ++ news), p.1 < T) := by
  k_fill
  intro own1 own2 news k a ta b tb hk ha hb0 hb hT
  refine ClB.mk ?_
  intro dp un gd cn cs ca ccd cl outer A₀ base h₀ L m s Q E kP kB kF kX kN kT kcs kd ku hret
  refine wpAny_call ?_
  k_extra "enter"
  intro g L1 h1 FG F0 N B X T
  dsimp only
  refine noE ?_
  k_fold
  try k_gentoks
  have hx9 : Loc g L1 h1 [("b", .int (b : Int) tb), ("a", .int a ta)] := loc F0 (by k_extra "kn_all")
  first | (k_extra "xe2"; clear hx9; intro r1 F) | obtain ⟨r1, F⟩ := hx9
  clear F0
  k_extra "ks"
  · exfalso; k_extra "li"
  have e : Builtin.bitNot a = (k : Int) := by
    show -a - 1 = _
    k_extra "li"
  rw [e]
  (k_dflt (refine' ClB.use (idm0_c _ _ _ _ _ own1 own2 news _ _ _ _ ?q1 ?q2 ?q3 ?q4) ?k0 ?k1 ?k2 ?k3 ?k4 ?k5 ?kK ?kd ?ku ?_; k_extra "clb_use"))
  case q1 => exact ha
  case q2 => exact hb0
  case q3 => exact hb
  case q4 => exact hT
  intro r nx h8 tk8 F8 N8 hR
  first | (revert hR; intro hx9; k_extra "xe9"; clear hx9; intro T t1 t2 own1' own2' e1 e2 hT' lT) | obtain ⟨T, t1, t2, own1', own2', e1, e2, hT', lT⟩ := hR
  subst e1
  subst e2
  dsimp only
  k_extra "ks"
  rename_i hh FF NN ll kF' kN' TT XX
  have hx9 := neg_div (k := k) hb0
  first | (k_extra "xe2"; clear hx9; intro f1 f2) | obtain ⟨f1, f2⟩ := hx9
  have e1 : Builtin.bitNot ((k / b : Nat) : Int) = a / (b : Int) := by rw [hk, f1]; rfl
  have e2 : (b : Int) + Builtin.bitNot ((k % b : Nat) : Int) = a % (b : Int) := by
    rw [hk, f2]
    show (b : Int) + (-((k % b : Nat) : Int) - 1) = _
    k_extra "li"
  rw [e1, e2] at kN'
  exact hret _ _ _ _ (by assumption) (News.perm kN' (by k_extra "psub")) ⟨_, _, _, own1', own2', rfl, rfl, hT', allLt_mem ll.2⟩
theorem ClB.up {Pb : Heap → Prop} {prog : Program} {w : World} {K : Frag} {p : Program} {loose : List Str} {mean : ExcName → Option Value} {mg mb : Str → Option Value} {f : Addr} {d u d' u' : Nat} {news : List (Addr × Obj)} {vs : List Value} {R : Value → List (Addr × Obj) → Prop} (C : ClB Pb prog w K p loose mean mg mb f d u news vs R) (hd : d ≤ d') (hu : u ≤ u') : ClB Pb prog w K p loose mean mg mb f d' u' news vs R :=
  fun dp un gd cn cs ca ccd cl outer A₀ base h₀ L m s Q E kP kB kF kX kN kT kcs kd ku kR => C dp un gd cn cs ca ccd cl outer A₀ base h₀ L m s Q E kP kB kF kX kN kT kcs (nt_c1 kd hd) (nt_c1 ku hu) kR
theorem idmP_c (w : World) (loose : List Str) (mean : ExcName → Option Value) (mg mb : Str → Option Value) : ∀ (own1 own2 news : CbLed) (a : Int) (ta : Tok) (b : Nat) (tb : Tok), -(2 ^ 40) < a → a < 2 ^ 40 → 0 < b → b < 2 ^ 40 → Tbs own1 own2 news →
   ClB CdH PySem.Challenge.rw_sr0059_02.row.prog w (K39 w.params) topProg loose mean mg mb 77 94 1700 (own1 ++ (own2 ++ news)) [.int a ta, .int (b : Int) tb]
     (fun r nx => ∃ (T : Addr) (t1 t2 : Tok) (own1' own2' : CbLed), r = .ref T ∧ nx = (T, tup2 (a / b) (a % b) t1 t2) :: (own1' ++ (own2' ++ news)) ∧ TbsR own1 own2 own1' own2' news ∧ ∀ p ∈ own1' ++ (own2' ++ news), p.1 < T) := by
  intro own1 own2 news a ta b tb h1 h2 h3 h4 hT
  by_cases h0 : 0 ≤ a
  · have hx9 := Int.eq_ofNat_of_zero_le h0
    first | (k_extra "xe2"; clear hx9; intro n eq9; subst eq9) | obtain ⟨n, rfl⟩ := hx9
    exact ClB.up (idm0_c w loose mean mg mb own1 own2 news n ta b tb (by k_extra "li") h3 h4 hT) (by decide) (by decide)
  · exact idm1_c w loose mean mg mb own1 own2 news (-a - 1).toNat a ta b tb (by k_extra "li") (by k_extra "li") h3 h4 hT
end
section
noncomputable def lawBody : List Stmt := fdB (pwS 23)
noncomputable def lawScope : Scope := fdS (pwS 23)
noncomputable def lawStmt (i : Nat) : Stmt := (lawBody[i]?).getD (.Pass ⟨0, 0, 0, 0⟩)
noncomputable def forBody : Stmt → List Stmt | .For _ _ b .. => b | _ => []
noncomputable def turnStmt (j i : Nat) : Stmt := ((forBody (lawStmt j))[i]?).getD (.Pass ⟨0, 0, 0, 0⟩)
noncomputable abbrev LEnv (L fa : Addr) (cd : Value) : Env := envOfC (Str.ofString "law") lawScope L fa cd
structure LawCtx (w : World) (loose : List Str) (mean : ExcName → Option Value) (mg mb : Str → Option Value) (g : Heap) (L l : Addr) (vs : List Value) (ns : List Int) : Prop where
  X : (K39 w.params).In g
  T : Top topProg loose mean mg mb g
  B : Below callerA g [] g
  k1 : CodeHd g 62 58
  k2 : CodeHd g 55 51
  k3 : CodeHd g 123 119
  k4 : CodeHd g 130 126
  hI : IntsAre vs ns
  lifted : g.IsList l vs.toArray
  hns : ns.length ≤ 63
  l0 : 58 < L ∧ 51 < L ∧ 119 < L ∧ 126 < L
def Blk (w : World) (g : Heap) (L fa : Addr) (cd : Value) (st : Stmt) (locs : List (Str × Value)) (led : CbLed) (Post : (Heap → Prop) → Prop) : Prop :=
  ∀ (s : Shared) (Q : Flow → Shared → Prop), AllBare s.gens → Loc g L s.heap locs → News g L s.heap led → (∀ (g' : Array GenState) (d' : Drawn) (t' : Nat) (o' : OsState), AllBare g' → o' = s.os → Post fun h' => Q .next ⟨h', g', d', t', o'⟩) →
    wpAny (model PySem.Challenge.rw_sr0059_02.row.prog w) (callerA.deeper (LEnv L fa cd)) (exec st (LEnv L fa cd)) Q NoE s
theorem blk_mk {w : World} {g : Heap} {L fa : Addr} {cd : Value} {st st' : Stmt} {locs : List (Str × Value)} {led : CbLed} {Post : (Heap → Prop) → Prop} (e : st = st')
    (h : ∀ (h0 : Heap) (gg : Array GenState) (dr : Drawn) (tk : Nat) (oo : OsState) (Q : Flow → Shared → Prop), AllBare gg → Loc g L h0 locs → News g L h0 led → (∀ (g' : Array GenState) (d' : Drawn) (t' : Nat) (o' : OsState), AllBare g' → o' = oo → Post fun h' => Q .next ⟨h', g', d', t', o'⟩) →
      wpAny (model PySem.Challenge.rw_sr0059_02.row.prog w) (callerA.deeper (envOfC (Str.ofString "law") lawScope L fa cd)) (exec st' (envOfC (Str.ofString "law") lawScope L fa cd)) Q NoE ⟨h0, gg, dr, tk, oo⟩) : Blk w g L fa cd st locs led Post := by
  subst e
  rintro ⟨h0, gg, dr, tk, oo⟩ Q a b c d
  exact h h0 gg dr tk oo Q a b c d
theorem end_mk {w : World} {g : Heap} {L fa : Addr} {cd : Value} {st st' : Stmt} {locs : List (Str × Value)} {led : CbLed} {R : OsState → Flow → Shared → Prop} (e : st = st')
    (h : ∀ (h0 : Heap) (gg : Array GenState) (dr : Drawn) (tk : Nat) (oo : OsState), AllBare gg → Loc g L h0 locs → News g L h0 led →
      wpAny (model PySem.Challenge.rw_sr0059_02.row.prog w) (callerA.deeper (envOfC (Str.ofString "law") lawScope L fa cd)) (execs [st'] (envOfC (Str.ofString "law") lawScope L fa cd)) (R oo) NoE ⟨h0, gg, dr, tk, oo⟩) :
    ∀ (s : Shared), AllBare s.gens → Loc g L s.heap locs → News g L s.heap led → wpAny (model PySem.Challenge.rw_sr0059_02.row.prog w) (callerA.deeper (LEnv L fa cd)) (execs [st] (LEnv L fa cd)) (R s.os) NoE s := by
  subst e
  rintro ⟨h0, gg, dr, tk, oo⟩ a b c
  exact h h0 gg dr tk oo a b c
theorem blk_cons {w : World} {g : Heap} {L fa : Addr} {cd : Value} {st : Stmt} {rest : List Stmt} {locs : List (Str × Value)} {led : CbLed} {Post : (Heap → Prop) → Prop} {Q : Flow → Shared → Prop} {s : Shared} (b : Blk w g L fa cd st locs led Post) (hg : AllBare s.gens) (hl : Loc g L s.heap locs) (hn : News g L s.heap led)
    (k : ∀ (g' : Array GenState) (d' : Drawn) (t' : Nat), AllBare g' → Post fun h' => wpAny (model PySem.Challenge.rw_sr0059_02.row.prog w) (callerA.deeper (LEnv L fa cd)) (execs rest (LEnv L fa cd)) Q NoE ⟨h', g', d', t', s.os⟩) :
    wpAny (model PySem.Challenge.rw_sr0059_02.row.prog w) (callerA.deeper (LEnv L fa cd)) (execs (st :: rest) (LEnv L fa cd)) Q NoE s :=
  wpAny_execs_cons (b s _ hg hl hn fun g' d' t' o' h e => by subst e; exact k g' d' t' h)
def LawEnd (g : Heap) (tabs : List (Addr × Addr)) (os : OsState) (f : Flow) (s' : Shared) : Prop :=
  f = .ret (.bool true) ∧ (∀ b o, g.get? b = some o → s'.heap.get? b = some o) ∧ s'.os = os ∧ GrownAll tabs s'.heap ∧ AllBare s'.gens
end
section
open Builtin Builtin.ObjectAttr Builtin.Getset_descriptor
structure MkL (M : Model) (h : Heap) (C : Addr) : Prop where
  obj : ∃ oc od cd sl, h.get? C = some ⟨oc, od, .cls cd, sl⟩ ∧ cd.hasDel = false ∧ cd.mro.isEmpty = false
  made : Looks M h (Bind.madeBy (.ref C)) (some "list.__new__")
  base : Looks M h (Bind.staticBase (.ref C)) (.ref C)
  self : Looks M h (isSubtype (.ref C) (.ref C)) true
  lst : Looks M h (isSubtype (.ref C) (.type "list")) true
  call : Looks M h (specialOf (.ref C) "__call__") (some (.builtin "type.__call__"))
  typ : Looks M h (isInstance (.ref C) (.type "type")) true
noncomputable def mklIn (K : Frag) (C : Addr) : Bool := match K.lookup C with
  | some ⟨_, _, .cls cd, sl⟩ => !cd.hasDel && (sl.toList[4]?).join == some (.builtin "list.__new__") && !cd.mro.isEmpty && cd.mro.contains (.ref C) && cd.mro.contains (.type "list") &&
      specialIn K (.ref C) "__call__" == some (some (.builtin "type.__call__")) && instIn K (.ref C) (.type "type") == some true
  | _ => false
theorem mkl_of {K : Frag} {M : Model} {h : Heap} (X : K.In h) {C : Addr} (e : mklIn K C = true) : MkL M h C := by
  unfold mklIn at e
  split at e
  · rename_i oc od cd sl ho
    simp only [Bool.and_eq_true, Bool.not_eq_true', beq_iff_eq] at e
    first | (revert e; intro hx9; k_extra "xe2"; clear hx9; intro hx9; (first | (k_extra "xq2"; clear hx9; intro hx9; (first | (k_extra "xq2"; clear hx9; intro hx9; (first | (k_extra "xq2"; clear hx9; intro hx9; (first | (k_extra "xq2"; clear hx9; intro hx9; (first | (k_extra "xq2"; clear hx9; intro e2 e3) | obtain ⟨e2, e3⟩ := hx9); intro e4) | obtain ⟨⟨e2, e3⟩, e4⟩ := hx9); intro e5) | obtain ⟨⟨⟨e2, e3⟩, e4⟩, e5⟩ := hx9); intro e6) | obtain ⟨⟨⟨⟨e2, e3⟩, e4⟩, e5⟩, e6⟩ := hx9); intro e7) | obtain ⟨⟨⟨⟨⟨e2, e3⟩, e4⟩, e5⟩, e6⟩, e7⟩ := hx9); intro e8) | obtain ⟨⟨⟨⟨⟨⟨e2, e3⟩, e4⟩, e5⟩, e6⟩, e7⟩, e8⟩ := e
    have hc : clsIn K C = some cd := by unfold clsIn; rw [ho]
    have hm : Looks M h (mroOf (.ref C)) cd.mro := (looks_clsIn X hc).andThen .now
    obtain ⟨c, l, hl⟩ : ∃ c l, cd.mro = c :: l := by
      cases q : cd.mro with
      | nil => rw [q] at e4; cases e4
      | cons c l => exact ⟨c, l, rfl⟩
    have made : Looks M h (Bind.madeBy (.ref C)) (some "list.__new__") := by
      intro A Q E s k q
      unfold Bind.madeBy
      refine wpAny_bind (hm A _ E s k ?_)
      rw [hl, List.forIn_cons]
      refine wpAny_bind (wpAny_bind (wpAny_bind (wpAny_bind (wpAny_loadPart (k _ _ (X _ _ ho)) (wpAny_pure ?_)))))
      dsimp only
      rw [← Array.getElem?_toList, e3]
      exact wpAny_pure (wpAny_pure (wpAny_pure q))
    refine ⟨⟨oc, od, cd, sl, X _ _ ho, e2, e4⟩, made, ?_, looks_mroIn X ?_, looks_mroIn X ?_, looks_specialIn X e7, looks_instIn X e8⟩
    · intro A Q E s k q
      unfold Bind.staticBase
      refine wpAny_bind (hm A _ E s k ?_)
      rw [hl, List.forIn_cons]
      exact wpAny_bind (wpAny_bind (wpAny_bind (made A _ E s k (wpAny_pure (wpAny_pure (wpAny_pure q))))))
    · unfold mroIn; rw [hc, Option.bind_some, if_neg (by rw [e4]; decide), e5]
    · unfold mroIn; rw [hc, Option.bind_some, if_neg (by rw [e4]; decide), e6]
  · cases e
abbrev lstObj (C dx : Addr) (its : Array Value) (n : Nat) : Obj := { cls := .ref C, dict := some dx, data := .seq its n }
theorem ln_kind : builtinKind "list.__new__" = some .builtinFn := by decide +kernel
theorem ln_split : splitId "list.__new__" = some ("list", "__new__") := by decide +kernel
theorem ln_quiet : plainId "list.__new__" = true := by decide +kernel
noncomputable def lnSig : Manifest.Signature := (Manifest.signature? "list.__new__").getD ⟨.hand, "", "", .none, []⟩
theorem ln_sig : Manifest.signature? "list.__new__" = some lnSig := by unfold lnSig; kernel_rfl
theorem ln_args1 (C : Addr) (a : Value) : Bind.checkArgs "list.__new__" lnSig ⟨[.ref C, a], []⟩ = pure () := by unfold lnSig; kernel_rfl
theorem ln_args0 (C : Addr) : Bind.checkArgs "list.__new__" lnSig ⟨[.ref C], []⟩ = pure () := by unfold lnSig; kernel_rfl
section
variable {prog : Program} {w : World} {A : Around} {K : Frag} {C : Addr} {R : Result → Shared → Prop} {h : Heap} {g : Array GenState} {d : Drawn} {t : Nat} {os : OsState}
theorem newL {rest : List Value} (Y : MkL (model prog w) h C) (ha : Bind.checkArgs "list.__new__" lnSig ⟨.ref C :: rest, []⟩ = pure ())
    (hq : R (.ok (.ret (.ref (h.objs.size + 1)))) ⟨(h.push emptyDict).push (lstObj C h.objs.size #[] 0), g, d, t, os⟩) :
    codeAny (model prog w) A (.call (.builtin "list.__new__") ⟨.ref C :: rest, []⟩) R ⟨h, g, d, t, os⟩ := by
  first | (revert Y; intro hx9; k_extra "xe7"; clear hx9; intro hx9; (first | (k_extra "xq7"; clear hx9; intro oc od cd sl hC e2 e4) | obtain ⟨oc, od, cd, sl, hC, e2, e4⟩ := hx9); intro made base self lst call typ) | obtain ⟨⟨oc, od, cd, sl, hC, e2, e4⟩, made, base, self, lst, call, typ⟩ := Y
  refine codeAny_call_builtin_code (plainId_quiet ln_quiet _) ?_
  simp only [checkBuiltinCall, ln_kind, ln_split, ln_sig, ha]
  repeat (first | simp only [bne_self_eq_false, beq_self_eq_true, Bool.not_true, if_true, Bool.false_eq_true, if_false] | lk)
  refine codeAny_builtin_stack PySem.F.entry_list_new rfl fun p st => ?_
  have hown := owner_list_new
  simp only [hown]
  repeat (first | simp only [bne_self_eq_false, beq_self_eq_true, Bool.not_true, if_true, Bool.false_eq_true, if_false] | lk)
  refine wpAny_load (Heap.get?_push_of_some _ (Heap.get?_push_of_some _ hC)) (wpAny_pure ?_)
  try dsimp only
  rw [e2, if_neg (by decide)]
  refine wpAny_pure (wpAny_pure ?_)
  show R _ _
  rw [Heap.size_push]
  exact hq
end
end
section
open Builtin Builtin.ObjectAttr Builtin.List
section
variable {prog : Program} {w : World} {A : Around} {E : Value → Shared → Prop} {s : Shared}
theorem check_meth {M : Model} {A : Around} {E : Value → Shared → Prop} {s : Shared} {i owner n : String} {self : Value} {rest : List Value} {kw : List (Str × Value)} {Q : Unit → Shared → Prop}
    (hk : builtinKind i = some .method) (hs : splitId i = some (owner, n)) (hi : Looks M s.heap (isInstance self (.type owner)) true) (ha : argsOk i ⟨self :: rest, kw⟩) (q : Q () s) :
    wpAny M A (checkBuiltinCall i ⟨self :: rest, kw⟩) Q E s := by
  simp only [checkBuiltinCall, hk, hs]
  refine wpAny_bind (hi.here ?_)
  simp only [Bool.not_true, Bool.false_eq_true, if_false]
  cases hsig : Manifest.signature? i with
  | none => exact wpAny_pure q
  | some sig =>
    simp only [argsOk, hsig] at ha
    have h2 : Bind.checkArgs i sig ⟨self :: rest, kw⟩ = pure () := ha
    show wpAny M A (Bind.checkArgs i sig ⟨self :: rest, kw⟩) Q E s
    rw [h2]; exact wpAny_pure q
theorem sub_call {i owner n : String} {b : Builtin} {self : Value} {rest : List Value} {Q : Value → Shared → Prop} (hk : builtinKind i = some .method ∨ builtinKind i = some .slot) (hs : splitId i = some (owner, n)) (hp : plainId i = true)
    (hb : entryFor table i = some b) (hi : Looks (model prog w) s.heap (isInstance self (.type owner)) true) (ha : argsOk i ⟨self :: rest, []⟩)
    (hc : wpAny (model prog w) A.in1 (b ⟨self :: rest, []⟩) (fun fin s' => ∃ v, fin = .done (.ret v) ∧ Q v s') E s) :
    wpAny (model prog w) A (call (.builtin i) (self :: rest)) Q E s := by
  refine wpAny_call (codeAny_call_builtin hp hb ?_)
  have z : wpAny (model prog w) A.in1 (b ⟨self :: rest, []⟩) (fun fin s' => match fin with
      | .done f => (match (Except.ok f : Result) with | .ok (.ret v) => Q v s' | .ok _ => False | .error e => E e s')
      | .again c' => c'.quiet = true ∧ codeAny (model prog w) A c' (fun r s' => match r with | .ok (.ret v) => Q v s' | .ok _ => False | .error e => E e s') s') E s :=
    wpAny_mono hc (fun fin s' h' => by obtain ⟨v, rfl, hv⟩ := h'; exact hv) fun _ _ h' => h'
  rcases hk with hk | hk
  · exact check_meth hk hs hi ha z
  · exact check_slot hk hs hi ha z
end
theorem inst_list {K : Frag} {M : Model} {h : Heap} (X : K.In h) {x C dx : Addr} {its : Array Value} {n : Nat} (hx : h.get? x = some (lstObj C dx its n)) (hC : mroIn K C (.type "list") = some true) :
    Looks M h (isInstance (.ref x) (.type "list")) true :=
  ((Looks.ld hx).andThen .now).andThen (looks_mroIn X hC)
theorem la_kind : builtinKind "list.append" = some .method := by decide +kernel
theorem la_split : splitId "list.append" = some ("list", "append") := by decide +kernel
theorem la_plain : plainId "list.append" = true := by decide +kernel
theorem lp_kind : builtinKind "list.pop" = some .method := by decide +kernel
theorem lp_plain : plainId "list.pop" = true := by decide +kernel
theorem ll_plain : plainId "list.__len__" = true := by decide +kernel
theorem li_kind : builtinKind "list.__iter__" = some .slot := by decide +kernel
theorem li_split : splitId "list.__iter__" = some ("list", "__iter__") := by decide +kernel
theorem li_plain : plainId "list.__iter__" = true := by decide +kernel
theorem l0_plain : plainId "list.__init__" = true := by decide +kernel
theorem li_args (a : Value) : argsOk "list.__iter__" ⟨[a], []⟩ := by unfold argsOk; kernel_rfl
theorem e_len : entryFor table "list.__len__" = some Builtin.«list.__len__» := entryFor_of_tree (by kernel_rfl)
theorem e_iter : entryFor table "list.__iter__" = some Builtin.«list.__iter__» := entryFor_of_tree (by kernel_rfl)
theorem e_pop : entryFor table "list.pop" = some Builtin.«list.pop» := entryFor_of_tree (by kernel_rfl)
theorem e_init : entryFor table "list.__init__" = some Builtin.«list.__init__» := entryFor_of_tree (by kernel_rfl)
section
variable {prog : Program} {w : World} {A : Around} {E : Value → Shared → Prop} {K : Frag} {x C dx : Addr} {its : List Value} {n : Nat} {h : Heap} {g : Array GenState} {d : Drawn} {t : Nat} {os : OsState} {Q : Value → Shared → Prop}
theorem upd_get {h : Heap} {x C dx : Addr} {its its' : Array Value} {n : Nat} {f : Array Value → Array Value} (hx : h.get? x = some (lstObj C dx its n)) (e : f its = its') :
    ∃ n', (h.update x (Obj.mapSeq f)).get? x = some (lstObj C dx its' n') := by
  subst e
  have hx9 := Obj.data_mapSeq (o := lstObj C dx its n) rfl f
  first | (k_extra "xe2"; clear hx9; intro n' hn) | obtain ⟨n', hn⟩ := hx9
  refine ⟨n', ?_⟩
  rw [Heap.get?_update_self _ hx (Obj.isFreed_of_seq hn)]
  rcases q : Obj.mapSeq f (lstObj C dx its n) with ⟨c, di, da, sl⟩
  rw [q] at hn
  cases hn
  have e1 : (Obj.mapSeq f (lstObj C dx its n)).cls = .ref C := rfl
  have e2 : (Obj.mapSeq f (lstObj C dx its n)).dict = some dx := rfl
  have e3 : (Obj.mapSeq f (lstObj C dx its n)).slots = #[] := rfl
  rw [q] at e1 e2 e3
  cases e1; cases e2; cases e3
  rfl
theorem append_L (X : K.In h) (hx : h.get? x = some (lstObj C dx its.toArray n)) (hC : mroIn K C (.type "list") = some true) (v : Value) (hsz : its.length ≤ 1000)
    (hq : ∀ h' n', h'.get? x = some (lstObj C dx (its ++ [v]).toArray n') → Heap.SameBut x h h' → Q .none ⟨h', g, d, t, os⟩) :
    wpAny (model prog w) A (call (.builtin "list.append") [.ref x, v]) Q E ⟨h, g, d, t, os⟩ := by
  refine sub_call (.inl la_kind) la_split la_plain entry_list_append (inst_list X hx hC) (args_list_append _ _) ?_
  show wpAny _ _ (updateSeq x (·.push v) >>= fun _ => ret .none) _ _ _
  have hx9 := upd_get (f := (·.push v)) hx (its' := (its ++ [v]).toArray) (by simp)
  first | (k_extra "xe2"; clear hx9; intro n' hn) | obtain ⟨n', hn⟩ := hx9
  refine wpAny_bind (wpAny_updateSeq hx rfl (wpAny_pure ⟨.none, rfl, hq _ n' hn (Heap.SameBut.update ..)⟩) (by rw [List.size_toArray, sizeLine_eq]; k_extra "li") (by simp [sizeLine_eq]; k_extra "li"))
theorem len_B (hx : h.get? x = some (lstObj C dx its.toArray n))
    (hq : ∀ t', Q (.int (its.length : Nat) t) ⟨h, g, d, t', os⟩) :
    wpAny (model prog w) A (Builtin.«list.__len__» ⟨[.ref x], []⟩) (fun fin s' => ∃ v, fin = .done (.ret v) ∧ Q v s') E ⟨h, g, d, t, os⟩ := by
  unfold Builtin.«list.__len__»
  repeat lk
  exact ⟨_, rfl, by rw [List.size_toArray]; exact hq _⟩
theorem iter_L (X : K.In h) (hx : h.get? x = some (lstObj C dx its.toArray n)) (hC : mroIn K C (.type "list") = some true)
    (hq : Q (.ref h.objs.size) ⟨h.push { cls := .type "list_iterator", data := .fields #[.ref x, .int 0 0] }, g, d, t, os⟩) :
    wpAny (model prog w) A (call (.builtin "list.__iter__") [.ref x]) Q E ⟨h, g, d, t, os⟩ := by
  refine sub_call (.inr li_kind) li_split li_plain e_iter (inst_list X hx hC) (li_args _) ?_
  unfold Builtin.«list.__iter__»
  repeat lk
  exact ⟨_, rfl, hq⟩
theorem wpAny_listUpdate {its its' : Array Value} {f : Array Value → Array Value} {Q : Unit → Shared → Prop} (hx : h.get? x = some (lstObj C dx its n)) (e : f its = its') (h1 : its.size ≤ 1000) (h2 : its'.size ≤ 1001)
    (hq : ∀ h' n', h'.get? x = some (lstObj C dx its' n') → Heap.SameBut x h h' → Q () ⟨h', g, d, t, os⟩) : wpAny (model prog w) A (listUpdate (.ref x) f) Q E ⟨h, g, d, t, os⟩ := by
  show wpAny _ _ (updateSeq x f) _ _ _
  have hx9 := upd_get (f := f) hx e
  first | (k_extra "xe2"; clear hx9; intro n' hn) | obtain ⟨n', hn⟩ := hx9
  exact wpAny_updateSeq hx rfl (hq _ n' hn (Heap.SameBut.update ..)) (by rw [sizeLine_eq]; k_extra "li") (by rw [e, sizeLine_eq]; k_extra "li")
theorem pop_B (v : Value) (hx : h.get? x = some (lstObj C dx (its ++ [v]).toArray n)) (hsz : its.length < 1000)
    (hq : ∀ h' n' t', h'.get? x = some (lstObj C dx its.toArray n') → Heap.SameBut x h h' → Q v ⟨h', g, d, t', os⟩) :
    wpAny (model prog w) A (Builtin.«list.pop» ⟨[.ref x], []⟩) (fun fin s' => ∃ v, fin = .done (.ret v) ∧ Q v s') E ⟨h, g, d, t, os⟩ := by
  unfold Builtin.«list.pop»
  repeat lk
  rw [if_neg (by simp)]
  have e : (seqIndex? (-1) (its ++ [v]).toArray.size).bind (fun k => Option.map (fun x => (k, x)) (its ++ [v]).toArray[k]?) = some (its.length, v) := by
    have e1 : seqIndex? (-1) (its ++ [v]).toArray.size = some its.length := by
      unfold seqIndex?
      simp
      k_extra "li"
    rw [e1]; simp
  rw [e]
  refine wpAny_bind (wpAny_listUpdate hx (its' := its.toArray) ?_ (by simp; k_extra "li") (by simp; k_extra "li") fun h' n' hn hs => wpAny_pure ⟨_, rfl, hq h' n' t hn hs⟩)
  rw [Array.eraseIdxIfInBounds_eq]
  simp
  rw [List.eraseIdx_append_of_length_le (Nat.le_refl _)]
  simp
theorem init_B (hx : h.get? x = some (lstObj C dx #[] n))
    (hq : ∀ h' n' t', h'.get? x = some (lstObj C dx #[] n') → Heap.SameBut x h h' → Q .none ⟨h', g, d, t', os⟩) :
    wpAny (model prog w) A (Builtin.«list.__init__» ⟨[.ref x], []⟩) (fun fin s' => ∃ v, fin = .done (.ret v) ∧ Q v s') E ⟨h, g, d, t, os⟩ := by
  unfold Builtin.«list.__init__»
  repeat (first | (with_reducible refine wpAny_listUpdate hx rfl (by simp) (by simp) fun h' n' hn hs => wpAny_bind (wpAny_letGo (wpAny_pure ⟨_, rfl, hq h' n' _ hn hs⟩))) | lk)
end
end
section
open Builtin Builtin.ObjectAttr
noncomputable def mro3 (K : Frag) (C : Addr) : Bool := (clsIn K C).any fun cd => cd.mro == [.ref C, .type "list", .type "object"]
theorem mro3_of {K : Frag} {C : Addr} (e : mro3 K C = true) : ∃ cd, clsIn K C = some cd ∧ cd.mro = [.ref C, .type "list", .type "object"] := by
  have hx9 := any_some e
  first | (k_extra "xe3"; clear hx9; intro cd h1 h2) | obtain ⟨cd, h1, h2⟩ := hx9
  exact ⟨cd, h1, beq_iff_eq.mp h2⟩
theorem mro3_in {K : Frag} {C : Addr} (e : mro3 K C = true) : mroIn K C (.type "list") = some true ∧ mroIn K C (.type "object") = some true := by
  have hx9 := mro3_of e
  first | (k_extra "xe3"; clear hx9; intro cd h1 h2) | obtain ⟨cd, h1, h2⟩ := hx9
  refine ⟨?_, ?_⟩ <;> (unfold mroIn; rw [h1, Option.bind_some, h2]; simp)
theorem list_passes (self : Value) : refuseLoop self "__setattr__" [.type "list", .type "object"] = pure () := by kernel_rfl
section
variable {prog : Program} {w : World} {A : Around} {E : Value → Shared → Prop} {s : Shared} {K : Frag} {x C dx L : Addr} {h₀ : Heap} {m : Str → Option Value} {news news' pre post : List (Addr × Obj)} {ox od od' : Obj} {es es' : List DictEntry} {n n' : Nat} {name : Str} {v : Value}
theorem osa_list {R : Result → Shared → Prop} {tk : Tok} (F : Fr h₀ L s.heap m) (N : News h₀ L s.heap (pre ++ (dx, od) :: post)) (X : K.In s.heap)
    (I : InstAt s.heap x ox C (some od)) (hd : ox.dict = some dx) (hm : mro3 K C = true) (ht : takerIn K C name = some none) (hh : (clsIn K C).any (·.hasDict) = true)
    (hl : (lookIn name od).isSome = true) (h1 : ∀ p ∈ pre, p.1 ≠ dx) (h2 : ∀ p ∈ post, p.1 ≠ dx)
    (e : Obj.putName name (PyData.keyHash w.params name) (.str name s.toks) v od = od') (e' : od'.data = .dict es.toArray n) (hz : es.length ≤ 1000)
    (h : ∀ h', Fr h₀ L h' m → News h₀ L h' (pre ++ (dx, od') :: post) → R (.ok (.ret .none)) { s with heap := h', toks := s.toks + 1 }) :
    codeAny (model prog w) A (.call (.builtin "object.__setattr__") ⟨[.ref x, .str name tk, v], []⟩) R s := by
  have SF := PySem.F.store_object
  have hx9 := mro3_of hm
  first | (k_extra "xe3"; clear hx9; intro cd hc hmr) | obtain ⟨cd, hc, hmr⟩ := hx9
  have sub : Looks (model prog w) s.heap (isInstance (.ref x) (.type "object")) true := I.type.andThen (looks_mroIn X (mro3_in hm).2)
  have hx9 := Option.bind_eq_some_iff.mp ht
  first | (k_extra "xe3"; clear hx9; intro attr ha hr) | obtain ⟨attr, ha, hr⟩ := hx9
  have L2 : Looks (model prog w) s.heap (mroOf (.ref C)) cd.mro := (looks_clsIn X hc).andThen .now
  have L3 : Looks (model prog w) s.heap (storeTaker? attr) none := by
    cases attr with
    | none => exact .now
    | some a =>
      have hx9 := Option.map_eq_some_iff.mp hr
      first | (k_extra "xe3"; clear hx9; intro b hb hb2) | obtain ⟨b, hb, hb2⟩ := hx9
      cases b with
      | true => cases hb2
      | false => exact (looks_takesIn X hb).andThen .now
  refine codeAny_call_builtin SF.slot.plain SF.entry (@check_slot (model prog w) _ _ s "object.__setattr__" "object" "__setattr__" (.ref x) [.str name tk, v] [] _ SF.kind SF.split sub (SF.args (.ref x) (.str name tk) v) ?_)
  rw [osa_eq, refuse_eq]
  refine wpAny_bind (wpAny_bind (I.type.here (wpAny_bind (L2.here ?_))))
  rw [hmr, refuseLoop_ref, list_passes]
  refine wpAny_pure (wpAny_bind (I.type.here (wpAny_bind ((looks_findIn X ha).here (wpAny_bind (L3.here ?_))))))
  have hx9 := any_some hh
  first | (k_extra "xe3"; clear hx9; intro cd' hc' hd') | obtain ⟨cd', hc', hd'⟩ := hx9
  have hx9 := news_upd (f := Obj.putName name (PyData.keyHash w.params name) (.str name s.toks) v) F N h1 h2 e (by obtain ⟨_, _, dd, _⟩ := od'; cases e'; rfl)
  first | (k_extra "xe2"; clear hx9; intro U1 U2) | obtain ⟨U1, U2⟩ := hx9
  have D := (N (dx, od) (by simp)).1
  have D' := (U2 (dx, od') (by simp)).1
  obtain ⟨hx, hcl, hn, -⟩ := I
  first | (revert ox; intro hx9; k_extra "xe4"; clear hx9; intro oc odi oda osl) | obtain ⟨oc, odi, oda, osl⟩ := ox
  dsimp only at hcl hd
  subst hcl hd
  have LC := looks_clsIn (M := model prog w) X hc'
  dsimp only
  refine wpAny_bind (wpAny_pure (wpAny_bind (wpAny_bind (wpAny_loadPart hx (wpAny_bind (LC.here ?_))))))
  rw [hd']
  refine wpAny_pure (a := some dx) (wpAny_bind (wpAny_pure (wpAny_bind ?_)))
  unfold nsSet
  refine wpAny_bind (wpAny_bind (wpAny_askSetting (wpAny_pure (wpAny_bind (wpAny_mkText (wpAny_bind (wpAny_loadPart D ?_)))))))
  unfold lookIn at hl
  split at hl
  · rename_i es₀ n₀ q
    rw [q]
    dsimp only
    have c : (!es₀.any (·.key.isStr name) && es₀.any (·.refKey)) = false := by
      rw [← Array.any_toList, ← Array.any_toList]
      split at hl
      · rename_i en he
        rw [List.any_eq_true.mpr ⟨en, List.mem_of_find?_eq_some he, List.find?_some he⟩]; rfl
      · split at hl
        · cases hl
        · rename_i z; rw [Bool.not_eq_true] at z; rw [z, Bool.and_false]
    rw [aRefKeyMayBeTheName_at, c]
    refine wpAny_updatePart D ?_
    refine wpAny_bind (wpAny_lookBehind D' (by rw [e']; exact pastItsLine_dict (by rw [List.size_toArray, sizeLine_eq]; k_extra "li")) ?_)
    exact wpAny_pure (h _ U1 U2)
  · cases hl
theorem set_dictL {Q : Unit → Shared → Prop} (F : Fr h₀ L s.heap m) (X₀ : K.In h₀) (N : News h₀ L s.heap news) (I : InstAt s.heap x ox C (some (dictOf es n))) (hd : ox.dict = some dx)
    (hs : findIn K (.ref C) "__setattr__" = some (some (.builtin "object.__setattr__"))) (hp : mro3 K C = true) (ht : takerIn K C name = some none) (hh : hasDictIn K C = true) (hl : (getL name es).isSome = true)
    (e : (putL name (PyData.keyHash w.params name) (.str name (s.toks + 1)) v es, putN name es n) = (es', n')) (U : Upd dx (dictOf es n) (dictOf es' n') news news') (hz : es'.length ≤ 1000)
    (h : ∀ h', Fr h₀ L h' m → News h₀ L h' news' → Q () { s with heap := h', toks := s.toks + 2 }) :
    wpAny (model prog w) A (setAttr (.ref x) name v) Q E s := by
  have hx9 := U.split
  first | (k_extra "xe6"; clear hx9; intro pre post eq9; subst eq9; intro eq9; subst eq9; intro a b) | obtain ⟨pre, post, rfl, rfl, a, b⟩ := hx9
  have hx9 := Prod.mk.inj e
  first | (k_extra "xe2"; clear hx9; intro e1 e2) | obtain ⟨e1, e2⟩ := hx9
  exact set_plain (X₀.keeps F.keep) I hs (osa_list (s := { s with toks := s.toks + 1 }) F N (X₀.keeps F.keep) I hd hp ht hh hl a b (by rw [putName_dict, e1, e2]) rfl hz fun h' F' N' => h h' F' N')
theorem method_any {pl : Sem Bool} {Q : Value × List Value → Shared → Prop} {ga : String} {f t : Value} {od : Option Obj} (X : K.In s.heap) (I : InstAt s.heap x ox C od) (hga : findIn K (.ref C) "__getattribute__" = some (some (.builtin ga))) (hcan : Manifest.canonical ga = "object.__getattribute__") (hk : findIn K (.ref C) "__getattr__" = some none)
    (hf : findIn K (.ref C) name = some (some f)) (ht : typeIn K f = some t) (ht2 : (t != .type "function" && t != .type "method_descriptor" && t != .type "wrapper_descriptor") = false) (hs : shadowIn od name = some false) (h : Q (f, [.ref x]) s) :
    wpAny (model prog w) A (getMethod (.ref x) name pl) Q E s := by
  unfold getMethod specialOf
  refine wpAny_bind (wpAny_bind (I.type.here ((looks_findIn X hga).here ?_)))
  dsimp only
  rw [hcan, if_neg (by decide)]
  refine wpAny_bind (wpAny_bind (I.type.here ((looks_findIn X hk).here ?_)))
  refine wpAny_bind (wpAny_bind (I.type.here ((looks_findIn X hf).here (wpAny_bind ((looks_typeIn X ht).here ?_)))))
  rw [ht2, if_neg (by decide)]
  refine wpAny_bind (wpAny_loadPart I.at_ ?_)
  have hd := I.dict
  cases e : ox.dict with
  | none => exact wpAny_bind (wpAny_rule (wpAny_pure h))
  | some dx =>
    cases od with
    | none => rw [e] at hd; exact hd.elim
    | some o =>
      rw [e] at hd
      have hx9 := Option.map_eq_some_iff.mp hs
      first | (k_extra "xe3"; clear hx9; intro r a b) | obtain ⟨r, a, b⟩ := hx9
      refine wpAny_bind (wpAny_bind (wpAny_loadPart hd ?_))
      rw [nsLook_of a]
      refine wpAny_pure ?_
      rw [b]
      exact wpAny_bind (wpAny_rule (wpAny_pure h))
end
end
section
open Builtin Builtin.ObjectAttr
section
variable {prog : Program} {w : World} {A : Around} {E : Value → Shared → Prop} {s : Shared} {K : Frag} {x C dx L : Addr} {h₀ : Heap} {m : Str → Option Value} {news news' pre post : List (Addr × Obj)} {ox od od' : Obj} {es es' : List DictEntry} {n n' : Nat} {name : Str} {v : Value} {its : List Value}
theorem sub_upd {o : Obj} {o' : Nat → Obj} {news : List (Addr × Obj)} (F : Fr h₀ L s.heap m) (N : News h₀ L s.heap news) (hx : (x, o) ∈ news) :
    s.heap.get? x = some o ∧ ∀ h' k, h'.get? x = some (o' k) → Heap.SameBut x s.heap h' → Fr h₀ L h' m ∧ ∀ news', Upd x o (o' k) news news' → News h₀ L h' news' := by
  have z := N _ hx
  refine ⟨z.1, fun h' k ho hs => ⟨F.change hs z.2.1 z.2.2, fun news' U => ?_⟩⟩
  have hx9 := U.split
  first | (k_extra "xe6"; clear hx9; intro pre post e1 e2 a b) | obtain ⟨pre, post, e1, e2, a, b⟩ := hx9
  subst e1
  rw [e2]
  exact news_set N a b hs ho
theorem useU {α : Type} {U P : α → Prop} {n : α} {G : Prop} (h : ∀ n', U n' → P n') (u : U n) (k : P n → G) : G := k (h n u)
theorem append_LK {Q : Value → Shared → Prop} (F : Fr h₀ L s.heap m) (X₀ : K.In h₀) (N : News h₀ L s.heap news) (hp : mro3 K C = true)
    (hxm : (x, lstObj C dx its.toArray n) ∈ news) (hsz : its.length ≤ 1000)
    (h : ∀ h' k, Fr h₀ L h' m → (∀ news', Upd x (lstObj C dx its.toArray n) (lstObj C dx (its ++ [v]).toArray k) news news' → News h₀ L h' news') → Q .none { s with heap := h' }) : wpAny (model prog w) A (call (.builtin "list.append") [.ref x, v]) Q E s := by
  have hx9 := sub_upd (o' := fun k => lstObj C dx (its ++ [v]).toArray k) F N hxm
  first | (k_extra "xe2"; clear hx9; intro hx k) | obtain ⟨hx, k⟩ := hx9
  have X := X₀.keeps F.keep
  first | (revert s; intro hx9; k_extra "xe5"; clear hx9; intro hh g d t os) | obtain ⟨hh, g, d, t, os⟩ := s
  exact append_L X hx (mro3_in hp).1 v hsz fun h' n' ho hs => h h' n' (k h' n' ho hs).1 (k h' n' ho hs).2
end
section
variable {prog : Program} {w : World} {A : Around} {E : Value → Shared → Prop} {s : Shared} {K : Frag} {x C dx L : Addr} {h₀ : Heap} {m : Str → Option Value} {news news' pre post : List (Addr × Obj)} {ox : Obj} {od : Option Obj} {es es' : List DictEntry} {n n' : Nat} {name : Str} {v : Value} {its : List Value}
theorem getval_L {expr : Bool} {Q : Value → Shared → Prop} (X : K.In s.heap) (I : InstAt s.heap x ox C od) (hga : findIn K (.ref C) "__getattribute__" = some (some (.builtin "list.__getattribute__"))) (hk : findIn K (.ref C) "__getattr__" = some none) (hm : mro3 K C = true)
    (hf : findObj K C od name = some (.value v)) (hh : handedIn v = true) (h : ∀ tk, s.toks ≤ tk → Q v { s with toks := tk }) : wpAny (model prog w) A (getAttr (.ref x) name expr) Q E s := by
  first | (revert s; intro hx9; k_extra "xe5"; clear hx9; intro hp g d t os) | obtain ⟨hp, g, d, t, os⟩ := s
  have L0 := I.type (M := model prog w)
  have L1 := looks_findIn (M := model prog w) X hga
  have L2 := looks_findIn (M := model prog w) X hk
  have L3 := looks_find (M := model prog w) X I hf
  have hsub : Looks (model prog w) hp (isInstance (.ref x) (.type "list")) true := I.type.andThen (looks_mroIn X (mro3_in hm).1)
  have hb := F.slot_list_getattribute.bind (.ref x)
  unfold getAttr getAttrBy
  refine wpAny_bind (wpAny_mkText (wpAny_holding (wpAny_bind (L0.at (wpAny_bind (L1.at ?_))))))
  dsimp only
  rw [if_neg (show ¬ (onTheHeap (.ref C) && Value.builtin "list.__getattribute__" == Value.builtin "object.__getattribute__") = true from by
    rw [show (Value.builtin "list.__getattribute__" == Value.builtin "object.__getattribute__") = false from by decide, Bool.and_false]; decide)]
  unfold getAttrByItsOwn hookBefore callGetattribute boundAndCalled
  refine wpAny_bind ?_
  rw [show onTheHeap (.ref C) = true from rfl, if_pos rfl]
  refine L2.at ?_
  refine wpAny_bind (wpAny_attempt (wpAny_holding ?_))
  rw [show (expr && onTheHeap (.builtin "list.__getattribute__")) = false from by cases expr <;> rfl, if_neg (by decide), hb]
  refine wpAny_bind (wpAny_pure ?_)
  refine sub_call (.inr (by decide +kernel)) (by decide +kernel : splitId "list.__getattribute__" = some ("list", "__getattribute__")) (by decide +kernel) F.entry_list_ga hsub (by unfold argsOk; kernel_rfl) ?_
  unfold Builtin.«object.__getattribute__»
  repeat lk
  refine ⟨_, rfl, ?_⟩
  rw [handedOut_of hh]
  exact wpAny_pure (h _ (by show t ≤ _; k_extra "li"))
end
end
section
open Builtin Builtin.ObjectAttr Builtin.List
noncomputable def SeqAt (h : Heap) (l : Addr) (its : Array Value) : Prop := ∃ o n, h.get? l = some o ∧ o.data = .seq its n
theorem SeqAt.extBut {h h' : Heap} {a b : Addr} {its : Array Value} (x : SeqAt h a its) (hs : Heap.ExtBut b h h') (hab : a ≠ b) : SeqAt h' a its :=
  let ⟨o, n, ho, r⟩ := x; ⟨o, n, hs a o hab ho, r⟩
theorem SeqAt.at {h h' : Heap} {a : Addr} {its : Array Value} (x : SeqAt h a its) (k : ∀ o, h.get? a = some o → h'.get? a = some o) : SeqAt h' a its :=
  let ⟨o, n, ho, r⟩ := x; ⟨o, n, k o ho, r⟩
section
variable {prog : Program} {w : World} {A : Around} {E : Value → Shared → Prop} {s : Shared}
theorem next_item {it l : Addr} {i : Nat} {items : Array Value} {x : Value} {Q : Option Value → Shared → Prop} (hit : s.heap.IsListIter it l i) (hl : SeqAt s.heap l items) (hx : items[i]? = some x)
    (hQ : ∀ h', h'.IsListIter it l (i + 1) → Heap.SameBut it s.heap h' → Q (some x) { s with heap := h' }) : wpAny (model prog w) A (pyNext (.ref it)) Q E s := by
  have hx9 := id hit
  first | (k_extra "xe4"; clear hx9; intro o ho hc hd) | obtain ⟨o, ho, hc, hd⟩ := hx9
  first | (revert hl; intro hx9; k_extra "xe4"; clear hx9; intro ol nl hol hdl) | obtain ⟨ol, nl, hol, hdl⟩ := hl
  unfold pyNext
  refine wpAny_bind (wpAny_attempt (wpAny_callSpecial?_slot (name := Str.ofString "__next__") hit.typeIs slot_listiter_next
    (wpAny_call_entry slot_listiter_next hit.typeIs entry_listiter_next ?_ (args_listiter_next _))))
  show wpAny _ _ (field (.ref it) 0 >>= _) _ _ s
  refine wpAny_bind (wpAny_field ho hd (x := .ref l) rfl ?_)
  show wpAny _ _ (if (Value.ref l == Value.none) = true then _ else _) _ _ s
  rw [if_neg (show ¬ ((Value.ref l == Value.none) = true) from Bool.false_ne_true)]
  show wpAny _ _ (field (.ref it) 1 >>= _) _ _ s
  refine wpAny_bind (wpAny_field ho hd (x := .int i 0) rfl ?_)
  show wpAny _ _ (seqItems? (.ref l) >>= _) _ _ s
  refine wpAny_bind (wpAny_seqItems hol hdl ?_)
  simp only [Int.toNat_natCast, hx]
  refine wpAny_bind (wpAny_setField ho hd (by simp) (wpAny_pure ⟨x, rfl, wpAny_pure (hQ _ ?_ (Heap.SameBut.update ..))⟩))
  exact ⟨_, Heap.get?_update_self _ ho (Obj.isFreed_of_fields (Obj.data_mapFields hd _)), (Obj.cls_mapFields ..).trans hc, by
    rw [Obj.data_mapFields hd]; simp [rawInt]⟩
theorem next_end {it l : Addr} {i : Nat} {items : Array Value} {Q : Option Value → Shared → Prop} (hh : A.handled = none) (hit : s.heap.IsListIter it l i) (hl : SeqAt s.heap l items) (hx : items[i]? = none)
    (hQ : ∀ h', Heap.ExtBut it s.heap h' → Q none { s with heap := h' }) : wpAny (model prog w) A (pyNext (.ref it)) Q E s := by
  have hx9 := id hit
  first | (k_extra "xe4"; clear hx9; intro o ho hc hd) | obtain ⟨o, ho, hc, hd⟩ := hx9
  first | (revert hl; intro hx9; k_extra "xe4"; clear hx9; intro ol nl hol hdl) | obtain ⟨ol, nl, hol, hdl⟩ := hl
  unfold pyNext
  refine wpAny_bind (wpAny_attempt (wpAny_callSpecial?_slot (name := Str.ofString "__next__") hit.typeIs slot_listiter_next
    (wpAny_call_entry slot_listiter_next hit.typeIs entry_listiter_next ?_ (args_listiter_next _))))
  show wpAny _ _ (field (.ref it) 0 >>= _) _ _ s
  refine wpAny_bind (wpAny_field ho hd (x := .ref l) rfl ?_)
  show wpAny _ _ (if (Value.ref l == Value.none) = true then _ else _) _ _ s
  rw [if_neg (show ¬ ((Value.ref l == Value.none) = true) from Bool.false_ne_true)]
  show wpAny _ _ (field (.ref it) 1 >>= _) _ _ s
  refine wpAny_bind (wpAny_field ho hd (x := .int i 0) rfl ?_)
  show wpAny _ _ (seqItems? (.ref l) >>= _) _ _ s
  refine wpAny_bind (wpAny_seqItems hol hdl ?_)
  simp only [Int.toNat_natCast, hx]
  refine wpAny_bind (wpAny_rule (wpAny_bind (wpAny_setField ho hd (by simp) ?_)))
  show wpAny _ _ (newExc (.type "StopIteration") [] >>= _) _ _ _
  refine wpAny_bind ?_
  simp only [newExc, newTuple]
  refine wpAny_bind (wpAny_newObj_type ?_ (by size_fits))
  refine wpAny_bind (m := firstArgMember _ _) (wpAny_of_eq (a := Value.none) (by first | rfl | (simp only [firstArgMember]; rfl)) ?_)
  refine wpAny_newObj_type ?_ (by size_fits)
  simp only [raiseNew]
  refine wpAny_bind (wpAny_handled ?_)
  rw [show A.in1.handled = none from hh]
  refine wpAny_bind (wpAny_pure (wpAny_throw ?_))
  refine wpAny_bind (wpAny_isInstance (T := "StopIteration") (b := true) ⟨_, Heap.get?_push_size _ rfl, rfl⟩ isSubtype_stop ?_)
  exact wpAny_pure (hQ _ (((Heap.SameBut.update ..).extBut.push _).push _))
end
theorem walksTup {prog : Program} {w : World} {A : Around} (hh : A.handled = none) (I ax : Addr) (hne : ax ≠ I) (items : Array Value) (Ts : Nat → Addr) (vals : Nat → Array Value)
    (hit : ∀ j, j < items.size → items[j]? = some (.ref (Ts j))) (hTI : ∀ j, j < items.size → Ts j ≠ I) :
    WalksU prog w A I (I :: ax :: (List.range items.size).map Ts) [I] items.size (fun j v => v = vals j)
      (fun j h => h.IsListIter I ax j ∧ SeqAt h ax items ∧ ∀ k, k < items.size → h.IsTuple (Ts k) (vals k))
      (fun j T h => (j < items.size ∧ T = Ts j) ∧ h.IsListIter I ax (j + 1) ∧ SeqAt h ax items ∧ ∀ k, k < items.size → h.IsTuple (Ts k) (vals k)) where
  sub := fun b hb => by simp at hb; simp [hb]
  frame := fun _ _ _ st hk => ⟨st.1.at fun o e => hk I (by simp) o e, st.2.1.at fun o e => hk ax (by simp) o e,
    fun k hk' => (st.2.2 k hk').at fun o e => hk (Ts k) (List.mem_cons_of_mem _ (List.mem_cons_of_mem _ (List.mem_map.mpr ⟨k, List.mem_range.mpr hk', rfl⟩))) o e⟩
  item := fun i s Q E hi st hQ => by
    refine next_item st.1 st.2.1 (x := .ref (Ts i)) (hit i hi) fun h' hit' hs' => ?_
    have tup : ∀ k, k < items.size → h'.IsTuple (Ts k) (vals k) := fun k hk' => (st.2.2 k hk').extBut hs'.extBut (hTI k hk')
    exact hQ (Ts i) (vals i) h' s.toks rfl (tup i hi) ⟨⟨hi, rfl⟩, hit', st.2.1.extBut hs'.extBut hne, tup⟩ fun b o hb e => hs'.extBut b o (fun h => hb (by simp [h])) e
  go := fun _ _ _ _ _ s Q _ hm hQ => wpAny_letOwnedTupleGo_listiter hm.2.1 (hQ s.heap hm.2 fun _ _ _ e => e)
  apart := fun j T _ hm hmem => by
    rcases List.mem_cons.mp hmem with e | e
    · exact hTI j hm.1.1 (hm.1.2 ▸ e)
    · cases e
  done := fun s Q E st hQ => next_end hh st.1 st.2.1 (by simp) fun h' he' => hQ h' s.toks fun b o hb e => he' b o (fun h => hb (by simp [h])) e
  self := fun _ _ _ _ st hQ => wpAny_pyIter_listiter st.1 hQ
section
variable {prog : Program} {w : World} {A : Around} {E : Value → Shared → Prop} {K : Frag} {x C dx : Addr} {its : List Value} {n : Nat} {h : Heap} {g : Array GenState} {d : Drawn} {t : Nat} {os : OsState} {Q : Value → Shared → Prop}
theorem pyIter_L {od : Option Obj} (X : K.In h) (I : InstAt h x (lstObj C dx its.toArray n) C od) (hs : findIn K (.ref C) "__iter__" = some (some (.builtin "list.__iter__"))) (hC : mroIn K C (.type "list") = some true)
    (hq : Q (.ref h.objs.size) ⟨h.push { cls := .type "list_iterator", data := .fields #[.ref x, .int 0 0] }, g, d, t, os⟩) :
    wpAny (model prog w) A (pyIter (.ref x)) Q E ⟨h, g, d, t, os⟩ := by
  have L0 := I.type (M := model prog w)
  have L1 := looks_findIn (M := model prog w) X hs
  unfold pyIter
  refine wpAny_bind (wpAny_bind (L0.at (L1.at ?_)))
  dsimp only
  unfold callSpecialIfBoundUnlessNone?
  refine wpAny_bind (wpAny_holding (wpAny_bind ?_))
  unfold bindSpecialIfBound?
  refine wpAny_bind (wpAny_bind (L0.at (L1.at ?_)))
  have L2 : Looks (model prog w) h (bindSpecial (.builtin "list.__iter__") (.ref x)) (.builtin "list.__iter__", [.ref x]) := Looks.of_pure (slot_list_iter.bind _)
  have hx := I.at_
  have hi : (h.push { cls := .type "list_iterator", data := .fields #[.ref x, .int 0 0] }).get? h.objs.size = some { cls := .type "list_iterator", data := .fields #[.ref x, .int 0 0] } := Heap.get?_push_at rfl rfl
  have L3 : Looks (model prog w) (h.push { cls := .type "list_iterator", data := .fields #[.ref x, .int 0 0] }) (typeOf (.ref h.objs.size)) (.type "list_iterator") := (Looks.ld hi).andThen .now
  have L4 : Looks (model prog w) (h.push { cls := .type "list_iterator", data := .fields #[.ref x, .int 0 0] }) (typeLookup (.type "list_iterator") "__next__") (some (.builtin "list_iterator.__next__")) := Looks.of_pure slot_listiter_next.lookup
  repeat lk
  split
  · refine wpAny_bind (L2.at (wpAny_pure ?_))
    dsimp only
    repeat (first | (with_reducible refine iter_L X hx hC ?_) | lk)
    exact hq
  · refine wpAny_tryCatch (wpAny_bind (L2.at (wpAny_pure ?_)))
    repeat (first | (with_reducible refine iter_L X hx hC ?_) | lk)
    exact hq
end
end
section
section
variable {prog : Program} {w : World} {A : Around} {E : Value → Shared → Prop} {s : Shared}
theorem genexprCode_hit {M : Model} {env : Env} {c P : Addr} {ps : Array Value} {pos : Pos} {qualname : Str} {scope : Scope} {cv : Value} {Q : Value → Shared → Prop} (hc : env.code = .ref c) (hok : s.heap.IsCode c P ps) (hf : codeAmong pos ps.toList = some cv) (h : Q cv s) :
    wpAny M A (genexprCode env pos qualname scope) Q E s := by
  have hx9 := id hok
  first | (k_extra "xe21"; clear hx9; intro o vs file tf flags tg inF text tt op ho hd h11 h2 h7 h9 h10 hop hpd htr hne) | obtain ⟨o, vs, file, tf, flags, tg, inF, text, tt, op, ho, hd, h11, h2, h7, h9, h10, hop, hpd, htr, hne⟩ := hx9
  unfold genexprCode codeAt
  rw [hc, if_neg (show ¬ ((Value.ref c == Value.none) = true) from Bool.false_ne_true)]
  refine wpAny_bind (wpAny_fieldsOf ho hd ?_)
  rw [h11]
  refine wpAny_bind (wpAny_fieldsOf hop hpd ?_)
  rw [hf]
  exact wpAny_pure h
variable {h₀ : Heap} {L x dx c P : Addr} {m mg mb : Str → Option Value} {K : Frag} {p : Program} {loose : List Str} {mean : ExcName → Option Value} {news : List (Addr × Obj)} {its : List Value} {n : Nat} {od : Obj} {ps : Array Value}
theorem genx {C : Addr} {env : Env} {elt iter : Expr} {xa xb : Str} {pa pb pt : Pos} {kt : Nat} {scope : Scope} {cl : List (Str × Addr)} {pos : Pos} {Q : Value → Shared → Prop} {Ts : Nat → Addr} {va vb : Nat → Value} {Fv : Nat → Value → Prop}
    (hh : A.handled = none) (F : Fr h₀ L s.heap m) (X₀ : K.In h₀) (N : News h₀ L s.heap news) (T : Top p loose mean mg mb h₀) (G : AllBare s.gens)
    (hC : CodeHd h₀ c P) (hcode : env.code = .ref c) (hP : (P, tabObj ps) ∈ news) (htr : TriplesOk ps.toList)
    (hx : (x, lstObj C dx its.toArray n) ∈ news) (hdx : (dx, od) ∈ news) (hit : ∀ i, i < its.length → its[i]? = some (.ref (Ts i)) ∧ (Ts i, ({ cls := .type "tuple", data := .seq #[va i, vb i] } : Obj)) ∈ news)
    (his : findIn K (.ref C) "__iter__" = some (some (.builtin "list.__iter__"))) (hm3 : mroIn K C (.type "list") = some true)
    (hgl : env.globals = mainGlobals)
    (hco : scope.isCoroutine = false) (hclos : closureFor scope env = pure cl) (hcell : ∀ y ∈ scope.names, y.2 ≠ .cell) (h0 : scope.names.lookup (".0" : Str) = some NameKind.local)
    (hxa : scope.names.lookup xa = some .local) (hxb : scope.names.lookup xb = some .local) (hab : xa ≠ xb) (hkind : scope.kind = .function) (hroom : A.depth < recursionLimit) (hs : ∀ x, genFold iter env x = pure x)
    (hiter : ∀ Q', Q' (.ref x) s → wpAny (model prog w) A (eval iter env) Q' E s)
    (hel : ∀ (C' : Addr) (code : Value) (A' : Around) E' i (t : Shared) m₂, A'.handled = none → A'.depth ≤ A.depth + 1 → A'.units ≤ A.units + 8 → i < its.length → Fr h₀ C' t.heap m₂ → m₂ xa = some (va i) → m₂ xb = some (vb i) →
      wpAny (model prog w) A' (eval elt (genEnv scope cl C' code builtinsNs env)) (fun y s₃ => Fv i y ∧ Keeps t s₃) E' t)
    (h : ∀ (s₅ : Shared) (a Kb : Addr) (ps' : Array Value), Fr h₀ L s₅.heap m → (∀ news', Upd P (tabObj ps) (tabObj ps') news news' → News h₀ L s₅.heap news') → TriplesOk ps'.toList → AllBare s₅.gens → s₅.os = s.os → s₅.drawn = s.drawn →
      s.heap.objs.size = Kb + 1 → Gen prog w A Kb a its.length Fv s₅ → Q (.ref a) s₅) :
    wpAny (model prog w) A (eval (.GeneratorExp elt [⟨.Tuple [.Name xa pa, .Name xb pb] kt pt, iter, [], 0⟩] scope pos) env) Q E s := by
  have X := X₀.keeps F.keep
  have I : InstAt s.heap x (lstObj C dx its.toArray n) C (some od) := ⟨(N _ hx).1, rfl, rfl, (N _ hdx).1⟩
  have hNL : s.heap.NoLimit := T.nolimit.keeps F.keep
  have hCs := hC.keeps F.keep
  have hPs := (N _ hP).1
  have hP0 := (N _ hP).2.2
  have hPL := (N _ hP).2.1
  refine wpAny_GeneratorExp_walksQTD hh hco hclos hcell h0 hxa hxb hab hkind hroom (hiter _ ?_) hs
  first | (revert s; intro hx9; k_extra "xe5"; clear hx9; intro hp g d t os) | obtain ⟨hp, g, d, t, os⟩ := s
  dsimp only at *
  refine pyIter_L X I his hm3 ?_
  have hpush : ∀ b o, hp.get? b = some o → (hp.push { cls := .type "list_iterator", data := .fields #[.ref x, .int 0 0] }).get? b = some o := fun b o e => Heap.get?_push_of_some _ e
  have hI : (hp.push { cls := .type "list_iterator", data := .fields #[.ref x, .int 0 0] }).get? hp.objs.size = some { cls := .type "list_iterator", data := .fields #[.ref x, .int 0 0] } := Heap.get?_push_at rfl rfl
  have hIsz : (hp.push { cls := .type "list_iterator", data := .fields #[.ref x, .int 0 0] }).objs.size = hp.objs.size + 1 := Heap.size_push ..
  generalize hh2 : hp.push { cls := .type "list_iterator", data := .fields #[.ref x, .int 0 0] } = h₂ at *
  have hL : L < hp.objs.size := F.ns.lt
  have hPlt : P < hp.objs.size := Heap.lt_size hPs
  have hxP : x ≠ P := fun e => by have := (N _ hx).1; rw [e, hPs] at this; cases this
  have hTP : ∀ i, i < its.length → Ts i ≠ P := fun i hi e => by have := (N _ (hit i hi).2).1; rw [e, hPs] at this; cases this
  have h0P : ∀ b o, h₀.get? b = some o → b ≠ P := fun b o e q => by rw [q, hP0] at e; cases e
  have hcsP : cStatics ≠ P := by
    have hx9 := T.nolimit
    first | (k_extra "xe3"; clear hx9; intro mc hx9; (first | (k_extra "xq5"; clear hx9; intro o es ep ho _) | obtain ⟨o, es, ep, ho, _⟩ := hx9); intro _) | obtain ⟨mc, ⟨o, es, ep, ho, _⟩, _⟩ := hx9
    exact h0P _ _ ho
  have hcslt : cStatics < hp.objs.size := let ⟨_, hn, _⟩ := hNL; hn.lt
  have hsz : its.toArray.size = its.length := List.size_toArray
  refine ⟨hNL.keeps hpush, ?_⟩
  have body : ∀ (h₃ : Heap) (tk₃ : Nat) (code : Value) (ps' : Array Value), Heap.ExtBut P h₂ h₃ → h₂.objs.size ≤ h₃.objs.size → h₃.get? P = some (tabObj ps') → TriplesOk ps'.toList →
      wpAny (model prog w) A (builtinsFor env.globals env.builtins) (fun bi s₄ =>
        ∃ I fp wr n₀ Pt St₀ Mid pz F, (Value.ref hp.objs.size) = .ref I ∧ (∀ A' : Around, A'.handled = none → WalksU prog w A' I fp wr n₀ Pt St₀ Mid) ∧ (∀ i vals, Pt i vals → ∃ va vb, vals = #[va, vb]) ∧ St₀ 0 s₄.heap ∧ (∀ b ∈ fp, b < s₄.heap.objs.size) ∧ s₄.heap.NoLimit ∧ cStatics ∉ wr ∧
          (∀ href : Heap, (∀ b o, s₄.heap.get? b = some o → href.get? b = some o) →
            QuietGenTD prog w (genEnv scope cl s₄.heap.objs.size code bi env) xa xb [] elt (List.range s₄.heap.objs.size) wr Pt pz F href (A.depth + 1) (A.units + 8)) ∧
          (∀ a h₅ tk gs, gs.bare = true → s₄.heap.objs.size < a → h₅.objs.size = a + 1 → (∀ b o, s₄.heap.get? b = some o → h₅.get? b = some o) →
            WalksS prog w A.in4 a (a :: s₄.heap.objs.size :: List.range s₄.heap.objs.size) (s₄.heap.objs.size :: wr) (GenOnlyQ s₄.gens.size) (passing pz n₀ 0).length
              (fun j y => ∃ i, (passing pz n₀ 0)[j]? = some i ∧ F i y) (GenAt prog w A.in4 a s₄.gens.size s₄.heap.objs.size (List.range s₄.heap.objs.size) wr pz n₀ F) →
            GenAt prog w A.in4 a s₄.gens.size s₄.heap.objs.size (List.range s₄.heap.objs.size) wr pz n₀ F 0 { s₄ with gens := s₄.gens.push gs, toks := tk, heap := h₅ } →
            Q (.ref a) { s₄ with gens := s₄.gens.push gs, toks := tk, heap := h₅ })) E ⟨h₃, g, d, tk₃, os⟩ := by
    intro h₃ tk₃ code ps' hx₃ hge hP3 htr3
    have keepP : ∀ b o, b ≠ P → hp.get? b = some o → h₃.get? b = some o := fun b o hb e => hx₃ b o hb (hpush b o e)
    have keep03 : ∀ b o, h₀.get? b = some o → h₃.get? b = some o := fun b o e => keepP b o (h0P b o e) (F.keep b o e)
    have hIP : hp.objs.size ≠ P := Nat.ne_of_gt hPlt
    have hI3 := hx₃ _ _ hIP hI
    have hx3 := keepP _ _ hxP (N _ hx).1
    have hT3 : ∀ i, i < its.length → h₃.get? (Ts i) = some { cls := .type "tuple", data := .seq #[va i, vb i] } := fun i hi => keepP _ _ (hTP i hi) (N _ (hit i hi).2).1
    have hNL3 : h₃.NoLimit := T.nolimit.keeps keep03
    have hx9 := T.bmain
    first | (k_extra "xe8"; clear hx9; intro bm ob b1 b2 b3 b4 b5 b6) | obtain ⟨bm, ob, b1, b2, b3, b4, b5, b6⟩ := hx9
    rw [hgl]
    refine wpAny_builtinsFor (T.g.keeps keep03) b1 b2 (keep03 _ _ b3) b4 b5 b6 ?_
    have hlt : hp.objs.size < h₃.objs.size := Nat.lt_of_lt_of_le (by rw [hIsz]; exact Nat.lt_succ_self _) hge
    have W0 := fun (A' : Around) (hA : A'.handled = none) => (walksTup (prog := prog) (w := w) hA hp.objs.size x (Nat.ne_of_lt (Heap.lt_size (N _ hx).1)) its.toArray Ts (fun i => #[va i, vb i]) (fun j hj => by rw [hsz] at hj; simpa using (hit j hj).1) (fun j hj => by rw [hsz] at hj; exact Nat.ne_of_lt (Heap.lt_size (N _ (hit j hj).2).1))).bound
    refine mx9 _ _ _ _ _ _ _ (fun _ => true) Fv ⟨rfl, W0, fun i vals e => ⟨_, _, e.2⟩, ?_, ?_, hNL3, ?_, ?_, ?_⟩
    · exact ⟨⟨_, hI3, rfl, rfl⟩, ⟨_, _, hx3, rfl⟩, fun k hk => by rw [hsz] at hk; exact ⟨_, hT3 k hk, rfl, _, rfl⟩⟩
    · intro b hb
      rcases List.mem_cons.mp hb with rfl | hb
      · exact hlt
      · rcases List.mem_cons.mp hb with rfl | hb
        · exact Heap.lt_size hx3
        · have hx9 := List.mem_map.mp hb
          first | (k_extra "xe3"; clear hx9; intro i hi eq9; subst eq9) | obtain ⟨i, hi, rfl⟩ := hx9
          have hi' := List.mem_range.mp hi
          rw [hsz] at hi'
          exact Heap.lt_size (hT3 i hi')
    · intro hm
      rw [List.mem_singleton] at hm
      exact absurd hcslt (by rw [hm]; exact Nat.lt_irrefl _)
    · intro href hhref
      refine ⟨fun A' E' i va' vb' s₂ m₂ hA hD hU hP' hn hma hmb hkp => wpAny_pure ⟨rfl, _, _, rfl, fun _ _ e => e⟩, fun A' E' i va' vb' s₂ m₂ hA hD hU hP' hpz hn hma hmb hkp => ?_⟩
      first | (revert hP'; intro hx9; k_extra "xe2"; clear hx9; intro hi hv) | obtain ⟨hi, hv⟩ := hP'
      rw [hsz] at hi
      obtain ⟨e1, e2⟩ : va' = va i ∧ vb' = vb i := by simpa using congrArg Array.toList hv
      subst e1 e2
      refine hel _ _ A' E' i s₂ m₂ hA hD hU hi ⟨hn, fun b o e => ?_, ?_⟩ hma hmb
      · have hb : b < hp.objs.size := Heap.lt_size (F.keep b o e)
        refine hkp b (List.mem_range.mpr (Nat.lt_trans hb hlt)) (fun hm => ?_) o (hhref b o (keep03 b o e))
        rw [List.mem_singleton] at hm
        exact absurd hb (by rw [hm]; exact Nat.lt_irrefl _)
      · exact Nat.le_trans F.above (Nat.le_of_lt (Nat.lt_trans hL hlt))
    · intro a h₅ tk gs hgb hag hsz₅ hk₅ W hat
      obtain ⟨Kb, hKb⟩ : ∃ Kb, hp.objs.size = Kb + 1 := ⟨hp.objs.size - 1, (Nat.succ_pred_eq_of_pos (Nat.lt_of_le_of_lt (Nat.zero_le _) hL)).symm⟩
      have hpass : passing (fun _ => true) its.toArray.size 0 = List.range its.length := by simp [passing]
      have keep5 : ∀ b o, b ≠ P → hp.get? b = some o → h₅.get? b = some o := fun b o hb e => hk₅ b o (keepP b o hb e)
      refine h _ a Kb ps' ⟨?_, fun b o e => keep5 b o (h0P b o e) (F.keep b o e), F.above⟩ (fun news' U q hq => ?_) htr3 (G.push hgb) rfl rfl hKb ?_
      · have hx9 := F.ns
        first | (k_extra "xe5"; clear hx9; intro oL es ep e1 e2) | obtain ⟨oL, es, ep, e1, e2⟩ := hx9
        exact ⟨oL, es, ep, keep5 _ _ (fun e => hPL e.symm) e1, e2⟩
      · have hx9 := U.split
        first | (k_extra "xe6"; clear hx9; intro pre post e1 e2 n1 n2) | obtain ⟨pre, post, e1, e2, n1, n2⟩ := hx9
        subst e1 e2
        rcases List.mem_append.mp hq with hq | hq
        · have z := N q (List.mem_append.mpr (.inl hq))
          exact ⟨keep5 _ _ (n1 q hq) z.1, z.2⟩
        · rcases List.mem_cons.mp hq with rfl | hq
          · exact ⟨hk₅ _ _ hP3, hPL, hP0⟩
          · have z := N q (List.mem_append.mpr (.inr (.tail _ hq)))
            exact ⟨keep5 _ _ (n2 q hq) z.1, z.2⟩
      · have X5 : Gen prog w A Kb a (passing (fun _ => true) its.toArray.size 0).length (fun j y => ∃ i, (passing (fun _ => true) its.toArray.size 0)[j]? = some i ∧ Fv i y) ⟨h₅, g.push gs, d, tk, os⟩ := by
          refine ⟨_, _, _, _, W, hat, (fun i s' st => st.1.typeIs), List.mem_cons_self, ?_, ?_⟩
          · intro b hb
            show b < h₅.objs.size
            rw [hsz₅]
            rcases List.mem_cons.mp hb with rfl | hb
            · exact Nat.lt_succ_self _
            · rcases List.mem_cons.mp hb with rfl | hb
              · exact Nat.lt_succ_of_lt hag
              · exact Nat.lt_succ_of_lt (Nat.lt_trans (List.mem_range.mp hb) hag)
          · intro b hb
            rcases List.mem_cons.mp hb with rfl | hb
            · exact Nat.lt_trans (by rw [hKb]; exact Nat.lt_succ_self _) hlt
            · rw [List.mem_singleton.mp hb, hKb]; exact Nat.lt_succ_self _
        rw [hpass, List.length_range] at X5
        refine X5.imp fun j y hy => ?_
        first | (revert hy; intro hx9; k_extra "xe3"; clear hx9; intro i hij hF) | obtain ⟨i, hij, hF⟩ := hy
        have hx9 := List.getElem?_eq_some_iff.mp hij
        first | (k_extra "xe2"; clear hx9; intro hj e) | obtain ⟨hj, e⟩ := hx9
        simp at e
        rw [e]
        exact hF
  have hC2 := hCs.keeps hpush
  have hP2 := hpush _ _ hPs
  cases hf : codeAmong pos ps.toList with
  | some cv => exact genexprCode_hit hcode (hC2.code hP2 htr) hf (body h₂ t cv ps (fun b o _ e => e) (Nat.le_refl _) hP2 htr)
  | none =>
    refine wpAny_genexprCodeX hcode (hC2.code hP2 htr) (hC2.tab hP2) hf fun c' h₃ tk₃ hx₃ hge hlt hcode₃ _ htab₃ _ => ?_
    first | (revert hcode₃; intro hx9; k_extra "xe21"; clear hx9; intro _ _ _ _ _ _ _ _ _ _ _ _ _ _ _ _ _ _ _ htr3 _) | obtain ⟨_, _, _, _, _, _, _, _, _, _, _, _, _, _, _, _, _, _, _, htr3, _⟩ := hcode₃
    exact body h₃ tk₃ (.ref c') _ hx₃ (Nat.le_trans hge (Nat.le_of_lt hlt)) htab₃.2 htr3
end
end
section
theorem args_sum2 (a b : Value) : argsOk "sum" ⟨[a, b], []⟩ := by unfold argsOk; kernel_rfl
section
variable {prog : Program} {w : World} {A : Around} {E : Value → Shared → Prop} {s : Shared}
theorem shiftS {I : Addr} {fp wr : List Addr} {G : Array GenState → Array GenState → Prop} {n : Nat} {P : Nat → Value → Prop} {St : Nat → Shared → Prop} (W : WalksS prog w A I fp wr G n P St) :
    WalksS prog w A I fp wr G (n + 1) (fun i v => match i with | 0 => False | i + 1 => P i v) (fun i s => match i with | 0 => False | i + 1 => St i s) where
  sub := W.sub
  grefl := W.grefl
  gtrans := W.gtrans
  frame := fun i s h' tk st ht hk => by cases i with | zero => exact st | succ i => exact W.frame i s h' tk st ht hk
  item := fun i s Q E hi st hQ => by cases i with | zero => exact st.elim | succ i => exact W.item i s Q E (Nat.lt_of_succ_lt_succ hi) st fun v s' hP hst hm => hQ v s' hP hst hm
  done := fun s Q E st hQ => W.done s Q E st hQ
  self := fun i s Q E st hQ => by cases i with | zero => exact st.elim | succ i => exact W.self i s Q E st hQ
noncomputable def shVal (z : Int) (val : Nat → Int) : Nat → Int
  | 0 => z
  | i + 1 => val i
theorem preSum_sh (z : Int) (val : Nat → Int) : ∀ n, preSum (shVal z val) (n + 1) = z + preSum val n
  | 0 => by simp [preSum, shVal]
  | n + 1 => by rw [preSum, preSum_sh z val n, preSum]; simp [shVal]; k_extra "li"
theorem call_sum2 {x : Value} {z : Int} {tz : Tok} {Q : Value → Shared → Prop}
    (h : wpAny (model prog w) A.in1 (pyIter x) (fun it s₂ => ∃ I fp wr G n P St val, it = .ref I ∧ WalksS prog w A.in1 I fp wr G n P St ∧ St 0 s₂ ∧ (∀ b ∈ fp, b < s₂.heap.objs.size) ∧
      (∀ i v, P i v → ∃ t, v = .int (val i) t) ∧
      ∀ s' t', Moved wr G s₂ s' → Q (.int (z + preSum val n) t') s') E s) :
    wpAny (model prog w) A (call (.builtin "sum") [x, .int z tz]) Q E s := by
  refine call_function_tree F.kind_sum F.plain_sum F.entry_sum (args_sum2 _ _) ?_
  unfold Builtin.«sum»
  simp only [List.length_cons, List.length_nil]
  rw [if_neg (by decide)]
  refine wpAny_bind (wpAny_of_eq (show Builtin.Builtins.bindParams "sum" ["start"] 0 { pos := [.int z tz] } = pure [some (.int z tz)] from rfl) ?_)
  refine wpAny_bind (wpAny_mono h (fun it s₂ h₂ => ?_) fun _ _ e => e)
  first | (revert h₂; intro hx9; k_extra "xe14"; clear hx9; intro I fp wr G n P St val eq9; subst eq9; intro W hst hfp hval hQ) | obtain ⟨I, fp, wr, G, n, P, St, val, rfl, W, hst, hfp, hval, hQ⟩ := h₂
  have rest : ∀ (tA : Tok) (stg : Int) (tk : Nat), (stg = 0 ∨ stg = 2) → s₂.toks ≤ tk → wpAny (model prog w) A.in1 (do
      for (ty, what, hint) in [("str", "strings", "''"), ("bytes", "bytes", "b''"), ("bytearray", "bytearray", "b''")] do
        if ← isInstance (.int z tA) (.type ty) then
          rule "sum.start-refused"; raiseError "TypeError" s!"sum() can't sum {what} [use {hint}.join(seq) instead]"
      again (.builtin "sum.loop" ⟨[.ref I, ← newList [.int z tA], rawInt stg, rawInt 0], []⟩))
      (fun fin s' => match fin with
      | .done f => (match (Except.ok f : Result) with | .ok (.ret v) => Q v s' | .ok _ => False | .error e => E e s')
      | .again c' => c'.quiet = true ∧ codeAny (model prog w) A c' (fun r s' => match r with | .ok (.ret v) => Q v s' | .ok _ => False | .error e => E e s') s') E { s₂ with toks := tk } := by
    intro tA stg tk hstg htk
    simp only [List.forIn_cons, List.forIn_nil]
    refine wpAny_bind (wpAny_bind (wpAny_bind (wpAny_isInstance (T := "int") (b := false) (typeIs_int _ _ _) PySem.sub_int_str ?_)))
    simp only [Bool.false_eq_true, if_false]
    refine wpAny_pure (wpAny_bind (wpAny_bind (wpAny_isInstance (T := "int") (b := false) (typeIs_int _ _ _) PySem.sub_int_bytes ?_)))
    simp only [Bool.false_eq_true, if_false]
    refine wpAny_pure (wpAny_bind (wpAny_bind (wpAny_isInstance (T := "int") (b := false) (typeIs_int _ _ _) PySem.sub_int_bytearray ?_)))
    simp only [Bool.false_eq_true, if_false]
    refine wpAny_pure (wpAny_pure ?_)
    refine wpAny_bind (wpAny_newObj_type ?_)
    have hSf : s₂.heap.objs.size ∉ fp := fun hm => Nat.lt_irrefl _ (hfp _ hm)
    refine wpAny_pure ⟨plainId_quiet F.plain_sum_loop _, codeAny_sum_loopAnyS (shiftS W) (shVal z val) (fun i v hv => by
        cases i with
        | zero => exact hv.elim
        | succ i => exact hval i v hv) s₂.heap.objs.size hSf n 1 _ tA 0 stg hstg rfl (Nat.succ_le_succ (Nat.zero_le _))
      (W.frame 0 s₂ _ _ hst htk fun b _ o e => Heap.get?_push_of_some _ e) (by
        rw [show preSum (shVal z val) 1 = z from by simp [preSum, shVal]]
        exact Heap.get?_push_size _ rfl) fun s' t' hm => ?_⟩
    rw [preSum_sh]
    exact hQ s' t' (hm.drop_new htk)
  dsimp only
  split
  · refine wpAny_bind (wpAny_rule ?_)
    refine wpAny_bind (wpAny_mkInt (wpAny_bind (wpAny_pure ?_)))
    exact rest _ 0 _ (.inl rfl) (Nat.le_succ _)
  · refine wpAny_bind (wpAny_pure ?_)
    exact rest _ 2 _ (.inr rfl) (Nat.le_refl _)
variable {h₀ : Heap} {L Kb a : Addr} {m : Str → Option Value} {n : Nat} {Fv : Nat → Value → Prop}
theorem gen_toks {tk : Nat} (X : Gen prog w A Kb a n Fv s) (h : s.toks ≤ tk) : Gen prog w A Kb a n Fv { s with toks := tk } := by
  first | (revert X; intro hx9; k_extra "xe10"; clear hx9; intro fp wr g St W hst h1 h2 hfp hwr) | obtain ⟨fp, wr, g, St, W, hst, h1, h2, hfp, hwr⟩ := X
  exact ⟨fp, wr, g, St, W, W.frame 0 s _ tk hst h fun b _ o e => e, h1, h2, hfp, hwr⟩
theorem sum_gen2 {z : Int} {tz : Tok} {Q : Value → Shared → Prop} (Fh : Fr h₀ L s.heap m) (G : AllBare s.gens) (X : Gen prog w A Kb a n Fv s) (hLK : L ≤ Kb) (val : Nat → Int) (hval : ∀ j v, Fv j v → ∃ t, v = .int (val j) t)
    (hQ : ∀ s' t', Fr h₀ L s'.heap m → AllBare s'.gens → s'.os = s.os → (∀ b o, b ≤ Kb → s.heap.get? b = some o → s'.heap.get? b = some o) → Q (.int (z + preSum val n) t') s') : wpAny (model prog w) A (call (.builtin "sum") [.ref a, .int z tz]) Q E s := by
  first | (revert X; intro hx9; k_extra "xe10"; clear hx9; intro fp wr g St W hst _ _ hfp hwr) | obtain ⟨fp, wr, g, St, W, hst, _, _, hfp, hwr⟩ := X
  have W := W.in4_1
  exact call_sum2 (W.self 0 _ _ _ hst ⟨a, _, _, _, _, _, _, val, rfl, W, hst, hfp, hval, fun s' t' hm => hQ s' t' (Fh.moved hm fun b hb => Nat.lt_of_le_of_lt hLK (hwr b hb)) (G.movedS hm) hm.os fun b o hb e => hm.heap b o (fun hmem => Nat.lt_irrefl _ (Nat.lt_of_lt_of_le (hwr b hmem) hb)) e⟩)
end
end
section
theorem acc_mro (P : Params) : mro3 (K39 P) 157 = true := by kernel_rfl
theorem acc_mk (P : Params) : mklIn (K39 P) 157 = true := by kernel_rfl
theorem acc_ga (P : Params) : findIn (K39 P) (.ref 157) "__getattribute__" = some (some (.builtin "list.__getattribute__")) := by kernel_rfl
theorem acc_gk (P : Params) : findIn (K39 P) (.ref 157) "__getattr__" = some none := by kernel_rfl
theorem acc_has (P : Params) : hasDictIn (K39 P) 157 = true := by kernel_rfl
theorem acc_can : Manifest.canonical "list.__getattribute__" = "object.__getattribute__" := by decide +kernel
theorem acc_append (P : Params) : findIn (K39 P) (.ref 157) "append" = some (some (.builtin "list.append")) := by kernel_rfl
theorem acc_iter (P : Params) : findIn (K39 P) (.ref 157) "__iter__" = some (some (.builtin "list.__iter__")) := by kernel_rfl
theorem InstAt.of_newsL {h₀ h : Heap} {L x C dx : Addr} {news : List (Addr × Obj)} {od : Obj} {its : Array Value} {n : Nat} (N : News h₀ L h news) (h1 : (x, lstObj C dx its n) ∈ news) (h2 : (dx, od) ∈ news) :
    InstAt h x (lstObj C dx its n) C (some od) := ⟨(N _ h1).1, rfl, rfl, (N _ h2).1⟩
section
variable {prog : Program} {w : World} {A : Around} {E : Value → Shared → Prop} {s : Shared} {K : Frag} {x dx L : Addr} {h₀ : Heap} {m : Str → Option Value} {news : List (Addr × Obj)} {es : List DictEntry} {n k : Nat} {name : Str} {its : Array Value}
theorem method_acc {pl : Sem Bool} {Q : Value × List Value → Shared → Prop} {f t : Value} (F : Fr h₀ L s.heap m) (X₀ : (K39 w.params).In h₀) (N : News h₀ L s.heap news) (h1 : (x, lstObj 157 dx its k) ∈ news) (h2 : (dx, dictOf es n) ∈ news)
    (hf : findIn (K39 w.params) (.ref 157) name = some (some f)) (ht : typeIn (K39 w.params) f = some t) (ht2 : (t != .type "function" && t != .type "method_descriptor" && t != .type "wrapper_descriptor") = false) (hl : getL name es = some none) (h : Q (f, [.ref x]) s) : wpAny (model prog w) A (getMethod (.ref x) name pl) Q E s :=
  method_any (X₀.keeps F.keep) (Mine.InstAt.of_newsL N h1 h2) (acc_ga _) acc_can (acc_gk _) hf ht ht2 (by show (lookIn name (dictOf es n)).map _ = _; rw [lookIn_dict, hl]; rfl) h
theorem getval_acc {expr : Bool} {v : Value} {Q : Value → Shared → Prop} (F : Fr h₀ L s.heap m) (X₀ : (K39 w.params).In h₀) (N : News h₀ L s.heap news) (h1 : (x, lstObj 157 dx its k) ∈ news) (h2 : (dx, dictOf es n) ∈ news)
    (ha : findIn (K39 w.params) (.ref 157) name = some none) (hl : getL name es = some (some v)) (hh : handedIn v = true) (h : ∀ tk, s.toks ≤ tk → Q v { s with toks := tk }) : wpAny (model prog w) A (getAttr (.ref x) name expr) Q E s :=
  getval_L (X₀.keeps F.keep) (Mine.InstAt.of_newsL N h1 h2) (acc_ga _) (acc_gk _) (acc_mro _) (findObj_own (acc_has _) ha rfl hl) hh h
end
theorem ne_cls {h₀ h : Heap} {L x : Addr} {o : Obj} {news rest : List (Addr × Obj)} (N : News h₀ L h news) (hx : (x, o) ∈ news) (hs : ∀ p ∈ rest, p ∈ news) (hc : ∀ p ∈ rest, p.2.cls ≠ o.cls) : ∀ p ∈ rest, p.1 ≠ x := fun p hp e => by
  have h1 := (N _ hx).1
  have h2 := (N p (hs p hp)).1
  rw [e, h1] at h2
  exact hc p hp (by rw [← Option.some.inj h2])
abbrev NoAcc (x : Addr) (news : List (Addr × Obj)) : Prop := ∀ p ∈ news, p.1 ≠ x
theorem acc_ne {h₀ h : Heap} {L x dx : Addr} {od : List DictEntry} {nd n : Nat} {its : Array Value} {news : List (Addr × Obj)} (N : News h₀ L h ((x, lstObj 157 dx its n) :: (dx, dictOf od nd) :: news)) (hc : NoAcc x news) : (∀ p ∈ news, p.1 ≠ x) ∧ @Ne Nat dx x :=
  ⟨hc, ne_cls (rest := [(dx, dictOf od nd)]) N (.head _) (fun p hp => by rw [List.mem_singleton.mp hp]; exact .tail _ (.head _)) (fun p hp => by rw [List.mem_singleton.mp hp]; exact fun e => by cases e) (dx, dictOf od nd) (.head _)⟩
noncomputable def NotAcc (p : Addr × Obj) : Prop := p.2.cls ≠ .ref 157 ∨ ∀ a n, p.2.data ≠ .seq a n
theorem apart_acc {h₀ h : Heap} {L x dx : Addr} {n : Nat} {its : Array Value} {news all : List (Addr × Obj)} (N : News h₀ L h all) (hx : (x, lstObj 157 dx its n) ∈ all) (hs : ∀ p ∈ news, p ∈ all) (hc : ∀ p ∈ news, NotAcc p) : NoAcc x news := fun p hp e => by
  have h1 := (N _ hx).1
  have h2 := (N p (hs p hp)).1
  rw [e, h1] at h2
  have h3 := Option.some.inj h2
  rcases hc p hp with hc | hc
  · exact hc (by rw [← h3])
  · exact hc _ _ (by rw [← h3])
end
section
open Builtin Builtin.ObjectAttr
theorem md_slot : Slot "method_descriptor" "__get__" "method_descriptor.__get__" := .of (owner := "method_descriptor") (n := "__get__") (by rw [typeLookup_type, builtinLookup_eq_fast]; kernel_rfl) (by decide +kernel) (by decide +kernel) (by decide +kernel)
  (by first | exact .inl (by decide +kernel) | exact .inr (by decide +kernel)) (by rw [isSubtype_type]; kernel_rfl)
theorem md_entry : entryFor table "method_descriptor.__get__" = some Builtin.«method_descriptor.__get__» := entryFor_of_tree (by kernel_rfl)
theorem md_args (a b c : Value) : argsOk "method_descriptor.__get__" ⟨[a, b, c], []⟩ := by unfold argsOk; kernel_rfl
theorem wd_slot : Slot "wrapper_descriptor" "__get__" "wrapper_descriptor.__get__" := .of (owner := "wrapper_descriptor") (n := "__get__") (by rw [typeLookup_type, builtinLookup_eq_fast]; kernel_rfl) (by decide +kernel) (by decide +kernel) (by decide +kernel)
  (by first | exact .inl (by decide +kernel) | exact .inr (by decide +kernel)) (by rw [isSubtype_type]; kernel_rfl)
theorem wd_entry : entryFor table "wrapper_descriptor.__get__" = some Builtin.«wrapper_descriptor.__get__» := entryFor_of_tree (by kernel_rfl)
theorem wd_args (a b c : Value) : argsOk "wrapper_descriptor.__get__" ⟨[a, b, c], []⟩ := by unfold argsOk; kernel_rfl
section
variable {prog : Program} {w : World} {A : Around} {E : Value → Shared → Prop} {h : Heap} {g : Array GenState} {d : Drawn} {t : Nat} {os : OsState}
theorem md_get {x C : Addr} {Q : Value → Shared → Prop} (hT : typeOf (.builtin "list.pop") = pure (.type "method_descriptor")) (hi : Looks (model prog w) h (isInstance (.ref x) (.type "list")) true)
   (hq : Q (.ref h.objs.size) ⟨h.push { cls := .type "builtin_function_or_method", data := .fields #[.builtin "list.pop", .ref x] }, g, d, t, os⟩) :
   wpAny (model prog w) A (call (.builtin "method_descriptor.__get__") [.builtin "list.pop", .ref x, .ref C]) Q E ⟨h, g, d, t, os⟩ := by
  have hTf : (⟨h, g, d, t, os⟩ : Shared).TypeIs (.builtin "list.pop") "method_descriptor" := hT
  refine wpAny_call_entry md_slot hTf md_entry ?_ (md_args _ _ _)
  have hi2 : Looks (model prog w) h (isInstance (.ref x) (.type (".".intercalate ("list.pop".cutAt '.').dropLast))) true := by
    rw [show ".".intercalate ("list.pop".cutAt '.').dropLast = "list" from by decide +kernel]; exact hi
  unfold Builtin.«method_descriptor.__get__»
  repeat lk
  exact ⟨_, rfl, hq⟩
theorem wd_get {i : String} (hown : ".".intercalate (i.cutAt '.').dropLast = "list") {x C : Addr} {Q : Value → Shared → Prop} (hT : typeOf (.builtin i) = pure (.type "wrapper_descriptor")) (hi : Looks (model prog w) h (isInstance (.ref x) (.type "list")) true)
   (hq : Q (.ref h.objs.size) ⟨h.push { cls := .type "method-wrapper", data := .fields #[.builtin i, .ref x] }, g, d, t, os⟩) :
   wpAny (model prog w) A (call (.builtin "wrapper_descriptor.__get__") [.builtin i, .ref x, .ref C]) Q E ⟨h, g, d, t, os⟩ := by
  have hTf : (⟨h, g, d, t, os⟩ : Shared).TypeIs (.builtin i) "wrapper_descriptor" := hT
  refine wpAny_call_entry wd_slot hTf wd_entry ?_ (wd_args _ _ _)
  have hi2 : Looks (model prog w) h (isInstance (.ref x) (.type (".".intercalate (i.cutAt '.').dropLast))) true := by
    rw [hown]; exact hi
  unfold Builtin.«wrapper_descriptor.__get__»
  repeat lk
  exact ⟨_, rfl, hq⟩
theorem own_len : ".".intercalate ("list.__len__".cutAt '.').dropLast = "list" := by decide +kernel
theorem own_init : ".".intercalate ("list.__init__".cutAt '.').dropLast = "list" := by decide +kernel
theorem super_ga {so D x C : Addr} {i T gid bt : String} {l₀ l : List Value} {K : Frag} {name : Str} {tk : Tok} {Q : Fin → Shared → Prop}
    (hso : h.get? so = some { cls := .type "super", dict := none, data := .fields #[.ref D, .ref x, .ref C], slots := #[] }) (hno : Looks (model prog w) h (opaqueClassAbove (.ref C)) none)
    (hC : Looks (model prog w) h (mroOf (.ref C)) l₀) (hl : (l₀.dropWhile (· != .ref D)).drop 1 = l) (X : K.In h)
    (hf : alongIn K name l = some (some (.builtin i))) (hT : typeOf (.builtin i) = pure (.type T)) (hg : typeLookup (.type T) "__get__" = pure (some (.builtin gid))) (hxC : x ≠ C) (hn : (name == ("__class__" : Str)) = false)
    (hget : ∀ A' (Q' : Value → Shared → Prop) (E' : Value → Shared → Prop), Q' (.ref h.objs.size) ⟨h.push { cls := .type bt, data := .fields #[.builtin i, .ref x] }, g, d, t, os⟩ → wpAny (model prog w) A' (call (.builtin gid) [.builtin i, .ref x, .ref C]) Q' E' ⟨h, g, d, t, os⟩)
    (hq : Q (.done (.ret (.ref h.objs.size))) ⟨h.push { cls := .type bt, data := .fields #[.builtin i, .ref x] }, g, d, t, os⟩) :
    wpAny (model prog w) A (Builtin.«super.__getattribute__» ⟨[.ref so, .str name tk], []⟩) Q E ⟨h, g, d, t, os⟩ := by
  have hne : (Value.ref x == Value.ref C) = false := by simp [hxC]
  have hTf : (⟨h, g, d, t, os⟩ : Shared).TypeIs (.builtin i) T := hT
  have hdt : ({ cls := .type "super", dict := none, data := .fields #[.ref D, .ref x, .ref C], slots := #[] } : Obj).data = .fields #[.ref D, .ref x, .ref C] := rfl
  have f0 : (#[.ref D, .ref x, .ref C] : Array Value)[0]? = some (.ref D) := rfl
  have f1 : (#[.ref D, .ref x, .ref C] : Array Value)[1]? = some (.ref x) := rfl
  have f2 : (#[.ref D, .ref x, .ref C] : Array Value)[2]? = some (.ref C) := rfl
  unfold Builtin.«super.__getattribute__»
  repeat (first
    | (with_reducible refine wpAny_field hso hdt f0 ?_) | (with_reducible refine wpAny_field hso hdt f1 ?_) | (with_reducible refine wpAny_field hso hdt f2 ?_)
    | (with_reducible refine ks_wpAny_notOpaque hno ?_)
    | (with_reducible refine Looks.at hC ?_; rw [hl])
    | (refine ks_forIn_along X (fun _ _ => rfl) rfl ?_ hf)
    | (with_reducible refine wpAny_typeOf hTf ?_)
    | (rw [hg])
    | (with_reducible refine hget _ _ _ ?_)
    | (with_reducible refine ⟨_, rfl, ?_⟩)
    | (simp only [hn, hne, Bool.or_false, Bool.false_eq_true, if_false])
    | wp_step
    | dsimp only)
  all_goals exact hq
theorem super_meth {so D x C : Addr} {i T gid bt : String} {l₀ l : List Value} {K : Frag} {name : Str} {pl : Sem Bool} {Q : Value × List Value → Shared → Prop}
    (hso : h.get? so = some { cls := .type "super", dict := none, data := .fields #[.ref D, .ref x, .ref C], slots := #[] }) (hno : Looks (model prog w) h (opaqueClassAbove (.ref C)) none)
    (hC : Looks (model prog w) h (mroOf (.ref C)) l₀) (hl : (l₀.dropWhile (· != .ref D)).drop 1 = l) (X : K.In h)
    (hf : alongIn K name l = some (some (.builtin i))) (hT : typeOf (.builtin i) = pure (.type T)) (hg : typeLookup (.type T) "__get__" = pure (some (.builtin gid))) (hxC : x ≠ C) (hn : (name == ("__class__" : Str)) = false)
    (hget : ∀ A' t' (Q' : Value → Shared → Prop) (E' : Value → Shared → Prop), Q' (.ref h.objs.size) ⟨h.push { cls := .type bt, data := .fields #[.builtin i, .ref x] }, g, d, t', os⟩ → wpAny (model prog w) A' (call (.builtin gid) [.builtin i, .ref x, .ref C]) Q' E' ⟨h, g, d, t', os⟩)
    (hq : Q (.ref h.objs.size, []) ⟨h.push { cls := .type bt, data := .fields #[.builtin i, .ref x] }, g, d, t + 1, os⟩) :
    wpAny (model prog w) A (getMethod (.ref so) name pl) Q E ⟨h, g, d, t, os⟩ := by
  have hlk := F.ks_slot_super_ga.lookup
  have hcan := F.ks_canon_super_ga
  have hTs : ∀ t', (⟨h, g, d, t', os⟩ : Shared).TypeIs (.ref so) "super" := fun _ => ⟨_, hso, rfl⟩
  unfold getMethod
  refine wpAny_bind (wpAny_specialOf (hTs _) hlk ?_)
  show wpAny _ _ (if (Manifest.canonical "super.__getattribute__" != "object.__getattribute__") = true then _ else _) _ _ _
  rw [if_pos hcan]
  unfold getAttr getAttrBy
  refine wpAny_bind (wpAny_bind (wpAny_mkText (wpAny_holding (wpAny_bind (wpAny_typeOf (hTs _) (wpAny_bind (wpAny_of_eq hlk ?_)))))))
  show wpAny _ _ (getAttrByItsOwn (.ref so) (.str name t) (.type "super") (.builtin "super.__getattribute__") true false) _ _ _
  unfold getAttrByItsOwn hookBefore callGetattribute boundAndCalled
  refine wpAny_bind (wpAny_of_eq (show (if onTheHeap (.type "super") then typeLookup (.type "super") "__getattr__" else pure none) = pure none from rfl) ?_)
  refine wpAny_bind (wpAny_attempt (wpAny_holding ?_))
  show wpAny _ _ (bindSpecial (.builtin "super.__getattribute__") (.ref so) >>= _) _ _ _
  refine wpAny_bind (wpAny_of_eq (F.ks_slot_super_ga.bind _) ?_)
  refine wpAny_mono (Q := fun v s' => v = .ref h.objs.size ∧ s' = ⟨h.push { cls := .type bt, data := .fields #[.builtin i, .ref x] }, g, d, t + 1, os⟩) (E := fun _ _ => False)
    (wpAny_call_entry F.ks_slot_super_ga (hTs _) F.ks_entry_super_ga (super_ga hso hno hC hl X hf hT hg hxC hn (fun A' => hget A' _) ⟨_, rfl, rfl, rfl⟩) (F.ks_gaArgs_super _ _)) (fun v s' hv => ?_) fun _ _ z => z.elim
  first | (revert hv; intro hx9; k_extra "xe2"; clear hx9; intro eq9; subst eq9; intro eq9; subst eq9) | obtain ⟨rfl, rfl⟩ := hv
  exact wpAny_pure (wpAny_pure hq)
theorem bound_call {q x : Addr} {i bt : String} {b : Builtin} {s : Shared} {Q : Value → Shared → Prop} (hq : s.heap.get? q = some { cls := .type bt, data := .fields #[.builtin i, .ref x] }) (hbt : bt = "builtin_function_or_method" ∨ bt = "method-wrapper")
    (hck : ∀ A' (Q' : Unit → Shared → Prop) E', Q' () s → wpAny (model prog w) A' (checkBoundCall i ⟨[.ref x], []⟩) Q' E' s) (hp : plainId i = true) (hb : entryFor table i = some b)
    (h : wpAny (model prog w) A.in1 (b ⟨[.ref x], []⟩) (fun fin s' => ∃ v, fin = .done (.ret v) ∧ Q v s') E s) : wpAny (model prog w) A (call (.ref q) []) Q E s := by
  refine wpAny_call (codeAny_of_tree ?_)
  show wpAny _ _ (callAny (.ref q) _) _ _ _
  refine nd_load hq ?_
  rcases hbt with rfl | rfl
  all_goals
    repeat (first | ((with_reducible show wpAny _ _ (checkBoundCall _ _) _ _ _); refine hck _ _ _ ?_) | lk)
    refine ⟨plainId_quiet hp _, codeAny_builtin hb ?_⟩
    rw [Around.under_plainId hp]
    refine wpAny_mono h (fun fin s' h' => ?_) fun _ _ h' => h'
    obtain ⟨v, rfl, hv⟩ := h'; exact hv
theorem ck_len {x : Addr} {s : Shared} {Q' : Unit → Shared → Prop} {E' : Value → Shared → Prop} (h : Q' () s) : wpAny (model prog w) A (checkBoundCall "list.__len__" ⟨[.ref x], []⟩) Q' E' s := by
  rw [show checkBoundCall "list.__len__" ⟨[.ref x], []⟩ = pure () from by kernel_rfl]
  exact wpAny_pure h
theorem ck_init {x : Addr} {s : Shared} {Q' : Unit → Shared → Prop} {E' : Value → Shared → Prop} (h : Q' () s) : wpAny (model prog w) A (checkBoundCall "list.__init__" ⟨[.ref x], []⟩) Q' E' s := by
  rw [show checkBoundCall "list.__init__" ⟨[.ref x], []⟩ = pure () from by kernel_rfl]
  exact wpAny_pure h
noncomputable def popSig : Manifest.Signature := (Manifest.signature? "list.pop").getD ⟨.hand, "", "", .none, []⟩
theorem pop_sig : Manifest.signature? "list.pop" = some popSig := by unfold popSig; kernel_rfl
theorem pop_ck (x : Addr) : Bind.checkArgs "list.pop" { popSig with full := toString (Str.toString (Str.ofString "_Accumulator")) ++ toString "." ++ toString (Bind.lastOf "list.pop") } ⟨[.ref x], []⟩ = pure () := by unfold popSig; kernel_rfl
theorem ck_pop {K : Frag} {x C dx : Addr} {its : Array Value} {n : Nat} {Q' : Unit → Shared → Prop} {E' : Value → Shared → Prop} (X : K.In h) (hx : h.get? x = some (lstObj C dx its n)) (hm : mroIn K C (.type "module") = some false) (hC : typeIn K (.ref C) = some (.type "type")) (hcl : (clsIn K C).any (fun cd => cd.qualname == Str.ofString "_Accumulator") = true) (hq : Q' () ⟨h, g, d, t, os⟩) :
    wpAny (model prog w) A (checkBoundCall "list.pop" ⟨[.ref x], []⟩) Q' E' ⟨h, g, d, t, os⟩ := by
  have L1 : Looks (model prog w) h (isInstance (.ref x) (.type "module")) false := ((Looks.ld hx).andThen .now).andThen (looks_mroIn X hm)
  have L2 := looks_typeIn (M := model prog w) X hC
  have hx9 := any_some hcl
  first | (k_extra "xe3"; clear hx9; intro cd hcd hqn) | obtain ⟨cd, hcd, hqn⟩ := hx9
  have hqn := beq_iff_eq.mp hqn
  have L3 := looks_clsIn (M := model prog w) X hcd
  unfold checkBoundCall
  rw [pop_sig, lp_kind]
  have ck := pop_ck x
  rw [← hqn] at ck
  repeat (first | (with_reducible refine wpAny_of_eq ck ?_) | lk)
  exact hq
end
end
section
abbrev bdObj (bt i : String) (x : Addr) : Obj := { cls := .type bt, data := .fields #[.builtin i, .ref x] }
noncomputable def Bd (q : Addr) (h : Heap) : Prop := ∃ bt i x, (bt = "builtin_function_or_method" ∨ bt = "method-wrapper") ∧ h.get? q = some (bdObj bt i x)
section
variable {M : Model} {prog : Program} {w : World} {A : Around} {E : Value → Shared → Prop} {s : Shared} {K : Frag} {x dx so q L : Addr} {h₀ : Heap} {m : Str → Option Value} {news : List (Addr × Obj)} {es : List DictEntry} {n k : Nat} {name : Str} {its : Array Value}
theorem keeps_bd (h : Heap) (X : Bd q h) : ∃ k, (k = Keeper.frame ∨ k = Keeper.machine ∨ k = Keeper.boundFrame) ∧ Looks M h (keeperOf (.ref q)) k := by
  first | (revert X; intro hx9; k_extra "xe5"; clear hx9; intro bt i x hb e) | obtain ⟨bt, i, x, hb, e⟩ := X
  refine ⟨.machine, .inr (.inl rfl), (Looks.ld (part := none) e).andThen ?_⟩
  rcases hb with rfl | rfl <;> exact .now
theorem callWith_bd {pos : Pos} {env : Env} {Q : Value → Shared → Prop} (X : Bd q s.heap) (h : wpAny M A (call (.ref q) []) Q E s) : wpAny M A (callWith pos (.ref q) [] (backTo pos (starEach [] env)) []) Q E s :=
  callWith_of rfl keeps_bd (evalArgs_nil3 ⟨X, h⟩)
theorem ty_pop : typeOf (.builtin "list.pop") = pure (.type "method_descriptor") := by show builtinType _ = _; rw [builtinType_eq_fast]; kernel_rfl
theorem ty_len : typeOf (.builtin "list.__len__") = pure (.type "wrapper_descriptor") := by show builtinType _ = _; rw [builtinType_eq_fast]; kernel_rfl
theorem ty_init : typeOf (.builtin "list.__init__") = pure (.type "wrapper_descriptor") := by show builtinType _ = _; rw [builtinType_eq_fast]; kernel_rfl
theorem al_pop (P : Params) : alongIn (K39 P) "pop" [.type "list", .type "object"] = some (some (.builtin "list.pop")) := by kernel_rfl
theorem al_len (P : Params) : alongIn (K39 P) "__len__" [.type "list", .type "object"] = some (some (.builtin "list.__len__")) := by kernel_rfl
theorem al_init (P : Params) : alongIn (K39 P) "__init__" [.type "list", .type "object"] = some (some (.builtin "list.__init__")) := by kernel_rfl
theorem acc_opaque (P : Params) : nsIn (K39 P) cStatics "thirdparty.any" = some none := by kernel_rfl
theorem acc_nomod (P : Params) : mroIn (K39 P) 157 (.type "module") = some false := by kernel_rfl
theorem acc_typ (P : Params) : typeIn (K39 P) (.ref 157) = some (.type "type") := by kernel_rfl
theorem acc_qn (P : Params) : (clsIn (K39 P) 157).any (fun cd => cd.qualname == Str.ofString "_Accumulator") = true := by kernel_rfl
theorem acc_drop : ((([.ref 157, .type "list", .type "object"] : List Value).dropWhile (· != .ref 157)).drop 1) = [.type "list", .type "object"] := by decide
theorem super_acc {pl : Sem Bool} {Q : Value × List Value → Shared → Prop} {i T gid bt : String} (F : Fr h₀ L s.heap m) (X₀ : (K39 w.params).In h₀) (N : News h₀ L s.heap news) (hso : (so, ks_superObj 157 x 157) ∈ news) (h1 : (x, lstObj 157 dx its k) ∈ news) (h2 : (dx, dictOf es n) ∈ news)
    (hf : alongIn (K39 w.params) name [.type "list", .type "object"] = some (some (.builtin i))) (hT : typeOf (.builtin i) = pure (.type T)) (hg : typeLookup (.type T) "__get__" = pure (some (.builtin gid))) (hn : (name == ("__class__" : Str)) = false)
    (hget : ∀ (h : Heap) g d t os A' (Q' : Value → Shared → Prop) (E' : Value → Shared → Prop), Looks (model prog w) h (isInstance (.ref x) (.type "list")) true → Q' (.ref h.objs.size) ⟨h.push (bdObj bt i x), g, d, t, os⟩ → wpAny (model prog w) A' (call (.builtin gid) [.builtin i, .ref x, .ref 157]) Q' E' ⟨h, g, d, t, os⟩)
    (h : ∀ q h' tk, Fr h₀ L h' m → News h₀ L h' ((q, bdObj bt i x) :: news) → (∀ p ∈ news, p.1 < q) → Q (.ref q, []) { s with heap := h', toks := tk }) : wpAny (model prog w) A (getMethod (.ref so) name pl) Q E s := by
  have X := X₀.keeps F.keep
  have I := Mine.InstAt.of_newsL N h1 h2
  have hx9 := mro3_of (acc_mro w.params)
  first | (k_extra "xe3"; clear hx9; intro cd hc hmr) | obtain ⟨cd, hc, hmr⟩ := hx9
  have hC : Looks (model prog w) s.heap (mroOf (.ref 157)) [.ref 157, .type "list", .type "object"] := by rw [← hmr]; exact (looks_clsIn X hc).andThen .now
  have hxC : x ≠ 157 := ks_ne X I hc
  have hso' := (N _ hso).1
  have hx' := (N _ h1).1
  first | (revert s; intro hx9; k_extra "xe5"; clear hx9; intro hh g d t os) | obtain ⟨hh, g, d, t, os⟩ := s
  refine super_meth hso' (looks_opaque X (acc_opaque _)) hC acc_drop X hf hT hg hxC hn (fun A' t' Q' E' => hget hh g d t' os A' Q' E' (inst_list X hx' (mro3_in (acc_mro _)).1)) ?_
  have hx9 := ks_newsPush (s := ⟨hh, g, d, t, os⟩) (o := bdObj bt i x) F N rfl (Heap.get?_push_at rfl rfl) (fun b o e => Heap.get?_push_of_some _ e)
  first | (k_extra "xe3"; clear hx9; intro F' N' l') | obtain ⟨F', N', l'⟩ := hx9
  exact h _ _ _ F' N' l'
theorem super_len {pl : Sem Bool} {Q : Value × List Value → Shared → Prop} (F : Fr h₀ L s.heap m) (X₀ : (K39 w.params).In h₀) (N : News h₀ L s.heap news) (hso : (so, ks_superObj 157 x 157) ∈ news) (h1 : (x, lstObj 157 dx its k) ∈ news) (h2 : (dx, dictOf es n) ∈ news)
    (h : ∀ q h' tk, Fr h₀ L h' m → News h₀ L h' ((q, bdObj "method-wrapper" "list.__len__" x) :: news) → (∀ p ∈ news, p.1 < q) → Q (.ref q, []) { s with heap := h', toks := tk }) : wpAny (model prog w) A (getMethod (.ref so) (Str.ofString "__len__") pl) Q E s :=
  super_acc F X₀ N hso h1 h2 (al_len _) ty_len wd_slot.lookup (by decide) (fun h g d t os A' Q' E' hi => wd_get own_len ty_len hi) h
theorem super_init {pl : Sem Bool} {Q : Value × List Value → Shared → Prop} (F : Fr h₀ L s.heap m) (X₀ : (K39 w.params).In h₀) (N : News h₀ L s.heap news) (hso : (so, ks_superObj 157 x 157) ∈ news) (h1 : (x, lstObj 157 dx its k) ∈ news) (h2 : (dx, dictOf es n) ∈ news)
    (h : ∀ q h' tk, Fr h₀ L h' m → News h₀ L h' ((q, bdObj "method-wrapper" "list.__init__" x) :: news) → (∀ p ∈ news, p.1 < q) → Q (.ref q, []) { s with heap := h', toks := tk }) : wpAny (model prog w) A (getMethod (.ref so) (Str.ofString "__init__") pl) Q E s :=
  super_acc F X₀ N hso h1 h2 (al_init _) ty_init wd_slot.lookup (by decide) (fun h g d t os A' Q' E' hi => wd_get own_init ty_init hi) h
theorem super_pop {pl : Sem Bool} {Q : Value × List Value → Shared → Prop} (F : Fr h₀ L s.heap m) (X₀ : (K39 w.params).In h₀) (N : News h₀ L s.heap news) (hso : (so, ks_superObj 157 x 157) ∈ news) (h1 : (x, lstObj 157 dx its k) ∈ news) (h2 : (dx, dictOf es n) ∈ news)
    (h : ∀ q h' tk, Fr h₀ L h' m → News h₀ L h' ((q, bdObj "builtin_function_or_method" "list.pop" x) :: news) → (∀ p ∈ news, p.1 < q) → Q (.ref q, []) { s with heap := h', toks := tk }) : wpAny (model prog w) A (getMethod (.ref so) (Str.ofString "pop") pl) Q E s :=
  super_acc F X₀ N hso h1 h2 (al_pop _) ty_pop md_slot.lookup (by decide) (fun h g d t os A' Q' E' hi => md_get ty_pop hi) h
theorem cb_len {Q : Value → Shared → Prop} {its : List Value} (N : News h₀ L s.heap news) (hq : (q, bdObj "method-wrapper" "list.__len__" x) ∈ news) (h1 : (x, lstObj 157 dx its.toArray k) ∈ news)
    (h : ∀ tk t', Q (.int (its.length : Nat) t') { s with toks := tk }) : wpAny (model prog w) A (call (.ref q) []) Q E s := by
  have hq' := (N _ hq).1
  have hx' := (N _ h1).1
  refine bound_call hq' (.inr rfl) (fun A' Q' E' hh => ck_len hh) ll_plain e_len ?_
  first | (revert s; intro hx9; k_extra "xe5"; clear hx9; intro hh g d t os) | obtain ⟨hh, g, d, t, os⟩ := s
  exact len_B hx' fun t' => h t' t
theorem cb_init {Q : Value → Shared → Prop} (F : Fr h₀ L s.heap m) (N : News h₀ L s.heap news) (hq : (q, bdObj "method-wrapper" "list.__init__" x) ∈ news) (h1 : (x, lstObj 157 dx #[] k) ∈ news)
    (h : ∀ h' k' tk, Fr h₀ L h' m → (∀ news', Upd x (lstObj 157 dx #[] k) (lstObj 157 dx #[] k') news news' → News h₀ L h' news') → Q .none { s with heap := h', toks := tk }) : wpAny (model prog w) A (call (.ref q) []) Q E s := by
  have hq' := (N _ hq).1
  have hx9 := sub_upd (o' := fun k => lstObj 157 dx #[] k) F N h1
  first | (k_extra "xe2"; clear hx9; intro hx' kk) | obtain ⟨hx', kk⟩ := hx9
  refine bound_call hq' (.inr rfl) (fun A' Q' E' hh => ck_init hh) l0_plain e_init ?_
  first | (revert s; intro hx9; k_extra "xe5"; clear hx9; intro hh g d t os) | obtain ⟨hh, g, d, t, os⟩ := s
  exact init_B hx' fun h' n' t' ho hs => h h' n' t' (kk h' n' ho hs).1 (kk h' n' ho hs).2
theorem cb_pop {Q : Value → Shared → Prop} {its : List Value} {v : Value} (F : Fr h₀ L s.heap m) (X₀ : (K39 w.params).In h₀) (N : News h₀ L s.heap news) (hq : (q, bdObj "builtin_function_or_method" "list.pop" x) ∈ news) (h1 : (x, lstObj 157 dx (its ++ [v]).toArray k) ∈ news) (hsz : its.length < 1000)
    (h : ∀ h' k' tk, Fr h₀ L h' m → (∀ news', Upd x (lstObj 157 dx (its ++ [v]).toArray k) (lstObj 157 dx its.toArray k') news news' → News h₀ L h' news') → Q v { s with heap := h', toks := tk }) : wpAny (model prog w) A (call (.ref q) []) Q E s := by
  have hq' := (N _ hq).1
  have X := X₀.keeps F.keep
  have hx9 := sub_upd (o' := fun k => lstObj 157 dx its.toArray k) F N h1
  first | (k_extra "xe2"; clear hx9; intro hx' kk) | obtain ⟨hx', kk⟩ := hx9
  first | (revert s; intro hx9; k_extra "xe5"; clear hx9; intro hh g d t os) | obtain ⟨hh, g, d, t, os⟩ := s
  refine bound_call hq' (.inl rfl) (fun A' Q' E' hh => ck_pop X hx' (acc_nomod _) (acc_typ _) (acc_qn _) hh) lp_plain e_pop ?_
  exact pop_B v hx' hsz fun h' n' t' ho hs => h h' n' t' (kk h' n' ho hs).1 (kk h' n' ho hs).2
theorem bd_of {bt i : String} (N : News h₀ L s.heap news) (hq : (q, bdObj bt i x) ∈ news) (hb : bt = "builtin_function_or_method" ∨ bt = "method-wrapper") : Bd q s.heap := ⟨bt, i, x, hb, (N _ hq).1⟩
end
end
section
section
variable {M : Model} {prog : Program} {w : World} {A : Around} {E : Value → Shared → Prop} {s : Shared} {x dx em L : Addr} {h₀ : Heap} {m : Str → Option Value} {news : List (Addr × Obj)} {es : List DictEntry} {n k ne : Nat} {its : List Value}
end
end
section
noncomputable def ClG (Pb : Heap → Prop) (prog : Program) (w : World) (K : Frag) (p : Program) (loose : List Str) (mean : ExcName → Option Value) (mg mb : Str → Option Value) (f : Addr) (d u : Nat) (news : List (Addr × Obj)) (vs : List Value)
    (R : Value → List (Addr × Obj) → Prop) : Prop :=
  ∀ (dp un : Nat) (gd : Option (List Code)) (cn : Str) (cs : Scope) (ca : Addr) (ccd : Value) (cl : List (Str × Addr)) (outer : List Env) (A₀ : Around) (base h₀ : Heap) (L : Addr) (m : Str → Option Value) (s : Shared) (Q E : Value → Shared → Prop),
    Pb base → AllBare s.gens → Below A₀ base outer h₀ → Fr h₀ L s.heap m → K.In h₀ → News h₀ L s.heap news → Top p loose mean mg mb h₀ → cs.kind = .function → dp + d < recursionLimit → un + u < cLine →
    (∀ (r : Value) (news' : List (Addr × Obj)) (s' : Shared), Fr h₀ L s'.heap m → News h₀ L s'.heap news' → AllBare s'.gens → s'.os = s.os → R r news' → Q r s') →
      wpAny (model prog w) (ktrTop dp un gd cn cs L ca ccd cl outer) (call (.ref f) vs) Q E s
theorem ClG.mk {Pb : Heap → Prop} {prog : Program} {w : World} {K : Frag} {p : Program} {loose : List Str} {mean : ExcName → Option Value} {mg mb : Str → Option Value} {f : Addr} {d u : Nat} {news : List (Addr × Obj)} {vs : List Value} {R : Value → List (Addr × Obj) → Prop}
    (h : ∀ (dp un : Nat) (gd : Option (List Code)) (cn : Str) (cs : Scope) (ca : Addr) (ccd : Value) (cl : List (Str × Addr)) (outer : List Env) (A₀ : Around) (base h₀ : Heap) (L : Addr) (m : Str → Option Value) (s : Shared) (Q E : Value → Shared → Prop),
    Pb base → AllBare s.gens → Below A₀ base outer h₀ → Fr h₀ L s.heap m → K.In h₀ → News h₀ L s.heap news → Top p loose mean mg mb h₀ → cs.kind = .function → dp + d < recursionLimit → un + u < cLine →
    (∀ (r : Value) (news' : List (Addr × Obj)) (s' : Shared), Fr h₀ L s'.heap m → News h₀ L s'.heap news' → AllBare s'.gens → s'.os = s.os → R r news' → Q r s') →
      wpAny (model prog w) (ktrTop dp un gd cn cs L ca ccd cl outer) (call (.ref f) vs) Q E s) :
    ClG Pb prog w K p loose mean mg mb f d u news vs R := h
theorem ClG.use {Pb : Heap → Prop} {prog : Program} {w : World} {K : Frag} {p : Program} {loose : List Str} {mean : ExcName → Option Value} {mg mb : Str → Option Value} {f : Addr} {d u : Nat} {news : List (Addr × Obj)} {vs : List Value} {R : Value → List (Addr × Obj) → Prop} (C : ClG Pb prog w K p loose mean mg mb f d u news vs R)
    {dp un : Nat} {gd : Option (List Code)} {cn : Str} {cs : Scope} {ca : Addr} {ccd : Value} {cl : List (Str × Addr)} {outer : List Env} {A₀ : Around} {base h₀ : Heap} {L : Addr} {m : Str → Option Value} {s : Shared} {Q E : Value → Shared → Prop}
    (kP : Pb base) (kG : AllBare s.gens) (kB : Below A₀ base outer h₀) (kF : Fr h₀ L s.heap m) (kX : K.In h₀) (kN : News h₀ L s.heap news) (kT : Top p loose mean mg mb h₀) (kc : cs.kind = .function) (kd : dp + d < recursionLimit) (ku : un + u < cLine)
    (kR : ∀ (r : Value) (news' : List (Addr × Obj)) (s' : Shared), Fr h₀ L s'.heap m → News h₀ L s'.heap news' → AllBare s'.gens → s'.os = s.os → R r news' → Q r s') :
    wpAny (model prog w) (ktrTop dp un gd cn cs L ca ccd cl outer) (call (.ref f) vs) Q E s := C dp un gd cn cs ca ccd cl outer A₀ base h₀ L m s Q E kP kG kB kF kX kN kT kc kd ku kR
structure Pr where
  a : Addr
  b : Str
  tb : Tok
  s : Str
  ts : Tok
abbrev Pr.obj (q : Pr) : Obj := { cls := .type "tuple", data := .seq #[.str q.b q.tb, .str q.s q.ts] }
noncomputable def tups (l : List Pr) : List (Addr × Obj) := l.map fun q => (q.a, q.obj)
noncomputable def refs (l : List Pr) : List Value := l.map fun q => .ref q.a
theorem refs_nil : refs [] = [] := rfl
theorem tups_nil : tups [] = [] := rfl
abbrev NoTab (P : Nat) (news : List (Addr × Obj)) : Prop := ∀ p ∈ news, p.2.cls ≠ .none ∨ @Ne Nat p.1 P
theorem tab_ne {h₀ h : Heap} {L P : Addr} {ps : Array Value} {news rest : List (Addr × Obj)} (N : News h₀ L h news) (hP : (P, tabObj ps) ∈ news) (hs : ∀ p ∈ rest, p ∈ news) (hr : NoTab P rest) : ∀ p ∈ rest, p.1 ≠ P := fun p hp => by
  rcases hr p hp with hc | hc
  · intro e
    have h1 := (N _ hP).1
    have h2 := (N _ (hs p hp)).1
    rw [e, h1] at h2
    exact hc (by rw [← Option.some.inj h2])
  · exact hc
theorem tups_cls {l : List Pr} {p : Addr × Obj} (h : p ∈ tups l) : p.2.cls = .type "tuple" := by
  have hx9 := List.mem_map.mp h
  first | (k_extra "xe3"; clear hx9; intro q _ eq9; subst eq9) | obtain ⟨q, _, rfl⟩ := hx9
  rfl
theorem refs_get {l : List Pr} {i : Nat} (hi : i < l.length) : (refs l)[i]? = some (.ref ((l.map Pr.a).getD i 0)) := by
  simp [refs, List.getD_eq_getElem?_getD, hi]
theorem tups_mem {l : List Pr} {q : Pr} (h : q ∈ l) : (q.a, q.obj) ∈ tups l := List.mem_map_of_mem h
end
section
section
variable {prog : Program} {w : World} {M : Model} {A : Around} {E : Value → Shared → Prop} {s : Shared} {h₀ : Heap} {C bi : Addr} {m mg mb : Str → Option Value} {K : Frag} {p : Program} {loose : List Str} {mean : ExcName → Option Value}
  {scope : Scope} {cl : List (Str × Addr)} {code : Value} {env : Env} {x : Str} {pos px pl : Pos} {v : Value} {Q : Value → Shared → Prop}
theorem g_local (F : Fr h₀ C s.heap m) (hv : m x = some v) (hk : scope.kind = .function) (hx : scope.names.lookup x = some .local) (hd : (x == ("__debug__" : Str)) = false) (h : Q v s) :
    wpAny M A (eval (.Name x pos) (genEnv scope cl C code bi env)) Q E s :=
  wpAny_Name (wpAny_loadName_local hk hx F.ns hv h) hd
theorem g_builtin (F : Fr h₀ C s.heap m) (X : K.In h₀) (T : Top p loose mean mg mb h₀) (hg : env.globals = mainGlobals) (e : nsIn K mainGlobals x = some none) (hv : bootBuiltins x = some v) (hn : x ≠ "__name__")
    (hk : scope.kind = .function) (hx : scope.names.lookup x = some .globalImplicit) (hd : (x == ("__debug__" : Str)) = false) (h : Q v s) :
    wpAny M A (eval (.Name x pos) (genEnv scope cl C code builtinsNs env)) Q E s :=
  wpAny_Name (ks_loadName_global hk hx (loadGlobal_builtin (by show s.heap.Ns env.globals mg; rw [hg]; exact T.g.keeps F.keep) (mg_none_of X T.g e) (T.b.keeps F.keep) ((T.builtins _ hn).trans hv) h)) hd
theorem g_main (F : Fr h₀ C s.heap m) (X : K.In h₀) (T : Top p loose mean mg mb h₀) (hg : env.globals = mainGlobals) (e : nsIn K mainGlobals x = some (some v))
    (hk : scope.kind = .function) (hx : scope.names.lookup x = some .globalImplicit) (hd : (x == ("__debug__" : Str)) = false) (h : Q v s) :
    wpAny M A (eval (.Name x pos) (genEnv scope cl C code builtinsNs env)) Q E s :=
  wpAny_Name (ks_loadName_global hk hx (loadGlobal_global (by show s.heap.Ns env.globals mg; rw [hg]; exact T.g.keeps F.keep) (mg_of X T.g e) h)) hd
theorem sp1 {env : Env} {e : Expr} {Q : List Value → Shared → Prop} (h : wpAny M A (eval e env) (fun v s' => Q [v] s') E s) (he : starEach [e] env = [(false, eval e env)]) : wpAny M A (spliced (backTo pos (starEach [e] env))) Q E s := by
  rw [he]
  refine spliced_cons ?_
  exact wpAny_mono h (fun v s' h' => spliced_nil h') fun _ _ x => x
theorem sp2 {env : Env} {e f : Expr} {Q : List Value → Shared → Prop} (h : wpAny M A (eval e env) (fun v s' => wpAny M A (eval f env) (fun u s₂ => Q [v, u] s₂) E s') E s) (he : starEach [e, f] env = [(false, eval e env), (false, eval f env)]) : wpAny M A (spliced (backTo pos (starEach [e, f] env))) Q E s := by
  rw [he]
  refine spliced_cons ?_
  exact wpAny_mono h (fun v s' h' => spliced_cons (wpAny_mono h' (fun u s₂ h₂ => spliced_nil h₂) fun _ _ x => x)) fun _ _ x => x
theorem g_len {y : Str} {ty : Tok} {x : Str} (F : Fr h₀ C s.heap m) (X : K.In h₀) (T : Top p loose mean mg mb h₀) (hg : env.globals = mainGlobals) (e : nsIn K mainGlobals "len" = some none) (hv : bootBuiltins "len" = some (.builtin "len"))
    (hk : scope.kind = .function) (hx : scope.names.lookup (Str.ofString "len") = some .globalImplicit) (hx2 : scope.names.lookup x = some .local) (hd2 : (x == ("__debug__" : Str)) = false) (hy : m x = some (.str y ty)) (hlen : y.length ≤ 1000)
    (h : ∀ t' tk, Q (.int (y.length : Nat) t') { s with toks := tk }) :
    wpAny (model prog w) A (eval (.Call (.Name "len" pl) [.Name x px] [] pos) (genEnv scope cl C code builtinsNs env)) Q E s := by
  refine wpAny_Call_NameR (g_builtin F X T hg e hv (by decide) hk hx (by decide) ?_)
  refine PyProof.Rows.callWith_builtin1 (sp1 (g_local F hy hk hx2 hd2 ?_) (by rfl))
  exact PyProof.Rows.len_str (by k_extra "li") (h _ _)
end
end
section
open Builtin Builtin.ObjectAttr Builtin.Getset_descriptor
section
variable {prog : Program} {w : World} {A : Around} {K : Frag} {C : Addr} {R : Result → Shared → Prop} {h : Heap} {g : Array GenState} {d : Drawn} {t : Nat} {os : OsState}
theorem make_L {as : List Value} (ha : Bind.checkArgs "list.__new__" lnSig ⟨.ref C :: as, []⟩ = pure ()) {fI : Addr} (X : K.In h) (Y : MkL (model prog w) h C) (hi : findIn K (.ref C) "__init__" = some (some (.ref fI)))
    (hf : typeIn K (.ref fI) = some (.type "function"))
    (hq : codeAny (model prog w) (A.under (.builtin "type.__call__" ⟨.ref C :: as, []⟩)) (.call (.ref fI) ⟨.ref (h.objs.size + 1) :: as, []⟩) (InitBack (h.objs.size + 1) R) ⟨(h.push emptyDict).push (lstObj C h.objs.size #[] 0), g, d, t, os⟩) :
    codeAny (model prog w) A (.call (.ref C) ⟨as, []⟩) R ⟨h, g, d, t, os⟩ := by
  have Y' := Y
  have hin := looks_findIn (M := model prog w) X hi
  have hbd := fun self => bind_fn (M := model prog w) X self hf
  first | (revert Y; intro hx9; k_extra "xe7"; clear hx9; intro hx9; (first | (k_extra "xq7"; clear hx9; intro oc od cd sl hC e2 e4) | obtain ⟨oc, od, cd, sl, hC, e2, e4⟩ := hx9); intro made base self lst call typ) | obtain ⟨⟨oc, od, cd, sl, hC, e2, e4⟩, made, base, self, lst, call, typ⟩ := Y
  refine codeAny_of_tree ?_
  show wpAny _ _ (callAny (.ref C) _) _ _ _
  refine nd_load hC ?_
  show wpAny _ _ (callAny.viaDunder (.ref C) _) _ _ _
  unfold callAny.viaDunder
  refine wpAny_bind (call.at ?_)
  dsimp only
  rw [tc_bind]
  refine wpAny_bind (wpAny_pure (wpAny_bind (wpAny_pure ?_)))
  refine wpAny_pure (a := Fin.again (.call (.builtin "type.__call__") ⟨.ref C :: as, []⟩)) (And.intro rfl ?_)
  refine codeAny_call_builtin_at (Code.quiet_builtin _ (by decide +kernel)) entry_typeCall (check_slot tc_kind tc_split typ (tc_args _ _ _) ?_)
  unfold Builtin.«type.__call__»
  have hm : Looks (model prog w) h (mroOf (.ref C)) cd.mro := ((Looks.ld (part := none) hC).andThen .now).andThen .now
  repeat (first | simp only [e4, Bool.false_eq_true, if_false] | with_reducible refine wpAny_call ?_ | lk)
  refine newL Y' ha ?_
  have k : ∀ b o, h.get? b = some o → ((h.push emptyDict).push (lstObj C h.objs.size #[] 0)).get? b = some o := fun b o e => Heap.get?_push_of_some _ (Heap.get?_push_of_some _ e)
  have hx : ((h.push emptyDict).push (lstObj C h.objs.size #[] 0)).get? (h.objs.size + 1) = some (lstObj C h.objs.size #[] 0) := by heap_get
  have t1 : Looks (model prog w) ((h.push emptyDict).push (lstObj C h.objs.size #[] 0)) (typeOf (.ref (h.objs.size + 1))) (.ref C) := (Looks.ld hx).andThen .now
  have s1 := self.keeps k
  have i1 := hin.keeps k
  have b1 := (hbd (.ref (h.objs.size + 1))).keeps k
  unfold isInstance callSpecial? specialOf
  repeat (first | with_reducible refine wpAny_call ?_ | lk)
  refine codeAny_mono hq fun r s' z => ?_
  rcases r with e | (v | _ | _ | _) <;> first | exact z | exact z.elim | skip
  first | (revert z; intro hx9; k_extra "xe2"; clear hx9; intro eq9; subst eq9; intro z) | obtain ⟨rfl, z⟩ := z
  exact wpAny_pure (wpAny_pure z)
end
section
variable {prog : Program} {w : World} {A : Around} {E : Value → Shared → Prop} {s : Shared} {L : Addr} {h₀ : Heap} {m : Str → Option Value} {news : List (Addr × Obj)}
theorem acc_init (P : Params) : findIn (K39 P) (.ref 157) "__init__" = some (some (.ref 94)) := by kernel_rfl
theorem acc_fn (P : Params) : typeIn (K39 P) (.ref 94) = some (.type "function") := by kernel_rfl
theorem make_acc {as : List Value} (ha : Bind.checkArgs "list.__new__" lnSig ⟨.ref 157 :: as, []⟩ = pure ()) {Q : Value → Shared → Prop} (F : Fr h₀ L s.heap m) (X₀ : (K39 w.params).In h₀) (N : News h₀ L s.heap news)
    (h : ∀ x dx h', Fr h₀ L h' m → News h₀ L h' ((x, lstObj 157 dx #[] 0) :: (dx, dictOf [] 0) :: news) → (∀ p ∈ news, p.1 < dx) → dx < x →
      codeAny (model prog w) (A.under (.builtin "type.__call__" ⟨.ref 157 :: as, []⟩)) (.call (.ref 94) ⟨.ref x :: as, []⟩) (InitBack x fun r s' => match r with | .ok (.ret v) => Q v s' | .ok _ => False | .error e => E e s') { s with heap := h' }) :
    wpAny (model prog w) A (call (.ref 157) as) Q E s := by
  have X := X₀.keeps F.keep
  first | (revert s; intro hx9; k_extra "xe5"; clear hx9; intro hh g d t os) | obtain ⟨hh, g, d, t, os⟩ := s
  refine wpAny_call (make_L ha X (mkl_of X (acc_mk _)) (acc_init _) (acc_fn _) (h _ hh.objs.size _ ((F.push _).push _) ?_ (fun p hp => Heap.lt_size (N p hp).1) (Nat.lt_succ_self _)))
  have := (N.push F emptyDict).push (F.push _) (lstObj 157 hh.objs.size #[] 0)
  rwa [Heap.size_push] at this
end
end
section
noncomputable def lo (c : Nat) : Nat := if c ≤ 90 then c + 32 else c
section
variable {prog : Program} {w : World} {A : Around} {E : Value → Shared → Prop} {s : Shared} {h₀ : Heap} {L : Addr} {m : Str → Option Value} {news : List (Addr × Obj)} {Q : Value → Shared → Prop} {t u : Tok}
end
end
section

end
section
open StrLaws Builtin.Str
section
variable {prog : Program} {w : World} {A : Around} {E : Value → Shared → Prop} {s : Shared} {Q : Value → Shared → Prop} {t u : Tok}
end
section
variable {prog : Program} {w : World} {A : Around} {E : Value → Shared → Prop} {s : Shared} {h₀ : Heap} {L : Addr} {m : Str → Option Value} {news : List (Addr × Obj)} {value slice : Expr} {l : List Nat} {t : Tok}
end
end
section
theorem sum_fmod_nn : ∀ ns : List Int, 0 ≤ (ns.map fun k => k.fmod (10 ^ Int.toNat 6)).sum
  | [] => Int.le_refl _
  | a :: r => by
    have h1 := sum_fmod_nn r
    have h2 : 0 ≤ a.fmod (10 ^ Int.toNat 6) := Int.fmod_nonneg_of_pos _ (by decide)
    simp only [List.map_cons, List.sum_cons]
    k_extra "li"
theorem join_bnd (l : List Nat) (h : l.length ≤ 1000) : ((l.map fun c => tx [c]).map (·.length)).sum + (l.map fun c => tx [c]).length * (Str.ofString "").length ≤ 16777216 := by
  have e0 : (Str.ofString "").length = 0 := by decide
  have e1 : ∀ l : List Nat, ((l.map fun c => tx [c]).map (·.length)).sum = l.length := by
    intro l
    induction l with
    | nil => rfl
    | cons a r ih =>
      have h1 : (tx [a]).length = 1 := tx_len [a]
      simp only [List.map_cons, List.sum_cons, List.length_cons, ih, h1]
      k_extra "li"
  rw [e0, e1]
  k_extra "li"
theorem sjoin_tx : ∀ l : List Nat, Str.join (Str.ofString "") (l.map fun c => tx [c]) = tx l
  | [] => rfl
  | [c] => rfl
  | c :: d :: r => by
    have ih := sjoin_tx (d :: r)
    simp only [List.map_cons] at ih ⊢
    rw [Str.join, ih]
    · show Str.append (Str.append (tx [c]) (Str.ofString "")) (tx (d :: r)) = tx (c :: d :: r)
      simp [Str.append, tx]
      rfl
    · intro h; cases h
theorem join_tx (l : List Nat) : Txt.join (Str.ofString "") (l.map fun c => tx [c]) = tx l := (PySem.StrLaws.glued_eq_join _ _).trans (sjoin_tx l)
theorem imo_nat {a : Int} {y : Nat} (h : y < 2 ^ 64) : IntMulOk a (y : Int) :=
  IntMulOk.of_right (intBits_le_iff.mpr (by simpa using h))
end
section
section
variable {prog : Program} {w : World} {A : Around} {h₀ : Heap} {L : Addr} {m : Str → Option Value} {env : Env} {elt : Expr} {x : Str} {scope : Scope} {cl : List (Str × Addr)} {s : Shared} {S : List (Addr × Obj) → Prop} {P : Nat → Value → Prop} {Fin : List Value → List (Addr × Obj) → Prop} {news : List (Addr × Obj)}
theorem compL {n : Nat} (J : Nat → List Value → List (Addr × Obj) → Prop) (h0 : J 0 [] news)
    (turn : ∀ i v I oI C oC D m₂ ys nx h tk (E' : Value → Shared → Prop), i < n → P i v → J i ys nx → LCg.NsObj oC m₂ → m₂ x = some v → Fr h₀ L h m → News h₀ L h ((I, oI) :: (C, oC) :: (D, LCg.lst ys) :: nx) → LCg.Off3 I C D nx → ((@Ne Nat I C) ∧ (@Ne Nat I D) ∧ (@Ne Nat C D)) →
      wpAny (model prog w) A (eval elt (compEnvC scope cl C env)) (LCg.CompEnd h₀ L m { s with heap := h, toks := tk } I oI C oC D (LCg.lst ys) S (fun y news' => J (i + 1) (ys ++ [y]) news')) E' { s with heap := h, toks := tk })
    (fin : ∀ ys nx, J n ys nx → Fin ys nx) : LCg.CompRest prog w A h₀ L m env elt x scope cl s S P Fin n 0 [] news := by
  have key : ∀ (j i : Nat) (ys : List Value) (nx : List (Addr × Obj)), i + j = n → J i ys nx → LCg.CompRest prog w A h₀ L m env elt x scope cl s S P Fin j i ys nx := by
    intro j
    induction j with
    | zero =>
      intro i ys nx hi hy
      obtain rfl : i = n := by k_extra "li"
      exact LCg.CompRest.zero (fin ys nx hy)
    | succ j ih =>
      intro i ys nx hi hy
      refine LCg.CompRest.succ ?_
      intro v I oI C oC D m₂ h tk E' hv hC hx F N off ne
      refine wpAny_mono (turn i v I oI C oC D m₂ ys nx h tk E' (by k_extra "li") hv hy hC hx F N off ne) (fun y s₂ hq => ?_) fun _ _ e => e
      first | (revert hq; intro hx9; k_extra "xe9"; clear hx9; intro h' tk' nw e F' N' off' hS hr) | obtain ⟨h', tk', nw, e, F', N', off', hS, hr⟩ := hq
      exact ⟨h', tk', nw, e, F', N', off', hS, ih (i + 1) _ _ (by k_extra "li") hr⟩
  exact key n 0 [] news (by k_extra "li") h0
end
section
variable {prog : Program} {w : World} {A : Around} {E : Value → Shared → Prop} {s : Shared} {env : Env}
noncomputable def TurnG (I : Shared → Prop) (Q : Flow → Shared → Prop) (f : Flow) (s₂ : Shared) : Prop :=
  match f with
  | .next | .cont => I s₂
  | .ret v => Q (.ret v) s₂
  | .brk => Q .next s₂
end
section
variable {prog : Program} {w : World} {A : Around} {s : Shared} {env : Env} {h₀ : Heap}
noncomputable def RGat (prog : Program) (w : World) (A : Around) (h₀ : Heap) (env : Env) (x : Str) (body : List Stmt) (Q : Flow → Shared → Prop) (n : Nat) (J : Nat → (Str → Option Value) → List (Addr × Obj) → Prop) (xv : Value) (s₁ : Shared) : Prop :=
  ∃ (r : Addr) (t₀ u₀ v₀ : Tok) (b₀ : Int) (m : Str → Option Value) (nx : List (Addr × Obj)), xv = .ref r ∧ A.handled = none ∧ IsRange s₁.heap r 0 b₀ 1 t₀ u₀ v₀ ∧ b₀ = (n : Int) ∧ n ≤ 1000 ∧ Fr h₀ env.locals s₁.heap m ∧ News h₀ env.locals s₁.heap nx ∧ AllBare s₁.gens ∧ J 0 m nx ∧
    (∀ (i : Nat) (t : Tok) (m₁ : Str → Option Value) (nx₁ : List (Addr × Obj)) (s₂ : Shared) (I : Addr) (oI : Obj), i < n → J i m₁ nx₁ → s₂.os = s₁.os → AllBare s₂.gens → Fr h₀ env.locals s₂.heap (fun y => if y = x then some (.int (i : Int) t) else m₁ y) → News h₀ env.locals s₂.heap ((I, oI) :: nx₁) → oI.cls = .type "range_iterator" → (∀ q ∈ nx₁, q.1 ≠ I) →
      wpAny (model prog w) A (execs body env) (TurnG (fun s₃ => ∃ m₃ nx₃, Fr h₀ env.locals s₃.heap m₃ ∧ News h₀ env.locals s₃.heap ((I, oI) :: nx₃) ∧ (∀ q ∈ nx₃, q.1 ≠ I) ∧ AllBare s₃.gens ∧ s₃.os = s₁.os ∧ J (i + 1) m₃ nx₃) Q) NoE s₂) ∧
    (∀ (m₁ : Str → Option Value) (nx₁ : List (Addr × Obj)) (s₂ : Shared), J n m₁ nx₁ → s₂.os = s₁.os → AllBare s₂.gens → Fr h₀ env.locals s₂.heap m₁ → News h₀ env.locals s₂.heap nx₁ → Q .next s₂)
theorem forRG {Q : Flow → Shared → Prop} {x : Str} {px pos : Pos} {iter : Expr} {body : List Stmt} (h₀ : Heap) (n : Nat) (J : Nat → (Str → Option Value) → List (Addr × Obj) → Prop) (hx : env.kindOf x = some .local)
    (hp : (env.scope.kind == .class || (env.scope.kind == .module && env.locals != env.globals)) = false)
    (h : wpAny (model prog w) A (eval iter env) (fun xv s₁ => RGat prog w A h₀ env x body Q n J xv s₁) NoE s)
    (hs : ∀ x, foldedSetIterable iter env x = pure x) :
    wpAny (model prog w) A (exec (.For (.Name x px) iter body [] pos) env) Q NoE s := by
  have hE : PassesOwn (model prog w) A env NoE := by passes_own
  refine wpAny_For (wpAny_mono h (fun xv s₁ h₁ => ?_) fun _ _ e => e) hs
  first | (revert h₁; intro hx9; k_extra "xe18"; clear hx9; intro r t₀ u₀ v₀ b₀ m nx eq9; subst eq9; intro hh hr eq9; subst eq9; intro hn F N G h0 turn done) | obtain ⟨r, t₀, u₀, v₀, b₀, m, nx, rfl, hh, hr, rfl, hn, F, N, G, h0, turn, done⟩ := h₁
  refine wpAny_pyIter_range hr (small_one (by k_extra "li") (by k_extra "li") (by k_extra "li") (by k_extra "li")) ?_
  have hsz : Builtin.Range.rangeSize 0 (n : Int) 1 = (n : Int) := by rw [rangeSize_one]; split <;> k_extra "li"
  rw [hsz]
  generalize hIr : s₁.heap.objs.size = Ir
  have W : Walks prog w A Ir [Ir] [Ir] n (fun i v => ∃ t, v = .int ((0 : Int) + i * 1) t) (fun i h => IsRangeIter h Ir ((0 : Int) + (i : Nat) * 1) ((n : Int) - (i : Nat)) 1) := Walks.range hh Ir 0 1 n
  have hI₀ : h₀.get? Ir = none := by rw [← hIr]; exact next_is_new F
  have hIL : Ir ≠ env.locals := by rw [← hIr]; exact fun e => absurd F.ns.lt (e ▸ Nat.lt_irrefl _)
  refine codeAny_forLoop
    (fun k s' => ∃ i m' nx', i ≤ n ∧ k = n + 1 - i ∧ IsRangeIter s'.heap Ir ((0 : Int) + (i : Nat) * 1) ((n : Int) - (i : Nat)) 1 ∧ Fr h₀ env.locals s'.heap m' ∧ News h₀ env.locals s'.heap nx' ∧ (∀ q ∈ nx', q.1 ≠ Ir) ∧ AllBare s'.gens ∧ s'.os = s₁.os ∧ J i m' nx') ?_ (n + 1)
    (mx3 0 m nx ⟨Nat.zero_le _, rfl, ?_, F.push _, fun p hp => ⟨Heap.get?_push_of_some _ (N p hp).1, (N p hp).2⟩, fun q hq e => ?_, G, rfl, h0⟩)
  · intro k s' hx9
    first | (k_extra "xq12"; clear hx9; intro i m' nx' hi eq9; subst eq9; intro hst' F' N' off' G' hos hJ) | obtain ⟨i, m', nx', hi, rfl, hst', F', N', off', G', hos, hJ⟩ := hx9
    have old : ∀ b o, h₀.get? b = some o → b ∉ [Ir] := fun b o e hb => by rw [List.mem_singleton.mp hb, hI₀] at e; cases e
    have next : ∀ h₁ : Heap, (∀ b o, b ∉ [Ir] → s'.heap.get? b = some o → h₁.get? b = some o) → Fr h₀ env.locals h₁ m' ∧ News h₀ env.locals h₁ nx' := fun h₁ hk₁ =>
      ⟨⟨F'.ns.at' fun o e => hk₁ _ o (fun q => hIL (List.mem_singleton.mp q).symm) e, fun b o e => hk₁ b o (old b o e) (F'.keep b o e), F'.above⟩, fun p hp => ⟨hk₁ _ _ (fun q => off' p hp (List.mem_singleton.mp q)) (N' p hp).1, (N' p hp).2⟩⟩
    by_cases hlt : i < n
    · refine W.item i s' _ _ hlt hst' fun v h₁ tk₁ hP hst₁ hk₁ => ?_
      first | (revert hP; intro hx9; k_extra "xe2"; clear hx9; intro t eq9; subst eq9) | obtain ⟨t, rfl⟩ := hP
      have hx9 := next h₁ hk₁
      first | (k_extra "xe2"; clear hx9; intro F₁ N₁) | obtain ⟨F₁, N₁⟩ := hx9
      refine wpAny_assign_Name (wpAny_storeName_local hx F₁.ns (fun h₂ hn₂ hs₂ => ?_) hp)
      have F₂ := F₁.set hn₂ hs₂
      have hst₂ : IsRangeIter h₂ Ir ((0 : Int) + ((i + 1 : Nat) : Int) * 1) ((n : Int) - ((i + 1 : Nat) : Int)) 1 := W.frame _ _ _ hst₁ fun b hb o e => (hs₂.2 b fun q => hIL (by rw [← List.mem_singleton.mp hb]; exact q)).trans e
      have e1 : (0 : Int) + (i : Int) * 1 = (i : Int) := by k_extra "li"
      rw [e1] at F₂
      have N₂ : News h₀ env.locals h₂ ((Ir, _) :: nx') := fun p hp => by
        rcases List.mem_cons.mp hp with rfl | hp
        · exact ⟨hst₂, hIL, hI₀⟩
        · exact (N₁.set hs₂) p hp
      refine wpAny_passesOwn hE (wpAny_mono (turn i t m' nx' _ Ir _ hlt hJ (by exact hos) (by exact G') F₂ N₂ rfl off') (fun f s₃ h₃ => ?_) fun _ _ e => e)
      have fin : (∃ m₃ nx₃, Fr h₀ env.locals s₃.heap m₃ ∧ News h₀ env.locals s₃.heap ((Ir, { cls := .type "range_iterator", dict := none, data := .fields #[rawInt ((0 : Int) + ((i + 1 : Nat) : Int) * 1), rawInt ((n : Int) - ((i + 1 : Nat) : Int)), rawInt 1], slots := #[] }) :: nx₃) ∧ (∀ q ∈ nx₃, q.1 ≠ Ir) ∧ AllBare s₃.gens ∧ s₃.os = s₁.os ∧ J (i + 1) m₃ nx₃) →
          ∃ k', k' < n + 1 - i ∧ ∃ i' m' nx', i' ≤ n ∧ k' = n + 1 - i' ∧ IsRangeIter s₃.heap Ir ((0 : Int) + (i' : Nat) * 1) ((n : Int) - (i' : Nat)) 1 ∧ Fr h₀ env.locals s₃.heap m' ∧ News h₀ env.locals s₃.heap nx' ∧ (∀ q ∈ nx', q.1 ≠ Ir) ∧ AllBare s₃.gens ∧ s₃.os = s₁.os ∧ J i' m' nx' := by
        intro hx9
        first | (k_extra "xq8"; clear hx9; intro m₃ nx₃ F₃ N₃ ni G₃ os₃ J₃) | obtain ⟨m₃, nx₃, F₃, N₃, ni, G₃, os₃, J₃⟩ := hx9
        refine mx1 (n + 1 - (i + 1)) ⟨nt_dec hlt, mx3 (i + 1) m₃ nx₃ ⟨hlt, rfl, (N₃ _ (.head _)).1, F₃, fun p hp => N₃ p (.tail _ hp), fun q hq e => ?_, G₃, os₃, J₃⟩⟩
        exact ni q hq e
      cases f with
      | ret v => exact h₃
      | brk => exact h₃
      | next => exact fin h₃
      | cont => exact fin h₃
    · have hin : i = n := by k_extra "li"
      subst hin
      refine W.done s' _ _ hst' fun h₁ tk₁ hk₁ => wpAny_execs_nil ?_
      have hx9 := next h₁ hk₁
      first | (k_extra "xe2"; clear hx9; intro F₁ N₁) | obtain ⟨F₁, N₁⟩ := hx9
      exact done m' nx' _ hJ (by exact hos) (by exact G') F₁ N₁
  · show IsRangeIter _ _ _ _ _
    rw [← hIr]
    simpa using Heap.get?_push_size _ rfl
  · rw [← hIr] at e
    exact absurd (Heap.lt_size (N q hq).1) (e ▸ Nat.lt_irrefl _)
end
noncomputable def NotTab (q : Addr × Obj) : Prop := (∃ v, q.2.data = .cell v) ∨ (q.2.cls ≠ .none ∧ ∀ vs, q.2.data ≠ .fields vs) ∨ @Eq Nat q.1 119 ∨ @Eq Nat q.1 126
theorem Off.more {own news add : List (Addr × Obj)} (h : Mine.Off own news) (h2 : ∀ p ∈ own, ∀ q ∈ add, q.1 ≠ p.1) : Mine.Off own (news ++ add) := fun p hp q hq => by
  rcases List.mem_append.mp hq with hq | hq
  · exact h p hp q hq
  · exact h2 p hp q hq
theorem Tbs.more {own1 own2 news add : CbLed} (T : Tbs own1 own2 news) (h : ∀ p ∈ own1 ++ own2, ∀ q ∈ add, q.1 ≠ p.1) : Tbs own1 own2 (news ++ add) :=
  ⟨T.1, T.2.1, by
    have := Off.more T.2.2.1 (add := add) fun p hp q hq => h p (List.mem_append_left _ hp) q hq
    rwa [List.append_assoc] at this, Off.more T.2.2.2 fun p hp q hq => h p (List.mem_append_right _ hp) q hq⟩
theorem TbsM.less {own1 own2 news add : CbLed} (T : TbsM own1 own2 (news ++ add)) : TbsM own1 own2 news :=
  ⟨T.1, T.2.1, fun p hp q hq => T.2.2.1 p hp q (by
    rcases List.mem_append.mp hq with hq | hq
    · exact List.mem_append_left _ hq
    · exact List.mem_append_right _ (List.mem_append_left _ hq)), fun p hp q hq => T.2.2.2 p hp q (List.mem_append_left _ hq)⟩
theorem TbsM.offs {own1 own2 news : CbLed} (T : TbsM own1 own2 news) : ∀ p ∈ own1 ++ own2, ∀ q ∈ news, q.1 ≠ p.1 := fun p hp q hq => by
  rcases List.mem_append.mp hp with hp | hp
  · exact T.2.2.1 p hp q (List.mem_append_right _ hq)
  · exact T.2.2.2 p hp q hq
theorem ints_at {vs : List Value} {ns : List Int} {i : Nat} {v : Value} (h : IntsAre vs ns) (hv : vs[i]? = some v) : ∃ t, v = .int (ns.getD i 0) t := by
  have hx9 := IntsAre.at h i v hv
  first | (k_extra "xe4"; clear hx9; intro k t e hk) | obtain ⟨k, t, e, hk⟩ := hx9
  exact ⟨t, by rw [e]; simp [List.getD, hk]⟩
theorem TbM.off {P : Addr} {line col : Nat} {qual : Str} {own news : List (Addr × Obj)} {h₀ h : Heap} {L : Addr} (N : News h₀ L h (own ++ news)) (T : TbM P line col qual own) (h1 : ∀ q ∈ news, NotTab q) (h2 : @Ne Nat P 119 ∧ @Ne Nat P 126) (h3 : ∀ q ∈ own, @Ne Nat q.1 119 ∧ @Ne Nat q.1 126) : Off own news := by
  intro p hp q hq e
  have a1 := (N p (List.mem_append_left _ hp)).1
  have a2 := (N q (List.mem_append_right _ hq)).1
  rw [e, a1] at a2
  have a3 := Option.some.inj a2
  have hf : ∃ vs, p.2.data = .fields vs := by
    first | (revert T; intro hx9; k_extra "xe8"; clear hx9; intro c' oc vs t eq9; subst eq9; intro hd _ _) | obtain ⟨c', oc, vs, t, rfl, hd, _, _⟩ := T
    rcases List.mem_cons.mp hp with rfl | hp
    · exact ⟨vs, hd⟩
    · rw [List.mem_singleton.mp hp]; exact ⟨_, rfl⟩
  first | (revert hf; intro hx9; k_extra "xe2"; clear hx9; intro vs hf) | obtain ⟨vs, hf⟩ := hf
  rcases h1 q hq with ⟨v, hv⟩ | ⟨_, hv⟩ | hv | hv
  · rw [← a3, hf] at hv; cases hv
  · exact hv vs (by rw [← a3, hf])
  · exact (h3 p hp).1 (e ▸ hv)
  · exact (h3 p hp).2 (e ▸ hv)
end
section
section
variable {prog : Program} {w : World} {A : Around} {s : Shared} {env : Env} {h₀ : Heap}
noncomputable def TurnEnd (h₀ : Heap) (L : Addr) (J : (Str → Option Value) → List (Addr × Obj) → Prop) (I : Addr) (own : List (Addr × Obj)) (os : OsState) (s₃ : Shared) : Prop :=
  ∃ m₃ nx₃, Fr h₀ L s₃.heap m₃ ∧ News h₀ L s₃.heap (nx₃ ++ own) ∧ (∀ q ∈ nx₃, q.1 ≠ I) ∧ AllBare s₃.gens ∧ s₃.os = os ∧ J m₃ nx₃
theorem loopG {target : Expr} {body : List Stmt} {Q : Flow → Shared → Prop} {I : Addr} {fs : List Addr} {n : Nat} {P : Nat → Value → Prop} {St : Nat → Heap → Prop} {m : Str → Option Value} {nx own : List (Addr × Obj)} (J : Nat → (Str → Option Value) → List (Addr × Obj) → Prop)
    (W : Walks prog w A I (I :: fs) [I] n P St) (cI : Value) (hIo : ∀ i h, St i h → ∃ oI, h.get? I = some oI ∧ oI.cls = cI ∧ ∃ vs, oI.data = .fields vs) (hfs : ∀ b ∈ fs, ∃ o, (b, o) ∈ own) (hI₀ : h₀.get? I = none) (hIL : I ≠ env.locals)
    (hgo : ∀ i (s' : Shared) v (Q' : Unit → Shared → Prop), St i s'.heap → Q' () s' → wpAny (model prog w) A (letOwnedTupleGo target (.ref I) v) Q' NoE s')
    (hst : St 0 s.heap) (F : Fr h₀ env.locals s.heap m) (N : News h₀ env.locals s.heap (nx ++ own)) (off : ∀ q ∈ nx ++ own, q.1 ≠ I) (G : AllBare s.gens) (h0 : J 0 m nx)
    (turn : ∀ (i : Nat) v (m₁ : Str → Option Value) (nx₁ : List (Addr × Obj)) (s₂ : Shared) (oI : Obj), i < n → P i v → J i m₁ nx₁ → s₂.os = s.os → AllBare s₂.gens → Fr h₀ env.locals s₂.heap m₁ → News h₀ env.locals s₂.heap (nx₁ ++ ((I, oI) :: own)) → oI.cls = cI → (∀ q ∈ nx₁ ++ own, q.1 ≠ I) →
      wpAny (model prog w) A (assign target env v) (fun _ s₃ => wpAny (model prog w) A (execs body env) (TurnG (TurnEnd h₀ env.locals (J (i + 1)) I ((I, oI) :: own) s.os) Q) NoE s₃) NoE s₂)
    (done : ∀ (m₁ : Str → Option Value) (nx₁ : List (Addr × Obj)) (s₂ : Shared), J n m₁ nx₁ → s₂.os = s.os → AllBare s₂.gens → Fr h₀ env.locals s₂.heap m₁ → News h₀ env.locals s₂.heap (nx₁ ++ own) → Q .next s₂) :
    codeAny (model prog w) A (.forLoop target (.ref I) body [] env) (fun r s' => match r with | .ok f => Q f s' | .error e => cameBackBy (model prog w) A env NoE e s') s := by
  have hE : PassesOwn (model prog w) A env NoE := by passes_own
  refine codeAny_forLoop_any
    (fun k s' => ∃ i m' nx', i ≤ n ∧ k = n + 1 - i ∧ St i s'.heap ∧ Fr h₀ env.locals s'.heap m' ∧ News h₀ env.locals s'.heap (nx' ++ own) ∧ (∀ q ∈ nx' ++ own, q.1 ≠ I) ∧ AllBare s'.gens ∧ s'.os = s.os ∧ J i m' nx') ?_ (n + 1)
    (mx3 0 m nx ⟨Nat.zero_le _, rfl, hst, F, N, off, G, rfl, h0⟩)
  intro k s' hx9
  first | (k_extra "xq12"; clear hx9; intro i m' nx' hi eq9; subst eq9; intro hst' F' N' off' G' hos hJ) | obtain ⟨i, m', nx', hi, rfl, hst', F', N', off', G', hos, hJ⟩ := hx9
  have old : ∀ b o, h₀.get? b = some o → b ∉ [I] := fun b o e hb => by rw [List.mem_singleton.mp hb, hI₀] at e; cases e
  have next : ∀ h₁ : Heap, (∀ b o, b ∉ [I] → s'.heap.get? b = some o → h₁.get? b = some o) → Fr h₀ env.locals h₁ m' ∧ News h₀ env.locals h₁ (nx' ++ own) := fun h₁ hk₁ =>
    ⟨⟨F'.ns.at' fun o e => hk₁ _ o (fun q => hIL (List.mem_singleton.mp q).symm) e, fun b o e => hk₁ b o (old b o e) (F'.keep b o e), F'.above⟩, fun p hp => ⟨hk₁ _ _ (fun q => off' p hp (List.mem_singleton.mp q)) (N' p hp).1, (N' p hp).2⟩⟩
  by_cases hlt : i < n
  · refine W.item i s' _ _ hlt hst' fun v h₁ tk₁ hP hst₁ hk₁ => ?_
    have hx9 := next h₁ hk₁
    first | (k_extra "xe2"; clear hx9; intro F₁ N₁) | obtain ⟨F₁, N₁⟩ := hx9
    have hx9 := hIo _ _ hst₁
    first | (k_extra "xe5"; clear hx9; intro oI hI hIc vs hId) | obtain ⟨oI, hI, hIc, vs, hId⟩ := hx9
    refine wpAny_passesOwn hE (hgo _ _ _ _ hst₁ ?_)
    have N₂ : News h₀ env.locals h₁ (nx' ++ ((I, oI) :: own)) := fun p hp => by
      rcases List.mem_append.mp hp with hp | hp
      · exact N₁ p (List.mem_append_left _ hp)
      · rcases List.mem_cons.mp hp with rfl | hp
        · exact ⟨hI, hIL, hI₀⟩
        · exact N₁ p (List.mem_append_right _ hp)
    refine wpAny_mono (turn i v m' nx' { s' with heap := h₁, toks := tk₁ } oI hlt hP hJ (by exact hos) (by exact G') F₁ N₂ hIc off') (fun _ s₃ h₃ => wpAny_passesOwn hE (wpAny_mono h₃ (fun f s₄ h₄ => ?_) fun _ _ e => e)) (fun _ _ e => e.elim)
    have fin : TurnEnd h₀ env.locals (J (i + 1)) I ((I, oI) :: own) s.os s₄ →
        ∃ k', k' < n + 1 - i ∧ ∃ i' m' nx', i' ≤ n ∧ k' = n + 1 - i' ∧ St i' s₄.heap ∧ Fr h₀ env.locals s₄.heap m' ∧ News h₀ env.locals s₄.heap (nx' ++ own) ∧ (∀ q ∈ nx' ++ own, q.1 ≠ I) ∧ AllBare s₄.gens ∧ s₄.os = s.os ∧ J i' m' nx' := by
      intro hx9
      first | (k_extra "xq8"; clear hx9; intro m₃ nx₃ F₃ N₃ ni G₃ os₃ J₃) | obtain ⟨m₃, nx₃, F₃, N₃, ni, G₃, os₃, J₃⟩ := hx9
      have hI4 := (N₃ (I, oI) (List.mem_append_right _ (.head _))).1
      refine mx1 (n + 1 - (i + 1)) ⟨nt_dec hlt, mx3 (i + 1) m₃ nx₃ ⟨hlt, rfl, W.frame _ _ _ hst₁ ?_, F₃, fun p hp => ?_, fun q hq e => ?_, G₃, os₃, J₃⟩⟩
      · intro b hb o e
        rcases List.mem_cons.mp hb with rfl | hb
        · rw [hI] at e
          rw [← e]; exact hI4
        · have hx9 := hfs b hb
          first | (k_extra "xe2"; clear hx9; intro o' ho') | obtain ⟨o', ho'⟩ := hx9
          have e1 := (N₁ (b, o') (List.mem_append_right _ ho')).1
          have e2 := (N₃ (b, o') (List.mem_append_right _ (.tail _ ho'))).1
          rw [← e, e1, e2]
      · rcases List.mem_append.mp hp with hp | hp
        · exact N₃ p (List.mem_append_left _ hp)
        · exact N₃ p (List.mem_append_right _ (.tail _ hp))
      · rcases List.mem_append.mp hq with hq | hq
        · exact ni q hq e
        · exact off' q (List.mem_append_right _ hq) e
    cases f with
    | ret v => exact h₄
    | brk => exact h₄
    | next => exact fin h₄
    | cont => exact fin h₄
  · have hin : i = n := by k_extra "li"
    subst hin
    refine W.done s' _ _ hst' fun h₁ tk₁ hk₁ => wpAny_execs_nil ?_
    have hx9 := next h₁ hk₁
    first | (k_extra "xe2"; clear hx9; intro F₁ N₁) | obtain ⟨F₁, N₁⟩ := hx9
    exact done m' nx' _ hJ (by exact hos) (by exact G') F₁ N₁
end
end
section
theorem tups_snoc (l : List Pr) (q : Pr) : tups (l ++ [q]) = tups l ++ [(q.a, q.obj)] := by simp [tups]
theorem refs_snoc (l : List Pr) (q : Pr) : refs (l ++ [q]) = refs l ++ [.ref q.a] := by simp [refs]
theorem ne_obj {h₀ h : Heap} {L a b : Addr} {o o' : Obj} {news : List (Addr × Obj)} (N : News h₀ L h news) (hp : (a, o) ∈ news) (hc : (b, o') ∈ news) (hne : o.cls ≠ o'.cls) : @Ne Nat a b := fun e => by
  have h1 : h.get? a = some o := (N _ hp).1
  have h2 : h.get? b = some o' := (N _ hc).1
  rw [show b = a from e.symm, h1] at h2
  exact hne (by rw [Option.some.inj h2])
theorem nt_addr {a b : Nat} {o : Obj} (h : a ≠ b) : ((a, o) : Addr × Obj).2.cls ≠ .none ∨ @Ne Nat ((a, o) : Addr × Obj).1 b := .inr h
theorem notAcc_cell {a : Addr} {o : Obj} {v : Option Value} (h : o.data = .cell v) : NotAcc (a, o) := .inr fun b n e => by
  have e' : o.data = .seq b n := e
  rw [h] at e'; cases e'
theorem notAcc_tab {P : Addr} {line col : Nat} {qual : Str} {own : List (Addr × Obj)} (T : TbM P line col qual own) : ∀ p ∈ own, NotAcc p := by
  first | (revert T; intro hx9; k_extra "xe8"; clear hx9; intro c' oc vs t eq9; subst eq9; intro hd _ _) | obtain ⟨c', oc, vs, t, rfl, hd, _, _⟩ := T
  intro p hp
  rcases List.mem_cons.mp hp with rfl | hp
  · refine .inr fun b n e => ?_
    have e' : oc.data = .seq b n := e
    rw [hd] at e'; cases e'
  · rw [List.mem_singleton.mp hp]
    exact .inl fun e => by cases e
theorem notAcc_tups (l : List Pr) : ∀ p ∈ tups l, NotAcc p := fun p hp => .inl (by rw [tups_cls hp]; exact fun e => by cases e)
theorem locS {h₀ h : Heap} {L : Addr} {x : Str} {v : Value} {m : Str → Option Value} {ps : List (Str × Value)} (F : Fr h₀ L h (fun y => if y = x then some v else m y)) (hk : ∀ p ∈ ps, m p.1 = some p.2) : Loc h₀ L h ((x, v) :: ps) := by
  refine ⟨m, ?_⟩
  have e : kstB m ((x, v) :: ps) = fun y => if y = x then some v else m y := by
    show (fun z => if z = x then some v else kstB m ps z) = _
    rw [kstB_id hk]
  rw [e]; exact F
section
variable {prog : Program} {w : World} {A : Around} {E : Value → Shared → Prop} {s : Shared} {h₀ : Heap} {L : Addr} {m : Str → Option Value} {news : List (Addr × Obj)} {value slice : Expr} {l : List Nat} {t u uk : Tok} {Q : Value → Shared → Prop}
theorem it_ints {D : Addr} {us : List Value} {kk : Nat} {ns : List Int} {k : Nat} (N : News h₀ L s.heap news) (hm : (D, listOf us.toArray kk) ∈ news) (hi : IntsAre us ns) (hk : k < ns.length) (hz : ns.length ≤ 1000) (h : ∀ t', Q (.int (ns.getD k 0) t') s)
    (hs : subscripted slice false (.ref D) (.int (k : Int) u) = operate [.ref D, .int (k : Int) u] (getItem (.ref D) (.int (k : Int) u))) :
    wpAny (model prog w) A (subscriptTail value slice (.ref D) (.int (k : Int) u)) Q E s := by
  have hx9 := hi.get k (ns.getD k 0) (by simp [List.getD, List.getElem?_eq_getElem hk])
  first | (k_extra "xe2"; clear hx9; intro t' ht) | obtain ⟨t', ht⟩ := hx9
  refine itemN N hm (by k_extra "li") (by k_extra "li") ?_ (h t') hs
  rw [Int.toNat_natCast]
  simpa using ht
end
end
section
section
variable {prog : Program} {w : World} {A : Around} {E : Value → Shared → Prop} {s : Shared} {env : Env} {h₀ : Heap} {L : Addr} {m : Str → Option Value}
end
theorem join_pair (b s : Str) : Txt.join (Str.ofString "") [b, s] = b ++ s := by
  refine (PySem.StrLaws.glued_eq_join _ _).trans ?_
  show Str.append (Str.append b (Str.ofString "")) s = Str.append b s
  rw [show Str.append b (Str.ofString "") = b from PySem.Str.append_empty b]
theorem tups_neC {h₀ h : Heap} {L b : Addr} {oc : Obj} {l : List Pr} {news : List (Addr × Obj)} (N : News h₀ L h news) (hs : ∀ p ∈ tups l, p ∈ news) (hc : (b, oc) ∈ news) (hd : oc.cls ≠ .type "tuple") : ∀ p ∈ tups l, p.1 ≠ b := by
  intro p hp
  have hx9 := List.mem_map.mp hp
  first | (k_extra "xe3"; clear hx9; intro q _ eq9; subst eq9) | obtain ⟨q, _, rfl⟩ := hx9
  exact ne_obj N (hs _ hp) hc (fun e => hd e.symm)
theorem tup2_ne {prog : Program} {w : World} {A : Around} {E : Value → Shared → Prop} {s : Shared} {h₀ : Heap} {L a b : Addr} {news : List (Addr × Obj)} {v1 v2 u1 u2 : Value} {d1 d2 : PyData} {ka kb : Nat} {Q : Value → Shared → Prop} (N : News h₀ L s.heap news)
    (ma : (a, ({ cls := .type "tuple", data := .seq #[v1, v2] ka } : Obj)) ∈ news) (mb : (b, ({ cls := .type "tuple", data := .seq #[u1, u2] kb } : Obj)) ∈ news) (r1 : Reads s.heap v1 d1 []) (r2 : Reads s.heap v2 d2 []) (r3 : Reads s.heap u1 d1 []) (r4 : Reads s.heap u2 d2 [])
    (hl : SeqAt.shaped (.tuple [d1, d2]) = true) (he : PyData.eqv (.tuple [d1, d2]) (.tuple [d1, d2]) = true) (hu : A.units + 64 < cLine) (h : Q (.bool false) s) : wpAny (model prog w) A (compareOp .NotEq (.ref a) (.ref b)) Q E s := by
  refine SeqAt.compareNe_shaped (da := .tuple [d1, d2]) (db := .tuple [d1, d2]) (.tuple (N _ ma).1 rfl rfl (.cons r1 (.cons r2 .nil))) (.tuple (N _ mb).1 rfl rfl (.cons r3 (.cons r4 .nil))) hl hl hu ?_
  rw [he]
  exact h
theorem eqv_ints (q r : Int) : SeqAt.shaped (.tuple [.int q, .int r]) = true ∧ PyData.eqv (.tuple [.int q, .int r]) (.tuple [.int q, .int r]) = true := by
  refine ⟨?_, ?_⟩
  · rfl
  · simp [PyData.eqv, PyData.eqvAll]
theorem eqv_nils : SeqAt.shaped (.tuple [.str (Str.ofString ""), .str (Str.ofString "")]) = true ∧ PyData.eqv (.tuple [.str (Str.ofString ""), .str (Str.ofString "")]) (.tuple [.str (Str.ofString ""), .str (Str.ofString "")]) = true := by
  refine ⟨?_, ?_⟩
  · decide +kernel
  · decide +kernel
theorem tbs_of {own1 own2 rest0 rest : CbLed} {h₀ h : Heap} {L : Addr} {o1 o2 : Obj} (T : TbsM own1 own2 rest0) (N : News h₀ L h (rest ++ (own1 ++ own2))) (h63 : ((119, o1) : Addr × Obj) ∈ rest0) (h70 : ((126, o2) : Addr × Obj) ∈ rest0) (hr : ∀ q ∈ rest, NotTab q) : TbsM own1 own2 rest := by
  have hf := T.offs
  have a1 : ∀ q ∈ own1, @Ne Nat q.1 119 ∧ @Ne Nat q.1 126 := fun q hq => ⟨Ne.symm (hf q (List.mem_append_left _ hq) _ h63), Ne.symm (hf q (List.mem_append_left _ hq) _ h70)⟩
  have a2 : ∀ q ∈ own2, @Ne Nat q.1 119 ∧ @Ne Nat q.1 126 := fun q hq => ⟨Ne.symm (hf q (List.mem_append_right _ hq) _ h63), Ne.symm (hf q (List.mem_append_right _ hq) _ h70)⟩
  have b1 : Mine.Off own1 rest := TbM.off (News.perm N (fun p hp => by
    rcases List.mem_append.mp hp with hp | hp
    · exact List.mem_append_right _ (List.mem_append_left _ hp)
    · exact List.mem_append_left _ hp)) T.1 hr ⟨by decide, by decide⟩ a1
  have b2 : Mine.Off own2 rest := TbM.off (News.perm N (fun p hp => by
    rcases List.mem_append.mp hp with hp | hp
    · exact List.mem_append_right _ (List.mem_append_right _ hp)
    · exact List.mem_append_left _ hp)) T.2.1 hr ⟨by decide, by decide⟩ a2
  refine ⟨T.1, T.2.1, fun p hp q hq => ?_, b2⟩
  rcases List.mem_append.mp hq with hq | hq
  · exact T.2.2.1 p hp q (List.mem_append_left _ hq)
  · exact b1 p hp q hq
theorem notTab_tups (l : List Pr) : ∀ q ∈ tups l, NotTab q := fun q hq => by
  have hx9 := List.mem_map.mp hq
  first | (k_extra "xe3"; clear hx9; intro p _ eq9; subst eq9) | obtain ⟨p, _, rfl⟩ := hx9
  exact .inr (.inl ⟨(fun e => by cases e), (fun vs e => by cases e)⟩)
theorem notTab_cell {a : Addr} {o : Obj} {v : Option Value} (h : o.data = .cell v) : NotTab (a, o) := .inl ⟨v, h⟩
theorem notTab_63 {o : Obj} : NotTab ((119, o) : Addr × Obj) := .inr (.inr (.inl rfl))
theorem notTab_70 {o : Obj} : NotTab ((126, o) : Addr × Obj) := .inr (.inr (.inr rfl))
section
variable {prog : Program} {w : World} {A : Around} {h₀ : Heap} {L : Addr} {m : Str → Option Value} {env : Env} {elt : Expr} {x x₂ : Str} {scope : Scope} {cl : List (Str × Addr)} {s : Shared} {S : List (Addr × Obj) → Prop} {P : Nat → Value → Prop} {Fin : List Value → List (Addr × Obj) → Prop} {news : List (Addr × Obj)}
end
theorem take_snocN {l : List Nat} {i : Nat} (h : i < l.length) : l.take (i + 1) = l.take i ++ [l.getD i 0] := by
  rw [List.take_add_one, List.getElem?_eq_getElem h]
  simp [List.getD, List.getElem?_eq_getElem h]
end
section
theorem push_c (w : World) (loose : List Str) (mean : ExcName → Option Value) (mg mb : Str → Option Value) : ∀ (news : CbLed) (x dx : Addr) (its : List Value) (n : Nat) (od : List DictEntry) (nd : Nat) (b : Str) (tb : Tok) (sg : Str) (ts : Tok), its.length ≤ 500 → getL (Str.ofString "append") od = some none → NoAcc x news →
   Cl PySem.Challenge.rw_sr0059_02.row.prog w (K39 w.params) topProg loose mean mg mb 101 10 100 ((x, lstObj 157 dx its.toArray n) :: (dx, dictOf od nd) :: news) [.ref x, .str b tb, .str sg ts]
     (fun r nx => r = .none ∧ ∃ (T : Addr) (m : Nat), nx = (T, { cls := .type "tuple", data := .seq #[.str b tb, .str sg ts] }) :: (x, lstObj 157 dx (its ++ [Value.ref T]).toArray m) :: (dx, dictOf od nd) :: news ) := by
  k_fill
  intro news x dx its n od nd b tb sg ts hlen hod hna
  refine Cl.mk ?_
  intro dp un gd cn cs ca ccd cl outer A₀ base h₀ L m s Q E kB kF kX kN kT kcs kd ku hret
  have hx9 := acc_ne kN hna
  first | (k_extra "xe2"; clear hx9; intro hxn hxd) | obtain ⟨hxn, hxd⟩ := hx9
  refine wpAny_call ?_
  k_extra "enter"
  intro g L1 h1 FG F0 N B X T
  dsimp only
  refine noE ?_
  k_fold
  try k_gentoks
  have hx9 : Loc g L1 h1 [("string", .str sg ts), ("fws", .str b tb), ("self", .ref x)] := loc F0 (by k_extra "kn_all")
  first | (k_extra "xe2"; clear hx9; intro r1 F) | obtain ⟨r1, F⟩ := hx9
  clear F0
  k_extra "ks"
  exact hret _ _ _ _ (by assumption) (by assumption) ⟨rfl, _, _, rfl⟩
end
section
theorem noEA {α : Type} {M : Model} {A : Around} {c : Code} {E : Value → Shared → Prop} {s : Shared} {t : Sem α} {Q : α → Shared → Prop} (h : _root_.PySem.wpAt M A c t Q NoE s) : _root_.PySem.wpAt M A c t Q E s := ks_wpAt_mono h (fun _ _ x => x) fun _ _ x => x.elim
theorem pc_c (w : World) (loose : List Str) (mean : ExcName → Option Value) (mg mb : Str → Option Value) : ∀ (news : CbLed) (x dx : Addr) (its : List Value) (n : Nat) (od : List DictEntry) (nd : Nat), its.length ≤ 500 →
   Cl PySem.Challenge.rw_sr0059_02.row.prog w (K39 w.params) topProg loose mean mg mb 154 10 100 ((x, lstObj 157 dx its.toArray n) :: (dx, dictOf od nd) :: news) [.ref x]
     (fun r nx => (∃ t, r = .int (its.length : Nat) t) ∧ nx = (x, lstObj 157 dx its.toArray n) :: (dx, dictOf od nd) :: news) := by
  k_fill
  intro news x dx its n od nd hlen
  refine Cl.mk ?_
  intro dp un gd cn cs ca ccd cl outer A₀ base h₀ L m s Q E kB kF kX kN kT kcs kd ku hret
  refine wpAny_call ?_
  k_extra "enterS"
  intro g L1 h1 FG F0 N B X T ll
  dsimp only
  refine noEA ?_
  try k_fold
  try k_gentoks
  have hx9 : Loc g L1 h1 [("self", .ref x)] := loc F0 (by k_extra "kn_all")
  first | (k_extra "xe2"; clear hx9; intro r1 F) | obtain ⟨r1, F⟩ := hx9
  clear F0
  k_extra "ks"
  exact hret _ _ _ _ (by assumption) (News.perm (by assumption) (by k_extra "psub")) ⟨⟨_, rfl⟩, rfl⟩
end
section
theorem pop_c (w : World) (loose : List Str) (mean : ExcName → Option Value) (mg mb : Str → Option Value) : ∀ (news : CbLed) (x dx : Addr) (its : List Value) (v : Value) (n : Nat) (od : List DictEntry) (nd : Nat), its.length ≤ 400 → NoAcc x news → getL (Str.ofString "part_count") od = some none →
   Cl PySem.Challenge.rw_sr0059_02.row.prog w (K39 w.params) topProg loose mean mg mb 117 20 200 ((x, lstObj 157 dx (its ++ [v]).toArray n) :: (dx, dictOf od nd) :: news) [.ref x]
     (fun r nx => r = v ∧ ∃ k, nx = (x, lstObj 157 dx its.toArray k) :: (dx, dictOf od nd) :: news) := by
  k_fill
  intro news x dx its v n od nd hlen hna hod
  refine Cl.mk ?_
  intro dp un gd cn cs ca ccd cl outer A₀ base h₀ L m s Q E kB kF kX kN kT kcs kd ku hret
  have hx9 := acc_ne kN hna
  first | (k_extra "xe2"; clear hx9; intro hxn hxd) | obtain ⟨hxn, hxd⟩ := hx9
  refine wpAny_call ?_
  k_extra "enterS"
  intro g L1 h1 FG F0 N B X T ll
  dsimp only
  refine noEA ?_
  try k_fold
  try k_gentoks
  have hx9 : Loc g L1 h1 [("self", .ref x)] := loc F0 (by k_extra "kn_all")
  first | (k_extra "xe2"; clear hx9; intro r1 F) | obtain ⟨r1, F⟩ := hx9
  clear F0
  k_extra "ks"
  (k_dflt (refine' Cl.use (pc_c _ _ _ _ _ _ _ _ _ _ _ _ ?q1) ?k1 ?k2 ?k3 ?k4 ?k5 ?kK ?kd ?ku ?_; k_extra "cl_use"))
  case q1 => simp; k_extra "li"
  intro r nx h2 tk2 F2 N2 hR
  first | (revert hR; intro hx9; k_extra "xe2"; clear hx9; intro hx9; (first | (k_extra "xq2"; clear hx9; intro t2 e1) | obtain ⟨t2, e1⟩ := hx9); intro e2) | obtain ⟨⟨t2, e1⟩, e2⟩ := hR
  subst e1; subst e2
  dsimp only
  repeat' ((fail_if_success (with_reducible show _root_.PySem.wpAt _ _ _ (execs _ _) _ _ _)); k_extra "ks1")
  · rename_i a
    exact absurd a (by simp; k_extra "li")
  · refine wpAt_of_wpAny ?_
    repeat' ((fail_if_success (show _root_.PySem.wpAt _ _ _ (execs (_ :: _) _) _ _ _)); k_extra "ks1")
    dsimp only
    k_extra "ks1"
    k_extra "ks1"
    ks_step "eval Call"
    refine ks_wpAt_MethodCall ?_
    k_extra "ks"
    exact hret _ _ _ _ (by assumption) (News.perm (news' := (x, lstObj 157 dx its.toArray _) :: (dx, dictOf od nd) :: news) (by assumption) (by k_extra "psub")) ⟨rfl, _, rfl⟩
theorem pop0_c (w : World) (loose : List Str) (mean : ExcName → Option Value) (mg mb : Str → Option Value) : ∀ (news : CbLed) (x dx : Addr) (n : Nat) (od : List DictEntry) (nd : Nat), NoAcc x news → getL (Str.ofString "part_count") od = some none →
   Cl PySem.Challenge.rw_sr0059_02.row.prog w (K39 w.params) topProg loose mean mg mb 117 20 200 ((x, lstObj 157 dx ([] : List Value).toArray n) :: (dx, dictOf od nd) :: news) [.ref x]
     (fun r nx => ∃ D t1 t2, r = .ref D ∧ nx = (D, { cls := .type "tuple", data := .seq #[.str (Str.ofString "") t1, .str (Str.ofString "") t2] }) :: (x, lstObj 157 dx ([] : List Value).toArray n) :: (dx, dictOf od nd) :: news) := by
  k_fill
  intro news x dx n od nd hna hod
  refine Cl.mk ?_
  intro dp un gd cn cs ca ccd cl outer A₀ base h₀ L m s Q E kB kF kX kN kT kcs kd ku hret
  have hx9 := acc_ne kN hna
  first | (k_extra "xe2"; clear hx9; intro hxn hxd) | obtain ⟨hxn, hxd⟩ := hx9
  refine wpAny_call ?_
  k_extra "enterS"
  intro g L1 h1 FG F0 N B X T ll
  dsimp only
  refine noEA ?_
  try k_fold
  try k_gentoks
  have hx9 : Loc g L1 h1 [("self", .ref x)] := loc F0 (by k_extra "kn_all")
  first | (k_extra "xe2"; clear hx9; intro r1 F) | obtain ⟨r1, F⟩ := hx9
  clear F0
  k_extra "ks"
  (k_dflt (refine' Cl.use (pc_c _ _ _ _ _ _ _ _ _ _ _ _ ?q1) ?k1 ?k2 ?k3 ?k4 ?k5 ?kK ?kd ?ku ?_; k_extra "cl_use"))
  case q1 => simp
  intro r nx h2 tk2 F2 N2 hR
  first | (revert hR; intro hx9; k_extra "xe2"; clear hx9; intro hx9; (first | (k_extra "xq2"; clear hx9; intro t2 e1) | obtain ⟨t2, e1⟩ := hx9); intro e2) | obtain ⟨⟨t2, e1⟩, e2⟩ := hR
  subst e1; subst e2
  dsimp only
  repeat' ((fail_if_success (with_reducible show _root_.PySem.wpAt _ _ _ (execs _ _) _ _ _)); k_extra "ks1")
  · k_extra "ks"
    exact hret _ _ _ _ (by assumption) (News.perm (by assumption) (by k_extra "psub")) ⟨_, _, _, rfl, rfl⟩
end
section
abbrev isD (P : Params) (sz : Nat) (tk t : Tok) : List DictEntry := [⟨PyData.keyHash P (Str.ofString "_initial_size"), .str (Str.ofString "_initial_size") tk, .int (sz : Int) t⟩]
theorem new_c (w : World) (loose : List Str) (mean : ExcName → Option Value) (mg mb : Str → Option Value) : ∀ (news : CbLed) (k : Nat) (tk : Tok),
   Cl PySem.Challenge.rw_sr0059_02.row.prog w (K39 w.params) topProg loose mean mg mb 157 20 200 news [.int (k : Int) tk]
     (fun r nx => ∃ x dx n t1 nd, r = .ref x ∧ nx = (x, lstObj 157 dx ([] : List Value).toArray n) :: (dx, dictOf (isD w.params k t1 tk) nd) :: news ∧ ∀ p ∈ news, p.1 ≠ x) := by
  k_fill
  intro news k tk
  refine Cl.mk ?_
  intro dp un gd cn cs ca ccd cl outer A₀ base h₀ L m s Q E kB kF kX kN kT kcs kd ku hret
  refine make_acc (ln_args1 _ _) kF kX kN ?_
  intro x dx h2 F2 N2 l1 l2
  have hn1 : ∀ p ∈ news, p.1 ≠ dx := fun p hp => Nat.ne_of_lt (l1 p hp)
  have hn2 : ∀ p ∈ news, p.1 ≠ x := fun p hp => Nat.ne_of_lt (Nat.lt_trans (l1 p hp) l2)
  replace l2 := ltN l2
  clear kF kN
  k_extra "enterSD"
  intro g L1 h1 FG F0 N B X T ll
  dsimp only
  refine noEA ?_
  try k_fold
  try k_gentoks
  have hx9 : Loc g L1 h1 [("initial_size", .int (k : Int) tk), ("self", .ref x)] := loc F0 (by k_extra "kn_all")
  first | (k_extra "xe2"; clear hx9; intro r1 F) | obtain ⟨r1, F⟩ := hx9
  clear F0
  k_extra "ks1"
  repeat' ((fail_if_success (show _root_.PySem.wpAt _ _ _ (execs (_ :: _) _) _ _ _)); k_extra "ks1")
  dsimp only
  k_extra "ks1"
  refine ks_wpAt_Expr_any ?_
  refine ks_wpAt_MethodCall ?_
  k_extra "ks"
  exact hret _ _ _ _ (by assumption) (News.perm (news' := (x, lstObj 157 dx ([] : List Value).toArray _) :: (dx, dictOf _ _) :: news) (by assumption) (by k_extra "psub")) ⟨x, dx, _, _, _, rfl, rfl, hn2⟩
theorem new0_c (w : World) (loose : List Str) (mean : ExcName → Option Value) (mg mb : Str → Option Value) : ∀ (news : CbLed),
   Cl PySem.Challenge.rw_sr0059_02.row.prog w (K39 w.params) topProg loose mean mg mb 157 20 200 news []
     (fun r nx => ∃ x dx n t1 t2 nd, r = .ref x ∧ nx = (x, lstObj 157 dx ([] : List Value).toArray n) :: (dx, dictOf (isD w.params 0 t1 t2) nd) :: news ∧ ∀ p ∈ news, p.1 ≠ x) := by
  k_fill
  intro news
  refine Cl.mk ?_
  intro dp un gd cn cs ca ccd cl outer A₀ base h₀ L m s Q E kB kF kX kN kT kcs kd ku hret
  refine make_acc (ln_args0 _) kF kX kN ?_
  intro x dx h2 F2 N2 l1 l2
  have hn1 : ∀ p ∈ news, p.1 ≠ dx := fun p hp => Nat.ne_of_lt (l1 p hp)
  have hn2 : ∀ p ∈ news, p.1 ≠ x := fun p hp => Nat.ne_of_lt (Nat.lt_trans (l1 p hp) l2)
  replace l2 := ltN l2
  clear kF kN
  k_extra "enterSD"
  intro g L1 h1 FG F0 N B X T ll
  dsimp only
  refine noEA ?_
  try k_fold
  try k_gentoks
  have hx9 : Loc g L1 h1 [("initial_size", .int (0 : Int) 328), ("self", .ref x)] := loc F0 (by k_extra "kn_all")
  first | (k_extra "xe2"; clear hx9; intro r1 F) | obtain ⟨r1, F⟩ := hx9
  clear F0
  k_extra "ks1"
  repeat' ((fail_if_success (show _root_.PySem.wpAt _ _ _ (execs (_ :: _) _) _ _ _)); k_extra "ks1")
  dsimp only
  k_extra "ks1"
  refine ks_wpAt_Expr_any ?_
  refine ks_wpAt_MethodCall ?_
  k_extra "ks"
  exact hret _ _ _ _ (by assumption) (News.perm (news' := (x, lstObj 157 dx ([] : List Value).toArray _) :: (dx, dictOf _ _) :: news) (by assumption) (by k_extra "psub")) ⟨x, dx, _, _, _, _, rfl, rfl, hn2⟩
end
section
theorem preSum_list (L : List Nat) : ∀ n, n ≤ L.length → preSum (fun j => ((L.getD j 0 : Nat) : Int)) n = ((L.take n).sum : Nat)
  | 0, _ => by simp [preSum]
  | n + 1, h => by
    rw [preSum, preSum_list L n (by k_extra "li"), List.take_succ, List.sum_append]
    simp [List.getD_eq_getElem?_getD, List.getElem?_eq_getElem (show n < L.length by k_extra "li")]
theorem len_c (w : World) (loose : List Str) (mean : ExcName → Option Value) (mg mb : Str → Option Value) : ∀ (news : CbLed) (ps : Array Value) (x dx : Addr) (l : List Pr) (n sz : Nat) (t1 t2 : Tok) (nd : Nat), l.length ≤ 400 → (∀ q ∈ l, q.b.length ≤ 1000 ∧ q.s.length ≤ 1000) → TriplesOk ps.toList → NoTab 119 news →
   ClG (fun h => CodeHd h 123 119) PySem.Challenge.rw_sr0059_02.row.prog w (K39 w.params) topProg loose mean mg mb 124 20 200 ((119, tabObj ps) :: (x, lstObj 157 dx (refs l).toArray n) :: (dx, dictOf (isD w.params sz t1 t2) nd) :: (tups l ++ news)) [.ref x]
     (fun r nx => (∃ t, r = .int (sz + (l.map fun q => q.b.length + q.s.length).sum : Nat) t) ∧ ∃ ps', TriplesOk ps'.toList ∧ nx = (119, tabObj ps') :: (x, lstObj 157 dx (refs l).toArray n) :: (dx, dictOf (isD w.params sz t1 t2) nd) :: (tups l ++ news)) := by
  k_fill
  intro news ps x dx l n sz t1 t2 nd hlen hql htr hnt
  refine ClG.mk ?_
  intro dp un gd cn cs ca ccd cl outer A₀ base h₀ L m s Q E kP kG kB kF kX kN kT kcs kd ku hret
  refine wpAny_call ?_
  k_extra "enter"
  intro g L1 h1 FG F0 N B X T
  dsimp only
  refine noE ?_
  try k_fold
  try k_gentoks
  have hx9 : Loc g L1 h1 [("self", .ref x)] := loc F0 (by k_extra "kn_all")
  first | (k_extra "xe2"; clear hx9; intro r1 F) | obtain ⟨r1, F⟩ := hx9
  clear F0
  k_extra "ks"
  have hmem : ∀ i, i < (refs l).length → ∃ q ∈ l, l[i]? = some q := fun i hi => by
    rw [refs, List.length_map] at hi
    exact ⟨l[i], List.getElem_mem hi, List.getElem?_eq_getElem hi⟩
  refine genx (C := 157) (P := 119) (c := 123) (ps := ps) (Ts := fun i => (l.map Pr.a).getD i 0) (va := fun i => (l.map fun q => Value.str q.b q.tb).getD i .none) (vb := fun i => (l.map fun q => Value.str q.s q.ts).getD i .none)
    (Fv := fun j v => ∃ t, v = .int (((l.map fun q => q.b.length + q.s.length).getD j 0 : Nat) : Int) t) rfl F X N T kG (kP.keeps B.stays) rfl (by k_mem) htr (by k_mem) (by k_mem) ?_ (acc_iter _) (mro3_in (acc_mro _)).1 rfl
    rfl (by with_unfolding_all rfl) (by decide) (by with_unfolding_all rfl) (by with_unfolding_all rfl) (by with_unfolding_all rfl) (by decide) rfl ?_ (fun x => by with_unfolding_all rfl) ?_ ?_ ?_
  · intro i hi
    have hx9 := hmem i hi
    first | (k_extra "xe3"; clear hx9; intro q hq e) | obtain ⟨q, hq, e⟩ := hx9
    rw [refs, List.length_map] at hi
    refine ⟨refs_get hi, ?_⟩
    simp only [List.getD_eq_getElem?_getD, List.getElem?_map, e, Option.map_some, Option.getD_some]
    exact .tail _ (.tail _ (.tail _ (List.mem_append.mpr (.inl (tups_mem hq)))))
  · show dp + 1 < recursionLimit
    k_extra "li"
  · intro Q' hq'
    k_extra "ks"
    exact hq'
  · intro C' code A' E' i t m₂ hA hD hU hi F2 hma hmb
    have hx9 := hmem i hi
    first | (k_extra "xe3"; clear hx9; intro q hq e) | obtain ⟨q, hq, e⟩ := hx9
    simp only [List.getD_eq_getElem?_getD, List.getElem?_map, e, Option.map_some, Option.getD_some] at hma hmb
    refine wpAny_BinOp (g_len F2 X T rfl (by k_is) (by first | boot_by_name | rfl | kernel_rfl) rfl rfl rfl (by decide) (hma) ?_ ?_)
    · exact (hql q hq).1
    intro t3 tk3
    refine g_len (s := { t with toks := tk3 }) F2 X T rfl (by k_is) (by first | boot_by_name | rfl | kernel_rfl) rfl rfl rfl (by decide) (hmb) ?_ ?_
    · exact (hql q hq).2
    intro t4 tk4
    refine wpAny_add_int ?_
    have ev : (l.map fun q => q.b.length + q.s.length).getD i 0 = q.b.length + q.s.length := by simp [List.getD_eq_getElem?_getD, e]
    refine ⟨⟨_, by rw [ev, Int.natCast_add]⟩, _, _, rfl, fun b o e => e⟩
  · intro s5 a Kb ps' F5 N5 htr' G5 hos hdr hKb X5
    have hnx : ∀ p ∈ (x, lstObj 157 dx (refs l).toArray n) :: (dx, dictOf (isD w.params sz t1 t2) nd) :: (tups l ++ news), p.1 ≠ 119 := tab_ne (P := 119) N (.head _) (fun p hp => .tail _ hp) (by
      intro p hp
      rcases List.mem_cons.mp hp with rfl | hp
      · exact .inl (fun e => by cases e)
      · rcases List.mem_cons.mp hp with rfl | hp
        · exact .inl (fun e => by cases e)
        · rcases List.mem_append.mp hp with hp | hp
          · exact .inl (by rw [tups_cls hp]; exact fun e => by cases e)
          · exact hnt p hp)
    have N6 := N5 _ (Upd.head hnx)
    have hle : ∀ p ∈ (119, tabObj ps') :: (x, lstObj 157 dx (refs l).toArray n) :: (dx, dictOf (isD w.params sz t1 t2) nd) :: (tups l ++ news), p.1 ≤ Kb := by
      intro p hp
      rcases List.mem_cons.mp hp with rfl | hp
      · exact Nat.le_of_lt_succ (by rw [← Nat.succ_eq_add_one] at hKb; rw [← hKb]; exact Heap.lt_size (N (119, tabObj ps) (.head _)).1)
      · exact Nat.le_of_lt_succ (by rw [← Nat.succ_eq_add_one] at hKb; rw [← hKb]; exact Heap.lt_size (N p (.tail _ hp)).1)
    have hL : L1 ≤ Kb := Nat.le_of_lt_succ (by rw [← Nat.succ_eq_add_one] at hKb; rw [← hKb]; exact F.ns.lt)
    clear F N N5
    k_extra "ks"
    refine getval_acc F5 X N6 (by k_mem) (by k_mem) (by k_is) rfl rfl ?_
    intro tk5 htk5
    k_extra "ks"
    refine sum_gen2 F5 G5 (gen_toks X5 htk5) hL (fun j => (((l.map fun q => q.b.length + q.s.length).getD j 0 : Nat) : Int)) (fun j v hv => hv) ?_
    intro s6 t6 F6 G6 hos6 hk6
    have N7 : News g L1 s6.heap ((119, tabObj ps') :: (x, lstObj 157 dx (refs l).toArray n) :: (dx, dictOf (isD w.params sz t1 t2) nd) :: (tups l ++ news)) := fun p hp => ⟨hk6 _ _ (hle p hp) (N6 p hp).1, (N6 p hp).2⟩
    k_extra "ks"
    refine hret _ _ _ (by assumption) (by assumption) G6 (hos6.trans hos) ⟨⟨_, congrArg (fun z => Value.int z _) ?_⟩, ps', htr', rfl⟩
    have e1 := preSum_list (l.map fun q => q.b.length + q.s.length) (refs l).length (by simp [refs])
    rw [e1, List.take_of_length_le (by simp [refs])]
    simp
end
section
theorem str_c (w : World) (loose : List Str) (mean : ExcName → Option Value) (mg mb : Str → Option Value) : ∀ (news : CbLed) (ps : Array Value) (x dx : Addr) (l : List Pr) (n : Nat) (od : List DictEntry) (nd : Nat), l.length ≤ 400 → (∀ q ∈ l, q.b.length ≤ 1000 ∧ q.s.length ≤ 1000) → TriplesOk ps.toList → NoTab 126 news →
   ClG (fun h => CodeHd h 130 126) PySem.Challenge.rw_sr0059_02.row.prog w (K39 w.params) topProg loose mean mg mb 131 20 200 ((126, tabObj ps) :: (x, lstObj 157 dx (refs l).toArray n) :: (dx, dictOf od nd) :: (tups l ++ news)) [.ref x]
     (fun r nx => (∃ t, r = .str (Txt.join (Str.ofString "") (l.map fun q => Txt.join (Str.ofString "") [q.b, q.s])) t) ∧ ∃ ps', TriplesOk ps'.toList ∧ nx = (126, tabObj ps') :: (x, lstObj 157 dx (refs l).toArray n) :: (dx, dictOf od nd) :: (tups l ++ news)) := by
  k_fill
  intro news ps x dx l n od nd hlen hql htr hnt
  refine ClG.mk ?_
  intro dp un gd cn cs ca ccd cl outer A₀ base h₀ L m s Q E kP kG kB kF kX kN kT kcs kd ku hret
  refine wpAny_call ?_
  k_extra "enter"
  intro g L1 h1 FG F0 N B X T
  dsimp only
  refine noE ?_
  try k_fold
  try k_gentoks
  have hx9 : Loc g L1 h1 [("self", .ref x)] := loc F0 (by k_extra "kn_all")
  first | (k_extra "xe2"; clear hx9; intro r1 F) | obtain ⟨r1, F⟩ := hx9
  clear F0
  k_extra "ks"
  have hmem : ∀ i, i < (refs l).length → ∃ q ∈ l, l[i]? = some q := fun i hi => by
    rw [refs, List.length_map] at hi
    exact ⟨l[i], List.getElem_mem hi, List.getElem?_eq_getElem hi⟩
  have e0 : (Str.ofString "").length = 0 := by decide
  refine genx (C := 157) (P := 126) (c := 130) (ps := ps) (Ts := fun i => (l.map Pr.a).getD i 0) (va := fun i => (l.map fun q => Value.str q.b q.tb).getD i .none) (vb := fun i => (l.map fun q => Value.str q.s q.ts).getD i .none)
    (Fv := fun j v => ∃ t, v = .str ((l.map fun q => Txt.join (Str.ofString "") [q.b, q.s]).getD j (Str.ofString "")) t) rfl F X N T kG (kP.keeps B.stays) rfl (by k_mem) htr (by k_mem) (by k_mem) ?_ (acc_iter _) (mro3_in (acc_mro _)).1 rfl
    rfl (by with_unfolding_all rfl) (by decide) (by with_unfolding_all rfl) (by with_unfolding_all rfl) (by with_unfolding_all rfl) (by decide) rfl ?_ (fun x => by with_unfolding_all rfl) ?_ ?_ ?_
  · intro i hi
    have hx9 := hmem i hi
    first | (k_extra "xe3"; clear hx9; intro q hq e) | obtain ⟨q, hq, e⟩ := hx9
    rw [refs, List.length_map] at hi
    refine ⟨refs_get hi, ?_⟩
    simp only [List.getD_eq_getElem?_getD, List.getElem?_map, e, Option.map_some, Option.getD_some]
    exact .tail _ (.tail _ (.tail _ (List.mem_append.mpr (.inl (tups_mem hq)))))
  · show dp + 1 < recursionLimit
    k_extra "li"
  · intro Q' hq'
    k_extra "ks"
    exact hq'
  · intro C' code A' E' i t m₂ hA hD hU hi F2 hma hmb
    have hx9 := hmem i hi
    first | (k_extra "xe3"; clear hx9; intro q hq e) | obtain ⟨q, hq, e⟩ := hx9
    simp only [List.getD_eq_getElem?_getD, List.getElem?_map, e, Option.map_some, Option.getD_some] at hma hmb
    have ev : (l.map fun q => Txt.join (Str.ofString "") [q.b, q.s]).getD i (Str.ofString "") = Txt.join (Str.ofString "") [q.b, q.s] := by simp [List.getD_eq_getElem?_getD, e]
    rw [ev]
    have hx9 := hql q hq
    first | (k_extra "xe2"; clear hx9; intro hq1 hq2) | obtain ⟨hq1, hq2⟩ := hx9
    refine MethodCall_ (g_main F2 X T rfl (by k_is) rfl rfl (by decide) ?_) (by with_unfolding_all rfl)
    refine GM.join ?_
    refine callWith_method1 (sp1 (Tuple_ (sp2 (g_local F2 hma rfl rfl (by decide) (g_local F2 hmb rfl rfl (by decide) ?_)) (by rfl))) (by rfl))
    refine wpAny_newTuple ?_
    refine join_tuple (ys := [q.b, q.s]) ⟨_, Heap.get?_push_at rfl rfl, rfl, _, rfl⟩ (.cons _ _ (.cons _ _ .nil)) (by rw [e0]; simp; k_extra "li") ?_
    intro t3 k3
    exact ⟨⟨_, rfl⟩, _, _, rfl, fun b o e => Heap.get?_push_of_some _ e⟩
  · intro s5 a Kb ps' F5 N5 htr' G5 hos hdr hKb X5
    have hnx : ∀ p ∈ (x, lstObj 157 dx (refs l).toArray n) :: (dx, dictOf od nd) :: (tups l ++ news), p.1 ≠ 126 := tab_ne (P := 126) N (.head _) (fun p hp => .tail _ hp) (by
      intro p hp
      rcases List.mem_cons.mp hp with rfl | hp
      · exact .inl (fun e => by cases e)
      · rcases List.mem_cons.mp hp with rfl | hp
        · exact .inl (fun e => by cases e)
        · rcases List.mem_append.mp hp with hp | hp
          · exact .inl (by rw [tups_cls hp]; exact fun e => by cases e)
          · exact hnt p hp)
    have N6 := N5 _ (Upd.head hnx)
    have hle : ∀ p ∈ (126, tabObj ps') :: (x, lstObj 157 dx (refs l).toArray n) :: (dx, dictOf od nd) :: (tups l ++ news), p.1 ≤ Kb := by
      intro p hp
      rcases List.mem_cons.mp hp with rfl | hp
      · exact Nat.le_of_lt_succ (by rw [← Nat.succ_eq_add_one] at hKb; rw [← hKb]; exact Heap.lt_size (N (126, tabObj ps) (.head _)).1)
      · exact Nat.le_of_lt_succ (by rw [← Nat.succ_eq_add_one] at hKb; rw [← hKb]; exact Heap.lt_size (N p (.tail _ hp)).1)
    have hL : L1 ≤ Kb := Nat.le_of_lt_succ (by rw [← Nat.succ_eq_add_one] at hKb; rw [← hKb]; exact F.ns.lt)
    clear F N N5
    k_extra "ks"
    have e1 : (List.range (refs l).length).map (fun j => (l.map fun q => Txt.join (Str.ofString "") [q.b, q.s]).getD j (Str.ofString "")) = l.map fun q => Txt.join (Str.ofString "") [q.b, q.s] := by
      apply List.ext_getElem
      · simp [refs]
      · intro i h1 h2
        simp at h2
        simp [List.getD_eq_getElem?_getD, h2]
    refine join_rowsK F5 G5 X5 hL (fun j => (l.map fun q => Txt.join (Str.ofString "") [q.b, q.s]).getD j (Str.ofString "")) (fun j v hv => hv) ?_ ?_ ?_
    · rw [e1]
      refine joinOk_of ?_
      rw [e0, Nat.mul_zero, Nat.add_zero, List.map_map]
      have hs : ∀ l : List Pr, (∀ q ∈ l, q.b.length ≤ 1000 ∧ q.s.length ≤ 1000) → (l.map ((·.length) ∘ fun q => Txt.join (Str.ofString "") [q.b, q.s])).sum ≤ l.length * 2000 := by
        intro l
        induction l with
        | nil => intro _; simp
        | cons q r ih =>
          intro hl
          have h1 := StrLaws.join_length_le (Str.ofString "") [q.b, q.s]
          have h2 := hl q (.head _)
          have h3 := ih fun q hq => hl q (.tail _ hq)
          rw [e0] at h1
          simp at h1
          simp only [List.map_cons, List.sum_cons, List.length_cons, Function.comp]
          have h1' : (Txt.join (Str.ofString "") [q.b, q.s]).length ≤ q.b.length + q.s.length := h1
          have h3' : (r.map fun x => (Txt.join (Str.ofString "") [x.b, x.s]).length).sum ≤ r.length * 2000 := h3
          k_extra "li"
      have := hs l hql
      k_extra "li"
    · intro s6 t6 F6 G6 hos6 hk6
      have N7 : News g L1 s6.heap ((126, tabObj ps') :: (x, lstObj 157 dx (refs l).toArray n) :: (dx, dictOf od nd) :: (tups l ++ news)) := fun p hp => ⟨hk6 _ _ (hle p hp) (N6 p hp).1, (N6 p hp).2⟩
      k_extra "ks"
      rw [e1]
      exact hret _ _ _ (by assumption) (by assumption) G6 (hos6.trans hos) ⟨⟨_, rfl⟩, ps', htr', rfl⟩
    · simp [refs, sizeLine_eq]; k_extra "li"
end
section
theorem scost_c (w : World) (loose : List Str) (mean : ExcName → Option Value) (mg mb : Str → Option Value) : ∀ (news : CbLed) (a : Str) (ta : Tok) (b : Str) (tb : Tok), a.length ≤ 1000 → b.length ≤ 1000 →
   Cl PySem.Challenge.rw_sr0059_02.row.prog w (K39 w.params) topProg loose mean mg mb 28 1 8 news [.str a ta, .str b tb] (fun r news' => news' = news ∧ ∃ t, r = .int (scS a b) t) := by
  k_fill
  intro news a ta b tb ha hb
  refine Cl.mk ?_
  intro dp un gd cn cs ca ccd cl outer A₀ base h₀ L m s Q E kB kF kX kN kT kcs kd ku hret
  refine wpAny_call ?_
  k_extra "enter"
  intro g L1 h1 FG F0 N B X T
  dsimp only
  refine noE ?_
  k_fold
  k_gentoks
  have hx9 : Loc g L1 h1 [("ch_b", .str b tb), ("ch_a", .str a ta)] := loc F0 (by k_extra "kn_all")
  first | (k_extra "xe2"; clear hx9; intro r1 F) | obtain ⟨r1, F⟩ := hx9
  clear F0
  k_extra "ks"
  · refine hret _ _ _ _ (by assumption) (by assumption) ⟨rfl, _, congrArg (fun z => Value.int z _) ?_⟩
    simp_all [scS]
  · refine hret _ _ _ _ (by assumption) (by assumption) ⟨rfl, _, congrArg (fun z => Value.int z _) ?_⟩
    simp_all [scS]
  · refine hret _ _ _ _ (by assumption) (by assumption) ⟨rfl, _, congrArg (fun z => Value.int z _) ?_⟩
    simp_all [scS]
theorem scost_1 (w : World) (loose : List Str) (mean : ExcName → Option Value) (mg mb : Str → Option Value) (news : CbLed) (x : Nat) (ta : Tok) (y : Nat) (tb : Tok) :
   Cl PySem.Challenge.rw_sr0059_02.row.prog w (K39 w.params) topProg loose mean mg mb 28 1 8 news [.str (tx [x]) ta, .str (tx [y]) tb] (fun r news' => news' = news ∧ ∃ t, r = .int (scN x y) t) :=
  scost_c w loose mean mg mb news _ ta _ tb (by rw [tx_len]; exact Nat.le_of_ble_eq_true rfl) (by rw [tx_len]; exact Nat.le_of_ble_eq_true rfl)
end
section
theorem rev_getD (l : List Nat) (q : Nat) (h : q < l.length) : l.reverse.getD q 0 = l.getD (l.length - (q + 1)) 0 := by
  have h' : l.length - 1 - q = l.length - (q + 1) := by k_extra "li"
  simp [List.getD, List.getElem?_reverse h, h']
theorem lev_c (w : World) (loose : List Str) (mean : ExcName → Option Value) (mg mb : Str → Option Value) : ∀ (news : CbLed) (a : List Nat) (ta : Tok) (b : List Nat) (tb : Tok) (mx : Int) (tm : Tok), a.length ≤ 40 → b.length ≤ 40 →
   Cl PySem.Challenge.rw_sr0059_02.row.prog w (K39 w.params) topProg loose mean mg mb 35 2 20 news [.str (tx a) ta, .str (tx b) tb, .int mx tm] (fun r news' => news' = news ∧ ∃ t, r = .int (pyLev a b mx) t) := by
  k_fill
  intro news a ta b tb mx tm ha hb
  refine Cl.mk ?_
  intro dp un gd cn cs ca ccd cl outer A₀ base h₀ L m s Q E kB kF kX kN kT kcs kd ku hret
  refine wpAny_call ?_
  k_extra "enter"
  intro g L1 h1 FG F0 N B X T
  dsimp only
  refine noE ?_
  k_fold
  k_gentoks
  have la : (tx a).length ≤ 40 := by rw [tx_len]; exact ha
  have lb : (tx b).length ≤ 40 := by rw [tx_len]; exact hb
  have hx9 : Loc g L1 h1 [("max_cost", .int mx tm), ("b", .str (tx b) tb), ("a", .str (tx a) ta)] := loc F0 (by k_extra "kn_all")
  first | (k_extra "xe2"; clear hx9; intro r1 F) | obtain ⟨r1, F⟩ := hx9
  clear F0
  refine seqQ (fun h => Loc g L1 h [("max_cost", .int mx tm), ("b", .str (tx b) tb), ("a", .str (tx a) ta)] ∧ News g L1 h news ∧ a ≠ b) ?_ ?_
  · intro Qn hN hRt
    k_extra "ks"
    · refine hRt _ _ ?_
      k_extra "ks"
      refine hret _ _ _ _ (by assumption) (by assumption) ⟨rfl, _, congrArg (fun z => Value.int z _) ?_⟩
      have e : a = b := tx_inj.mp (by simpa using ‹(tx a == tx b) = true›)
      simp [pyLev, e]
    · refine hN _ _ ⟨by k_extra "lo", by assumption, ?_⟩
      intro e; subst e; simp_all
  intro h2 tk2 hP
  first | (revert hP; intro hx9; k_extra "xe3"; clear hx9; intro hx9; (first | (k_extra "xq2"; clear hx9; intro r2 F2) | obtain ⟨r2, F2⟩ := hx9); intro N2 hne) | obtain ⟨⟨r2, F2⟩, N2, hne⟩ := hP
  clear F N
  dsimp only
  refine seqQ (fun h => ∃ t, Loc g L1 h [("pre", .int 0 t), ("max_cost", .int mx tm), ("b", .str (tx b) tb), ("a", .str (tx a) ta)] ∧ News g L1 h news) ?_ ?_
  · intro Qn hN hRt
    k_extra "ks"
    exact hN _ _ ⟨_, by k_extra "lo", by assumption⟩
  intro h3 tk3 hP
  first | (revert hP; intro hx9; k_extra "xe3"; clear hx9; intro t3 hx9; (first | (k_extra "xq2"; clear hx9; intro r3 F3) | obtain ⟨r3, F3⟩ := hx9); intro N3) | obtain ⟨t3, ⟨r3, F3⟩, N3⟩ := hP
  clear F2 N2
  dsimp only
  refine seqQ (fun h => ∃ t, Loc g L1 h [("pre", .int (cpl a b) t), ("max_cost", .int mx tm), ("b", .str (tx b) tb), ("a", .str (tx a) ta)] ∧ News g L1 h news) ?_ ?_
  · intro Qn hN hRt
    refine whileQ (n₀ := a.length) (fun n h => ∃ (k : Nat) (t : Tok), Loc g L1 h [("pre", .int k t), ("max_cost", .int mx tm), ("b", .str (tx b) tb), ("a", .str (tx a) ta)] ∧ News g L1 h news ∧ n + k = a.length ∧ k ≤ cpl a b) ?_ ?_
    · exact ⟨0, t3, ⟨r3, F3⟩, N3, by k_extra "li", Nat.zero_le _⟩
    intro n h4 tk4 hI QT QX hT hW hX
    first | (revert hI; intro hx9; k_extra "xe6"; clear hx9; intro k t4 hx9; (first | (k_extra "xq2"; clear hx9; intro r4 F4) | obtain ⟨r4, F4⟩ := hx9); intro N4 hn hk) | obtain ⟨k, t4, ⟨r4, F4⟩, N4, hn, hk⟩ := hI
    clear F3 N3
    have hka : k ≤ a.length := Nat.le_trans hk (cpl_le_left a b)
    have hkb : k ≤ b.length := Nat.le_trans hk (cpl_le_right a b)
    k_extra "ks"

    · -- a turn
      have e := beq_yes1 ‹(tx [a.getD k 0] == tx [b.getD k 0]) = true›
      exact hT _ _ (n - 1) (lv_n hn (by assumption)) ⟨k + 1, _, by k_extra "lo", by assumption, lv_s hn (by assumption), ((cpl_at hk (lv_lt (by assumption)) (lv_lt (by assumption))).1 e)⟩
    · have e := beq_no1 ‹(tx [a.getD k 0] == tx [b.getD k 0]) = false›
      refine hX _ (hN _ _ ⟨t4, ?_, by assumption⟩)
      rw [(cpl_at hk (lv_lt (by assumption)) (lv_lt (by assumption))).2 e]
      k_extra "lo"
    · refine hX _ (hN _ _ ⟨t4, ?_, by assumption⟩)
      rw [cpl_stop_right hk (Nat.le_of_sub_eq_zero (by assumption))]
      k_extra "lo"
    · refine hX _ (hN _ _ ⟨t4, ?_, by assumption⟩)
      rw [cpl_stop_left hk (Nat.le_of_sub_eq_zero (by assumption))]
      k_extra "lo"
  intro h3b tk3b hP
  first | (revert hP; intro hx9; k_extra "xe3"; clear hx9; intro t3b hx9; (first | (k_extra "xq2"; clear hx9; intro r3b F3b) | obtain ⟨r3b, F3b⟩ := hx9); intro N3b) | obtain ⟨t3b, ⟨r3b, F3b⟩, N3b⟩ := hP
  clear F3 N3
  dsimp only
  have hpa := cpl_le_left a b
  have hpb := cpl_le_right a b
  generalize hp : cpl a b = p at *
  refine seqQ (fun h => ∃ t t', Loc g L1 h [("pre", .int p t), ("max_cost", .int mx tm), ("b", .str (tx b) tb), ("a", .str (tx (a.drop p)) t')] ∧ News g L1 h news) ?_ ?_
  · intro Qn hN hRt
    k_extra "ks"
    exact hN _ _ ⟨_, _, by k_extra "lo", by assumption⟩
  intro h4 tk4 hP
  first | (revert hP; intro hx9; k_extra "xe4"; clear hx9; intro t4 t4' hx9; (first | (k_extra "xq2"; clear hx9; intro r4 F4) | obtain ⟨r4, F4⟩ := hx9); intro N4) | obtain ⟨t4, t4', ⟨r4, F4⟩, N4⟩ := hP
  clear F3b N3b
  dsimp only
  refine seqQ (fun h => ∃ t t', Loc g L1 h [("max_cost", .int mx tm), ("b", .str (tx (b.drop p)) t), ("a", .str (tx (a.drop p)) t')] ∧ News g L1 h news) ?_ ?_
  · intro Qn hN hRt
    k_extra "ks"
    exact hN _ _ ⟨_, _, by k_extra "lo", by assumption⟩
  intro h5 tk5 hP
  first | (revert hP; intro hx9; k_extra "xe4"; clear hx9; intro t5 t5' hx9; (first | (k_extra "xq2"; clear hx9; intro r5 F5) | obtain ⟨r5, F5⟩ := hx9); intro N5) | obtain ⟨t5, t5', ⟨r5, F5⟩, N5⟩ := hP
  clear F4 N4
  dsimp only
  refine seqQ (fun h => ∃ t t' t'', Loc g L1 h [("post", .int 0 t''), ("max_cost", .int mx tm), ("b", .str (tx (b.drop p)) t), ("a", .str (tx (a.drop p)) t')] ∧ News g L1 h news) ?_ ?_
  · intro Qn hN hRt
    k_extra "ks"
    exact hN _ _ ⟨_, _, _, by k_extra "lo", by assumption⟩
  intro h6 tk6 hP
  first | (revert hP; intro hx9; k_extra "xe5"; clear hx9; intro t6 t6' t6'' hx9; (first | (k_extra "xq2"; clear hx9; intro r6 F6) | obtain ⟨r6, F6⟩ := hx9); intro N6) | obtain ⟨t6, t6', t6'', ⟨r6, F6⟩, N6⟩ := hP
  clear F5 N5
  dsimp only
  have hA : (a.drop p).length ≤ 40 := by rw [List.length_drop]; exact nt_sk0 ‹_›
  have hB : (b.drop p).length ≤ 40 := by rw [List.length_drop]; exact nt_sk0 ‹_›
  have hres : pyLev a b mx = levMid ((a.drop p).take ((a.drop p).length - cpl (a.drop p).reverse (b.drop p).reverse)) ((b.drop p).take ((b.drop p).length - cpl (a.drop p).reverse (b.drop p).reverse)) mx := by
    simp only [pyLev, if_neg hne, hp]
  generalize a.drop p = A at *
  generalize b.drop p = D at *
  have lA : (tx A).length ≤ 40 := by rw [tx_len]; exact hA
  have lB : (tx D).length ≤ 40 := by rw [tx_len]; exact hB
  refine seqQ (fun h => ∃ t t' t'', Loc g L1 h [("post", .int (-(cpl A.reverse D.reverse : Nat)) t''), ("max_cost", .int mx tm), ("b", .str (tx D) t), ("a", .str (tx A) t')] ∧ News g L1 h news) ?_ ?_
  · intro Qn hN hRt
    refine whileQ (n₀ := A.length) (fun n h => ∃ (q : Nat) (t t' t'' : Tok), Loc g L1 h [("post", .int (-(q : Int)) t''), ("max_cost", .int mx tm), ("b", .str (tx D) t), ("a", .str (tx A) t')] ∧ News g L1 h news ∧ n + q = A.length ∧ q ≤ cpl A.reverse D.reverse) ?_ ?_
    · exact ⟨0, t6, t6', t6'', ⟨r6, F6⟩, N6, by k_extra "li", Nat.zero_le _⟩
    intro n h7 tk7 hI QT QX hT hW hX
    first | (revert hI; intro hx9; k_extra "xe8"; clear hx9; intro q t7 t7' t7'' hx9; (first | (k_extra "xq2"; clear hx9; intro r7 F7) | obtain ⟨r7, F7⟩ := hx9); intro N7 hn hq) | obtain ⟨q, t7, t7', t7'', ⟨r7, F7⟩, N7, hn, hq⟩ := hI
    clear F6 N6
    have hqa : q ≤ A.length := by have := Nat.le_trans hq (cpl_le_left _ _); rw [List.length_reverse] at this; exact this
    have hqb : q ≤ D.length := by have := Nat.le_trans hq (cpl_le_right _ _); rw [List.length_reverse] at this; exact this
    k_extra "ks"
    · have e := beq_yes1 ‹(tx [A.getD (A.length - (q + 1)) 0] == tx [D.getD (D.length - (q + 1)) 0]) = true›
      rw [← rev_getD A q (lv_mlt (by assumption)), ← rev_getD D q (lv_mlt (by assumption))] at e
      refine hT _ _ (n - 1) (lv_mn hn (by assumption)) ⟨q + 1, _, _, _, by k_extra "lo", by assumption, lv_ms hn (by assumption), ((cpl_at hq (by rw [List.length_reverse]; exact lv_mlt (by assumption)) (by rw [List.length_reverse]; exact lv_mlt (by assumption))).1 e)⟩
    · have e := beq_no1 ‹(tx [A.getD (A.length - (q + 1)) 0] == tx [D.getD (D.length - (q + 1)) 0]) = false›
      rw [← rev_getD A q (lv_mlt (by assumption)), ← rev_getD D q (lv_mlt (by assumption))] at e
      refine hX _ (hN _ _ ?_)
      rw [(cpl_at hq (by rw [List.length_reverse]; exact lv_mlt (by assumption)) (by rw [List.length_reverse]; exact lv_mlt (by assumption))).2 e]
      exact ⟨_, _, _, by k_extra "lo", by assumption⟩
    · refine hX _ (hN _ _ ?_)
      rw [cpl_stop_right hq (by rw [List.length_reverse]; exact lv_mz (by assumption))]
      exact ⟨_, _, _, by k_extra "lo", by assumption⟩
    · refine hX _ (hN _ _ ?_)
      rw [cpl_stop_left hq (by rw [List.length_reverse]; exact lv_mz (by assumption))]
      exact ⟨_, _, _, by k_extra "lo", by assumption⟩
  intro h7 tk7 hP
  first | (revert hP; intro hx9; k_extra "xe5"; clear hx9; intro t7 t7' t7'' hx9; (first | (k_extra "xq2"; clear hx9; intro r7 F7) | obtain ⟨r7, F7⟩ := hx9); intro N7) | obtain ⟨t7, t7', t7'', ⟨r7, F7⟩, N7⟩ := hP
  clear F6 N6
  dsimp only
  have hqa : cpl A.reverse D.reverse ≤ A.length := by have := cpl_le_left A.reverse D.reverse; rw [List.length_reverse] at this; exact this
  have hqb : cpl A.reverse D.reverse ≤ D.length := by have := cpl_le_right A.reverse D.reverse; rw [List.length_reverse] at this; exact this
  generalize hqq : cpl A.reverse D.reverse = q at *
  refine seqQ (fun h => ∃ t t' t'', Loc g L1 h [("post", .int (-(q : Int)) t''), ("max_cost", .int mx tm), ("b", .str (tx D) t), ("a", .str (tx (A.take (A.length - q))) t')] ∧ News g L1 h news) ?_ ?_
  · intro Qn hN hRt
    k_extra "ks"
    exact hN _ _ ⟨_, _, _, by k_extra "lo", by assumption⟩
  intro h8 tk8 hP
  first | (revert hP; intro hx9; k_extra "xe5"; clear hx9; intro t8 t8' t8'' hx9; (first | (k_extra "xq2"; clear hx9; intro r8 F8) | obtain ⟨r8, F8⟩ := hx9); intro N8) | obtain ⟨t8, t8', t8'', ⟨r8, F8⟩, N8⟩ := hP
  clear F7 N7
  dsimp only
  refine seqQ (fun h => ∃ t t', Loc g L1 h [("max_cost", .int mx tm), ("b", .str (tx (D.take (D.length - q))) t), ("a", .str (tx (A.take (A.length - q))) t')] ∧ News g L1 h news) ?_ ?_
  · intro Qn hN hRt
    k_extra "ks"
    exact hN _ _ ⟨_, _, by k_extra "lo", by assumption⟩
  intro h9 tk9 hP
  first | (revert hP; intro hx9; k_extra "xe4"; clear hx9; intro t9 t9' hx9; (first | (k_extra "xq2"; clear hx9; intro r9 F9) | obtain ⟨r9, F9⟩ := hx9); intro N9) | obtain ⟨t9, t9', ⟨r9, F9⟩, N9⟩ := hP
  clear F8 N8
  dsimp only
  have hA' : (A.take (A.length - q)).length ≤ 40 := by rw [List.length_take]; exact nt_mk0 ‹_›
  have hB' : (D.take (D.length - q)).length ≤ 40 := by rw [List.length_take]; exact nt_mk0 ‹_›
  clear hqq hqa hqb
  generalize A.take (A.length - q) = P at *
  generalize D.take (D.length - q) = S at *
  rw [hres] at hret
  clear hres hA hB lA lB
  refine seqQ (fun h => ∃ t t', Loc g L1 h [("max_cost", .int mx tm), ("b", .str (tx S) t), ("a", .str (tx P) t')] ∧ News g L1 h news ∧ P ≠ [] ∧ S ≠ []) ?_ ?_
  · intro Qn hN hRt
    k_extra "ks"
    · exact hN _ _ ⟨_, _, by k_extra "lo", by assumption, by intro e; subst e; simp_all, by intro e; subst e; simp_all⟩
    · refine hRt _ _ ?_
      k_extra "ks"
      refine hret _ _ _ _ (by assumption) (by assumption) ⟨rfl, _, congrArg (fun z => Value.int z _) ?_⟩
      have : S = [] := List.length_eq_zero_iff.mp (by assumption)
      simp [levMid, this]
    · refine hRt _ _ ?_
      k_extra "ks"
      refine hret _ _ _ _ (by assumption) (by assumption) ⟨rfl, _, congrArg (fun z => Value.int z _) ?_⟩
      have : P = [] := List.length_eq_zero_iff.mp (by assumption)
      simp [levMid, this]
  intro h10 tk10 hP
  first | (revert hP; intro hx9; k_extra "xe6"; clear hx9; intro t10 t10' hx9; (first | (k_extra "xq2"; clear hx9; intro r10 F10) | obtain ⟨r10, F10⟩ := hx9); intro N10 hPn hSn) | obtain ⟨t10, t10', ⟨r10, F10⟩, N10, hPn, hSn⟩ := hP
  clear F9 N9
  dsimp only
  have hmid : levMid P S mx = if S.length < P.length then levCore S P mx else levCore P S mx := by
    simp only [levMid]
    rw [if_neg (by simp [hPn, hSn]), if_neg (by k_extra "li")]
  rw [hmid] at hret
  clear hmid
  refine seqQ (fun h => ∃ t t', Loc g L1 h [("max_cost", .int mx tm), ("b", .str (tx S) t), ("a", .str (tx P) t')] ∧ News g L1 h news) ?_ ?_
  · intro Qn hN hRt
    k_extra "ks"
    exact hN _ _ ⟨_, _, by k_extra "lo", by assumption⟩
  intro h11 tk11 hP
  first | (revert hP; intro hx9; k_extra "xe4"; clear hx9; intro t11 t11' hx9; (first | (k_extra "xq2"; clear hx9; intro r11 F11) | obtain ⟨r11, F11⟩ := hx9); intro N11) | obtain ⟨t11, t11', ⟨r11, F11⟩, N11⟩ := hP
  clear F10 N10
  dsimp only
  refine seqQ (fun h => ∃ (U V : List Nat) (t t' : Tok), Loc g L1 h [("max_cost", .int mx tm), ("b", .str (tx V) t), ("a", .str (tx U) t')] ∧ News g L1 h news ∧ U.length ≤ 40 ∧ V.length ≤ 40 ∧ U ≠ [] ∧ V ≠ [] ∧ U.length ≤ V.length ∧ (if S.length < P.length then levCore S P mx else levCore P S mx) = levCore U V mx) ?_ ?_
  · intro Qn hN hRt
    k_extra "ks"
    · exact hN _ _ ⟨S, P, _, _, by k_extra "lo", News.perm ‹_› (fun p hp => List.mem_cons_of_mem _ hp), by assumption, by assumption, hSn, hPn, Nat.le_of_lt (Int.ofNat_lt.mp (by assumption)), if_pos (Int.ofNat_lt.mp (by assumption))⟩
    · exact hN _ _ ⟨P, S, _, _, by k_extra "lo", by assumption, by assumption, by assumption, hPn, hSn, lv_ge (by assumption), if_neg (Nat.not_lt.mpr (lv_ge (by assumption)))⟩
  intro h12 tk12 hP
  first | (revert hP; intro hx9; k_extra "xe12"; clear hx9; intro U V t12 t12' hx9; (first | (k_extra "xq2"; clear hx9; intro r12 F12) | obtain ⟨r12, F12⟩ := hx9); intro N12 hU hV hUn hVn hUV hcore) | obtain ⟨U, V, t12, t12', ⟨r12, F12⟩, N12, hU, hV, hUn, hVn, hUV, hcore⟩ := hP
  clear F11 N11
  rw [hcore] at hret
  dsimp only
  refine seqQ (fun h => ∃ (t t' : Tok), Loc g L1 h [("max_cost", .int mx tm), ("b", .str (tx V) t), ("a", .str (tx U) t')] ∧ News g L1 h news ∧ ¬ ((V.length : Int) - U.length) * 2 > mx) ?_ ?_
  · intro Qn hN hRt
    k_extra "ks"
    · refine hRt _ _ ?_
      k_extra "ks"
      refine hret _ _ _ _ (by assumption) (by assumption) ⟨rfl, _, congrArg (fun z => Value.int z _) ?_⟩
      simp only [levCore]
      rw [if_pos (by k_extra "li")]
    · exact hN _ _ ⟨_, _, by k_extra "lo", by assumption, by k_extra "li"⟩
  intro h13 tk13 hP
  first | (revert hP; intro hx9; k_extra "xe5"; clear hx9; intro t13 t13' hx9; (first | (k_extra "xq2"; clear hx9; intro r13 F13) | obtain ⟨r13, F13⟩ := hx9); intro N13 hnm) | obtain ⟨t13, t13', ⟨r13, F13⟩, N13, hnm⟩ := hP
  clear F12 N12
  dsimp only
  refine seqQ (fun h => ∃ (t t' : Tok) (D : Addr) (us : List Value) (n : Nat), Loc g L1 h [("row", .ref D), ("max_cost", .int mx tm), ("b", .str (tx V) t), ("a", .str (tx U) t')] ∧ News g L1 h ((D, listOf us.toArray n) :: news) ∧ (∀ p ∈ news, p.1 < D) ∧ IntsAre us (row0 U.length)) ?_ ?_
  · intro Qn hN hRt
    k_extra "ks"
    exact hN _ _ ⟨_, _, _, _, _, by k_extra "lo", by assumption, by assumption, by assumption⟩
  intro h14 tk14 hP
  first | (revert hP; intro hx9; k_extra "xe9"; clear hx9; intro t14 t14' D us n hx9; (first | (k_extra "xq2"; clear hx9; intro r14 F14) | obtain ⟨r14, F14⟩ := hx9); intro N14 l14 I14) | obtain ⟨t14, t14', D, us, n, ⟨r14, F14⟩, N14, l14, I14⟩ := hP
  clear F13 N13
  dsimp only
  refine seqQ (fun h => ∃ (t t' t'' : Tok), Loc g L1 h [("result", .int 0 t''), ("row", .ref D), ("max_cost", .int mx tm), ("b", .str (tx V) t), ("a", .str (tx U) t')] ∧ News g L1 h ((D, listOf us.toArray n) :: news)) ?_ ?_
  · intro Qn hN hRt
    k_extra "ks"
    exact hN _ _ ⟨_, _, _, by k_extra "lo", by assumption⟩
  intro h15 tk15 hP
  first | (revert hP; intro hx9; k_extra "xe5"; clear hx9; intro t15 t15' t15'' hx9; (first | (k_extra "xq2"; clear hx9; intro r15 F15) | obtain ⟨r15, F15⟩ := hx9); intro N15) | obtain ⟨t15, t15', t15'', ⟨r15, F15⟩, N15⟩ := hP
  clear F14 N14
  dsimp only
  have hcr : levCore U V mx = outFrom U mx V 0 (row0 U.length) 0 := by simp only [levCore]; rw [if_neg hnm]
  rw [hcr] at hret
  refine seqQ (fun h => ∃ (t' : Tok) (nx : CbLed), Loc g L1 h [("result", .int (outFrom U mx V 0 (row0 U.length) 0) t')] ∧ News g L1 h nx ∧ ∀ p ∈ news, p ∈ nx) ?_ ?_
  · intro Qn hN hRt
    k_extra "kfor"
    refine forRange0 (σ := List Value × List Int × Int × Tok × Nat) (fun c => (D, listOf c.1.toArray c.2.2.2.2) :: news) (fun c => [("result", .int c.2.2.1 c.2.2.2.1), ("row", .ref D), ("max_cost", .int mx tm), ("b", .str (tx V) t15), ("a", .str (tx U) t15')])
      (fun j c => IntsAre c.1 c.2.1 ∧ c.2.1.length = U.length ∧ outFrom U mx V 0 (row0 U.length) 0 = outFrom U mx (V.drop j) j c.2.1 c.2.2.1) (us, row0 U.length, 0, t15'', n) rfl (by assumption) rfl (by k_extra "li") (by assumption) (by assumption) ?_ ?_ ?_ ?_
    · k_extra "kn_all"
    · exact ⟨I14, by simp [row0], rfl⟩
    · intro hx9
      first | (k_extra "xq5"; clear hx9; intro us1 ks1 res1 tr1 n1) | obtain ⟨us1, ks1, res1, tr1, n1⟩ := hx9
      intro i ti rr h tk own hin hoff hx9
      first | (k_extra "xq3"; clear hx9; intro I1 hl1 heq) | obtain ⟨I1, hl1, heq⟩ := hx9
      intro F1 N1
      refine turnQ ?_
      intro QT hT hVt
      dsimp only at *
      have F1' : Fr g L1 h _ := F1
      have N1' : News g L1 h _ := N1
      clear F1 N1; try k_sweep
      refine seqQ (fun h => ∃ (t : Tok), Loc g L1 h [("bchar", .str (tx [V.getD i 0]) t), ("bindex", .int (i : Int) ti), ("row", .ref D), ("max_cost", .int mx tm), ("b", .str (tx V) t15), ("a", .str (tx U) t15')] ∧ News g L1 h ((D, listOf us1.toArray n1) :: news ++ own)) ?_ ?_
      · intro Qn hN hRt
        k_extra "ks"
        exact hN _ _ ⟨_, by k_extra "lo", by assumption⟩
      intro h16 tk16 hP
      first | (revert hP; intro hx9; k_extra "xe3"; clear hx9; intro t16 hx9; (first | (k_extra "xq2"; clear hx9; intro r16 F16) | obtain ⟨r16, F16⟩ := hx9); intro N16) | obtain ⟨t16, ⟨r16, F16⟩, N16⟩ := hP
      clear F1' N1'
      dsimp only
      refine seqQ (fun h => ∃ (t t' : Tok), Loc g L1 h [("result", .int (2 * (i : Int)) t), ("distance", .int (2 * (i : Int)) t'), ("bchar", .str (tx [V.getD i 0]) t16), ("bindex", .int (i : Int) ti), ("row", .ref D), ("max_cost", .int mx tm), ("b", .str (tx V) t15), ("a", .str (tx U) t15')] ∧ News g L1 h ((D, listOf us1.toArray n1) :: news ++ own)) ?_ ?_
      · intro Qn hN hRt
        k_extra "ks"
        exact hN _ _ ⟨_, _, by k_extra "lo", by assumption⟩
      intro h17 tk17 hP
      first | (revert hP; intro hx9; k_extra "xe4"; clear hx9; intro t17 t17' hx9; (first | (k_extra "xq2"; clear hx9; intro r17 F17) | obtain ⟨r17, F17⟩ := hx9); intro N17) | obtain ⟨t17, t17', ⟨r17, F17⟩, N17⟩ := hP
      clear F16 N16
      dsimp only
      refine seqQ (fun h => ∃ (t : Tok), Loc g L1 h [("minimum", .int big t), ("result", .int (2 * (i : Int)) t17), ("distance", .int (2 * (i : Int)) t17'), ("bchar", .str (tx [V.getD i 0]) t16), ("bindex", .int (i : Int) ti), ("row", .ref D), ("max_cost", .int mx tm), ("b", .str (tx V) t15), ("a", .str (tx U) t15')] ∧ News g L1 h ((D, listOf us1.toArray n1) :: news ++ own)) ?_ ?_
      · intro Qn hN hRt
        k_extra "ks"
        exact hN _ _ ⟨_, by k_extra "lo", by assumption⟩
      intro h18 tk18 hP
      first | (revert hP; intro hx9; k_extra "xe3"; clear hx9; intro t18 hx9; (first | (k_extra "xq2"; clear hx9; intro r18 F18) | obtain ⟨r18, F18⟩ := hx9); intro N18) | obtain ⟨t18, ⟨r18, F18⟩, N18⟩ := hP
      clear F17 N17
      dsimp only
      refine seqQ (fun h => ∃ (st : InSt) (us : List Value) (t t' : Tok) (n : Nat), st = inn U (V.getD i 0) ⟨ks1, 2 * (i : Int), 2 * (i : Int), big⟩ U.length ∧ IntsAre us st.row ∧ Loc g L1 h [("minimum", .int st.mn t), ("result", .int st.res t'), ("row", .ref D), ("max_cost", .int mx tm), ("b", .str (tx V) t15), ("a", .str (tx U) t15')] ∧ News g L1 h ((D, listOf us.toArray n) :: news ++ own)) ?_ ?_
      · intro Qn hN hRt
        k_extra "kfor"
        refine forRange0 (σ := List Value × Tok × Tok × Tok × Nat × InSt) (fun c => (D, listOf c.1.toArray c.2.2.2.2.1) :: news ++ own) (fun c => [("minimum", .int c.2.2.2.2.2.mn c.2.1), ("result", .int c.2.2.2.2.2.res c.2.2.1), ("distance", .int c.2.2.2.2.2.d c.2.2.2.1), ("bchar", .str (tx [V.getD i 0]) t16), ("row", .ref D), ("max_cost", .int mx tm), ("b", .str (tx V) t15), ("a", .str (tx U) t15')])
          (fun j c => c.2.2.2.2.2 = inn U (V.getD i 0) ⟨ks1, 2 * (i : Int), 2 * (i : Int), big⟩ j ∧ IntsAre c.1 c.2.2.2.2.2.row) (us1, t18, t17, t17', n1, ⟨ks1, 2 * (i : Int), 2 * (i : Int), big⟩) rfl (by assumption) rfl (by k_extra "li") (by assumption) (by assumption) ?_ ?_ ?_ ?_
        · k_extra "kn_all"
        · exact ⟨rfl, I1⟩
        · intro hx9
          first | (k_extra "xq6"; clear hx9; intro us2 tmn tres td n2 st) | obtain ⟨us2, tmn, tres, td, n2, st⟩ := hx9
          intro k tkk rr2 h19 tk19 own2 hkn hoff2 hx9
          first | (k_extra "xq2"; clear hx9; intro hst I2) | obtain ⟨hst, I2⟩ := hx9
          intro F2 N2
          refine turnQ ?_
          intro QT2 hT hVt2
          dsimp only at *
          have F2' : Fr g L1 h19 _ := F2
          have N2' : News g L1 h19 _ := N2
          clear F2 N2; try k_sweep
          have hrl : st.row.length = U.length := by rw [hst, inn_len]; exact hl1
          have hk1 : k < st.row.length := by rw [hrl]; exact hkn
          have hk2 : k ≤ 1000 := Nat.le_trans (Nat.le_of_lt hkn) (nt_40 hU)
          k_extra "ks"
          all_goals simp only [Int.toNat_natCast] at *
          all_goals generalize hres' : (if st.d + scN (V.getD i 0) (U.getD k 0) < (if st.row.getD k 0 < st.res then st.row.getD k 0 else st.res) + 2 then st.d + scN (V.getD i 0) (U.getD k 0) else (if st.row.getD k 0 < st.res then st.row.getD k 0 else st.res) + 2) = res' at *
          · refine hT ⟨us2.set k (.int res' _), _, _, _, _, ⟨st.row.set k res', st.row.getD k 0, res', res'⟩⟩ (by assumption) (by assumption) rfl (by simp) (by k_extra "kn_all") ⟨?_, by assumption⟩
            simp only [inn]
            rw [← hst]
            simp only [inS]
            rw [hres', if_pos (by assumption)]
          · refine hT ⟨us2.set k (.int res' _), _, _, _, _, ⟨st.row.set k res', st.row.getD k 0, res', st.mn⟩⟩ (by assumption) (by assumption) rfl (by simp) (by k_extra "kn_all") ⟨?_, by assumption⟩
            simp only [inn]
            rw [← hst]
            simp only [inS]
            rw [hres', if_neg (by assumption)]
        · intro hx9
          first | (k_extra "xq6"; clear hx9; intro us2 tmn tres td n2 st) | obtain ⟨us2, tmn, tres, td, n2, st⟩ := hx9
          intro rr2 h19 tk19 hx9
          first | (k_extra "xq2"; clear hx9; intro hst I2) | obtain ⟨hst, I2⟩ := hx9
          intro F2 N2
          dsimp only at *
          exact hN _ _ ⟨st, us2, _, _, _, hst, I2, by k_extra "lo", N2⟩
      intro h20 tk20 hP
      first | (revert hP; intro hx9; k_extra "xe9"; clear hx9; intro st us2 t20 t20' n2 hst I2 hx9; (first | (k_extra "xq2"; clear hx9; intro r20 F20) | obtain ⟨r20, F20⟩ := hx9); intro N20) | obtain ⟨st, us2, t20, t20', n2, hst, I2, ⟨r20, F20⟩, N20⟩ := hP
      clear F18 N18
      dsimp only
      have hVd : V.drop i = V.getD i 0 :: V.drop (i + 1) := by
        rw [List.drop_eq_getElem_cons hin]; simp [List.getD, hin]
      rw [hVd] at heq
      simp only [outFrom] at heq
      rw [← hst] at heq
      k_extra "ks"
      · -- the bound is broken
        rw [if_pos (by k_extra "li")] at heq
        rw [heq] at hret
        refine hVt _ _ (hRt _ _ ?_)
        have N20' : News g L1 h20 news := News.perm N20 fun p hp => List.mem_cons_of_mem _ (List.mem_append_left _ hp)
        clear N20
        k_extra "ks"
        exact hret _ _ _ _ (by assumption) (by assumption) ⟨rfl, _, rfl⟩
      · rw [if_neg (by k_extra "li")] at heq
        refine hT ⟨us2, st.row, st.res, _, _⟩ (by assumption) (by assumption) rfl (by simp) (by k_extra "kn_all") ⟨I2, ?_, heq⟩
        rw [hst, inn_len]; exact hl1
    · intro hx9
      first | (k_extra "xq5"; clear hx9; intro us1 ks1 res1 tr1 n1) | obtain ⟨us1, ks1, res1, tr1, n1⟩ := hx9
      intro rr h tk hx9
      first | (k_extra "xq3"; clear hx9; intro I1 hl1 heq) | obtain ⟨I1, hl1, heq⟩ := hx9
      intro F1 N1
      dsimp only at *
      rw [List.drop_length] at heq
      refine hN _ _ ?_
      rw [heq]
      exact ⟨_, _, by k_extra "lo", N1, fun p hp => List.mem_cons_of_mem _ hp⟩
  intro h21 tk21 hP
  first | (revert hP; intro hx9; k_extra "xe5"; clear hx9; intro t21 nx hx9; (first | (k_extra "xq2"; clear hx9; intro r21 F21) | obtain ⟨r21, F21⟩ := hx9); intro N21 hsub) | obtain ⟨t21, nx, ⟨r21, F21⟩, N21, hsub⟩ := hP
  dsimp only
  have N21' : News g L1 h21 news := News.perm N21 hsub
  clear N21
  k_extra "ks"
  exact hret _ _ _ _ (by assumption) (by assumption) ⟨rfl, _, rfl⟩
end
section
section
variable (sc : Nat → Nat → Int)
noncomputable def inSG (A : List Nat) (bc i : Nat) (st : InSt) : InSt :=
  let sub := st.d + sc bc (A.getD i 0)
  let d := st.row.getD i 0
  let ide := (if d < st.res then d else st.res) + 2
  let res := if sub < ide then sub else ide
  ⟨st.row.set i res, d, res, if res < st.mn then res else st.mn⟩
noncomputable def innG (A : List Nat) (bc : Nat) (st : InSt) : Nat → InSt
  | 0 => st
  | i + 1 => inSG sc A bc i (innG A bc st i)
noncomputable def outG (A : List Nat) (m : Int) : List Nat → Nat → List Int → Int → Int
  | [], _, _, res => res
  | bc :: bs, j, row, _ =>
    let st := innG sc A bc ⟨row, 2 * j, 2 * j, big⟩ A.length
    if st.mn > m then m + 1 else outG A m bs (j + 1) st.row st.res
noncomputable def coreG (A B : List Nat) (m : Int) : Int := if ((B.length : Int) - A.length) * 2 > m then m + 1 else outG sc A m B 0 (row0 A.length) 0
noncomputable def midG (A B : List Nat) (m : Int) : Int :=
  if A = [] ∨ B = [] then 2 * ((A.length : Int) + B.length)
  else if 40 < A.length ∨ 40 < B.length then m + 1
  else if B.length < A.length then coreG sc B A m else coreG sc A B m
noncomputable def levG (a b : List Nat) (m : Int) : Int :=
  if a = b then 0 else
    let p := cpl a b
    let A := a.drop p
    let B := b.drop p
    let q := cpl A.reverse B.reverse
    midG sc (A.take (A.length - q)) (B.take (B.length - q)) m
end
theorem inn_eq (A : List Nat) (bc : Nat) (st : InSt) : ∀ i, inn A bc st i = innG scN A bc st i
  | 0 => rfl
  | i + 1 => by rw [inn, innG, inn_eq A bc st i]; rfl
theorem out_eq (A : List Nat) (m : Int) : ∀ (bs : List Nat) (j : Nat) (row : List Int) (res : Int), outFrom A m bs j row res = outG scN A m bs j row res
  | [], _, _, _ => rfl
  | bc :: bs, j, row, res => by
    simp only [outFrom, outG]
    rw [inn_eq, out_eq A m bs]
theorem pyLev_eq (a b : List Nat) (m : Int) : pyLev a b m = levG scN a b m := by
  unfold pyLev levG levMid midG levCore coreG
  simp only [out_eq]
section
variable {sc sc' : Nat → Nat → Int} {f : Nat → Nat}
theorem inn_map {A : List Nat} {bc : Nat} (h : ∀ y ∈ A, sc (f bc) (f y) = sc' bc y) (st : InSt) : ∀ i, i ≤ A.length → innG sc (A.map f) (f bc) st i = innG sc' A bc st i
  | 0, _ => rfl
  | i + 1, hi => by
    rw [innG, innG, inn_map h st i (by lia)]
    have e : (A.map f).getD i 0 = f (A.getD i 0) := by simp [List.getD, List.getElem?_eq_getElem (show i < A.length by lia)]
    have hm : A.getD i 0 ∈ A := by
      rw [show A.getD i 0 = A[i] from by simp [List.getD, List.getElem?_eq_getElem (show i < A.length by lia)]]
      exact List.getElem_mem _
    unfold inSG
    rw [e, h _ hm]
theorem out_map {A : List Nat} (m : Int) : ∀ (bs : List Nat) (j : Nat) (row : List Int) (res : Int), (∀ x ∈ bs, ∀ y ∈ A, sc (f x) (f y) = sc' x y) → outG sc (A.map f) m (bs.map f) j row res = outG sc' A m bs j row res
  | [], _, _, _, _ => rfl
  | bc :: bs, j, row, res, h => by
    simp only [outG, List.map_cons, List.length_map]
    rw [inn_map (h bc (.head _)) _ _ (Nat.le_refl _)]
    split
    · rfl
    · exact out_map m bs _ _ _ fun x hx => h x (.tail _ hx)
theorem core_map {A B : List Nat} (m : Int) (h : ∀ x ∈ B, ∀ y ∈ A, sc (f x) (f y) = sc' x y) : coreG sc (A.map f) (B.map f) m = coreG sc' A B m := by
  unfold coreG
  rw [List.length_map, List.length_map, out_map m B _ _ _ h]
theorem mid_map {A B : List Nat} (m : Int) (h : ∀ x ∈ B, ∀ y ∈ A, sc (f x) (f y) = sc' x y) (h' : ∀ x ∈ A, ∀ y ∈ B, sc (f x) (f y) = sc' x y) : midG sc (A.map f) (B.map f) m = midG sc' A B m := by
  unfold midG
  rw [core_map m h, core_map m h']
  simp only [List.map_eq_nil_iff, List.length_map]
theorem cpl_map : ∀ {a b : List Nat}, (∀ x ∈ a, ∀ y ∈ b, f x = f y → x = y) → cpl (a.map f) (b.map f) = cpl a b
  | [], _, _ => by cases ‹List Nat› <;> rfl
  | _ :: _, [], _ => rfl
  | x :: a, y :: b, h => by
    have ih := cpl_map (a := a) (b := b) fun x hx y hy => h x (.tail _ hx) y (.tail _ hy)
    simp only [List.map_cons, cpl]
    by_cases e : x = y
    · rw [if_pos e, if_pos (by rw [e]), ih]
    · rw [if_neg e, if_neg (fun e2 => e (h x (.head _) y (.head _) e2))]
theorem map_inj' : ∀ {a b : List Nat}, (∀ x ∈ a, ∀ y ∈ b, f x = f y → x = y) → a.map f = b.map f → a = b
  | [], [], _, _ => rfl
  | [], _ :: _, _, e => by simp at e
  | _ :: _, [], _, e => by simp at e
  | x :: a, y :: b, h, e => by
    simp only [List.map_cons, List.cons.injEq] at e
    rw [h x (.head _) y (.head _) e.1, map_inj' (fun x hx y hy => h x (.tail _ hx) y (.tail _ hy)) e.2]
theorem lev_map {a b : List Nat} (m : Int) (hi : ∀ x ∈ a, ∀ y ∈ b, f x = f y → x = y) (h : ∀ x ∈ b, ∀ y ∈ a, sc (f x) (f y) = sc' x y) (h' : ∀ x ∈ a, ∀ y ∈ b, sc (f x) (f y) = sc' x y) : levG sc (a.map f) (b.map f) m = levG sc' a b m := by
  unfold levG
  by_cases e : a = b
  · rw [if_pos e, if_pos (by rw [e])]
  · rw [if_neg e, if_neg (fun e2 => e (map_inj' hi e2)), cpl_map hi]
    simp only [← List.map_drop, ← List.map_reverse, List.length_map, ← List.map_take]
    rw [cpl_map (f := f) (a := (a.drop (cpl a b)).reverse) (b := (b.drop (cpl a b)).reverse) fun x hx y hy => hi x (List.mem_of_mem_drop (List.mem_reverse.mp hx)) y (List.mem_of_mem_drop (List.mem_reverse.mp hy))]
    refine mid_map m (fun x hx y hy => h x (List.mem_of_mem_drop (List.mem_of_mem_take hx)) y (List.mem_of_mem_drop (List.mem_of_mem_take hy))) (fun x hx y hy => h' x (List.mem_of_mem_drop (List.mem_of_mem_take hx)) y (List.mem_of_mem_drop (List.mem_of_mem_take hy)))
end
end
section
structure Cost (sc : Nat → Nat → Nat) : Prop where
  self : ∀ x, sc x x = 0
  symm : ∀ x y, sc x y = sc y x
  le2 : ∀ x y, sc x y ≤ 2
  tri : ∀ x y z, sc x z ≤ sc x y + sc y z
section
variable (sc : Nat → Nat → Nat)
inductive Al : List Nat → List Nat → Nat → Prop
  | nil : Al [] [] 0
  | del {a b c} (x : Nat) : Al a b c → Al (x :: a) b (c + 2)
  | ins {a b c} (y : Nat) : Al a b c → Al a (y :: b) (c + 2)
  | sub {a b c} (x y : Nat) : Al a b c → Al (x :: a) (y :: b) (c + sc x y)
noncomputable def ed : List Nat → List Nat → Nat
  | [], b => 2 * b.length
  | x :: a, [] => 2 * (a.length + 1)
  | x :: a, y :: b => min (min (ed a (y :: b)) (ed (x :: a) b) + 2) (ed a b + sc x y)
termination_by a b => a.length + b.length
end
section
variable {sc : Nat → Nat → Nat}
theorem ed_nil_left (b : List Nat) : ed sc [] b = 2 * b.length := by rw [ed]
theorem ed_nil_right (a : List Nat) : ed sc a [] = 2 * a.length := by
  cases a with
  | nil => rw [ed]
  | cons x a => rw [ed]; simp
theorem ed_cons (x y : Nat) (a b : List Nat) : ed sc (x :: a) (y :: b) = min (min (ed sc a (y :: b)) (ed sc (x :: a) b) + 2) (ed sc a b + sc x y) := by rw [ed]
theorem al_nil_left : ∀ b : List Nat, Al sc [] b (2 * b.length)
  | [] => .nil
  | y :: b => by have := (al_nil_left b).ins y; simpa [Nat.mul_add] using this
theorem al_nil_right : ∀ b : List Nat, Al sc b [] (2 * b.length)
  | [] => .nil
  | y :: b => by have := (al_nil_right b).del y; simpa [Nat.mul_add] using this
theorem ed_al : ∀ (n : Nat) (a b : List Nat), a.length + b.length ≤ n → Al sc a b (ed sc a b) := by
  intro n
  induction n with
  | zero =>
    intro a b h
    have ha : a = [] := List.length_eq_zero_iff.mp (by lia)
    have hb : b = [] := List.length_eq_zero_iff.mp (by lia)
    subst ha hb
    rw [ed_nil_left]; exact .nil
  | succ n ih =>
    intro a b h
    match a, b with
    | [], b => rw [ed_nil_left]; exact al_nil_left b
    | x :: a, [] => rw [ed_nil_right]; exact al_nil_right _
    | x :: a, y :: b =>
      simp only [List.length_cons] at h
      rw [ed_cons]
      have h1 := (ih a (y :: b) (by simp; lia)).del x
      have h2 := (ih (x :: a) b (by simp; lia)).ins y
      have h3 := (ih a b (by lia)).sub x y
      rcases Nat.le_total (ed sc a (y :: b)) (ed sc (x :: a) b) with e1 | e1
      · rw [Nat.min_eq_left e1]
        rcases Nat.le_total (ed sc a (y :: b) + 2) (ed sc a b + sc x y) with e2 | e2
        · rw [Nat.min_eq_left e2]; exact h1
        · rw [Nat.min_eq_right e2]; exact h3
      · rw [Nat.min_eq_right e1]
        rcases Nat.le_total (ed sc (x :: a) b + 2) (ed sc a b + sc x y) with e2 | e2
        · rw [Nat.min_eq_left e2]; exact h2
        · rw [Nat.min_eq_right e2]; exact h3
theorem al_ed (a b : List Nat) : Al sc a b (ed sc a b) := ed_al _ a b (Nat.le_refl _)
theorem ed_le {a b : List Nat} {c : Nat} (h : Al sc a b c) : ed sc a b ≤ c := by
  induction h with
  | nil => rw [ed_nil_left]; simp
  | @del a b c x h ih =>
    cases b with
    | nil => rw [ed_nil_right] at *; exact Nat.add_le_add_right ih 2
    | cons y b => rw [ed_cons]; exact Nat.le_trans (Nat.min_le_left _ _) (Nat.add_le_add_right (Nat.le_trans (Nat.min_le_left _ _) ih) 2)
  | @ins a b c y h ih =>
    cases a with
    | nil => rw [ed_nil_left] at *; exact Nat.add_le_add_right ih 2
    | cons x a => rw [ed_cons]; exact Nat.le_trans (Nat.min_le_left _ _) (Nat.add_le_add_right (Nat.le_trans (Nat.min_le_right _ _) ih) 2)
  | @sub a b c x y h ih => rw [ed_cons]; exact Nat.le_trans (Nat.min_le_right _ _) (Nat.add_le_add_right ih _)
theorem Al.app {a b a' b' : List Nat} {c c' : Nat} (h : Al sc a b c) (h' : Al sc a' b' c') : Al sc (a ++ a') (b ++ b') (c + c') := by
  induction h with
  | nil => simpa using h'
  | del x h ih => rw [Nat.add_right_comm]; exact ih.del x
  | ins y h ih => rw [Nat.add_right_comm]; exact ih.ins y
  | sub x y h ih => rw [Nat.add_right_comm]; exact ih.sub x y
theorem Al.rev {a b : List Nat} {c : Nat} (h : Al sc a b c) : Al sc a.reverse b.reverse c := by
  induction h with
  | nil => exact .nil
  | del x h ih => rw [List.reverse_cons]; simpa using ih.app ((Al.nil (sc := sc)).del x)
  | ins y h ih => rw [List.reverse_cons]; simpa using ih.app ((Al.nil (sc := sc)).ins y)
  | sub x y h ih => rw [List.reverse_cons, List.reverse_cons]; simpa using ih.app ((Al.nil (sc := sc)).sub x y)
theorem Al.symm (C : Cost sc) {a b : List Nat} {c : Nat} (h : Al sc a b c) : Al sc b a c := by
  induction h with
  | nil => exact .nil
  | del x h ih => exact ih.ins x
  | ins y h ih => exact ih.del y
  | sub x y h ih => rw [C.symm]; exact ih.sub y x
theorem Al.refl (C : Cost sc) : ∀ a : List Nat, Al sc a a 0
  | [] => .nil
  | x :: a => by have := (Al.refl C a).sub x x; rwa [C.self] at this
theorem Al.trans (C : Cost sc) : ∀ (n : Nat) {a b e : List Nat} {c c' : Nat}, a.length + b.length + e.length ≤ n → Al sc a b c → Al sc b e c' → ∃ c'', c'' ≤ c + c' ∧ Al sc a e c'' := by
  intro n
  induction n with
  | zero =>
    intro a b e c c' hn h h'
    have ha : a = [] := List.length_eq_zero_iff.mp (by lia)
    have he : e = [] := List.length_eq_zero_iff.mp (by lia)
    subst ha he
    exact ⟨0, by lia, .nil⟩
  | succ n ih =>
    intro a b e c c' hn h h'
    cases h with
    | nil => exact ⟨c', by lia, h'⟩
    | @del a b c x h =>
      simp only [List.length_cons] at hn
      obtain ⟨d, h1, h2⟩ := ih (by lia) h h'
      exact ⟨d + 2, by lia, h2.del x⟩
    | @ins a b c y h =>
      have H : Al sc a (y :: b) (c + 2) := h.ins y
      simp only [List.length_cons] at hn
      cases h' with
      | @del _ _ c' _ h' =>
        obtain ⟨d, h1, h2⟩ := ih (by lia) h h'
        exact ⟨d, by lia, h2⟩
      | @ins _ e c' z h' =>
        simp only [List.length_cons] at hn
        obtain ⟨d, h1, h2⟩ := ih (by simp; lia) H h'
        exact ⟨d + 2, by lia, h2.ins z⟩
      | @sub _ e c' _ z h' =>
        simp only [List.length_cons] at hn
        obtain ⟨d, h1, h2⟩ := ih (by lia) h h'
        exact ⟨d + 2, by lia, h2.ins z⟩
    | @sub a b c x y h =>
      have H : Al sc (x :: a) (y :: b) (c + sc x y) := h.sub x y
      simp only [List.length_cons] at hn
      cases h' with
      | @del _ _ c' _ h' =>
        obtain ⟨d, h1, h2⟩ := ih (by lia) h h'
        exact ⟨d + 2, by lia, h2.del x⟩
      | @ins _ e c' z h' =>
        simp only [List.length_cons] at hn
        obtain ⟨d, h1, h2⟩ := ih (by simp; lia) H h'
        exact ⟨d + 2, by lia, h2.ins z⟩
      | @sub _ e c' _ z h' =>
        simp only [List.length_cons] at hn
        obtain ⟨d, h1, h2⟩ := ih (by lia) h h'
        have := C.tri x y z
        exact ⟨d + sc x z, by lia, h2.sub x z⟩
theorem ed_tri (C : Cost sc) (a b e : List Nat) : ed sc a e ≤ ed sc a b + ed sc b e := by
  obtain ⟨c, h1, h2⟩ := Al.trans C _ (Nat.le_refl _) (al_ed a b) (al_ed b e)
  exact Nat.le_trans (ed_le h2) h1
theorem ed_symm (C : Cost sc) (a b : List Nat) : ed sc a b = ed sc b a :=
  Nat.le_antisymm (ed_le (al_ed b a |>.symm C)) (ed_le (al_ed a b |>.symm C))
theorem ed_rev (a b : List Nat) : ed sc a.reverse b.reverse = ed sc a b :=
  Nat.le_antisymm (ed_le (al_ed a b).rev) (by have := ed_le (al_ed (sc := sc) a.reverse b.reverse).rev; simpa using this)
theorem ed_self (C : Cost sc) (a : List Nat) : ed sc a a = 0 := Nat.le_zero.mp (ed_le (Al.refl C a))
theorem ed_app (a b a' b' : List Nat) : ed sc (a ++ a') (b ++ b') ≤ ed sc a b + ed sc a' b' := ed_le ((al_ed a b).app (al_ed a' b'))
theorem Al.len {a b : List Nat} {c : Nat} (h : Al sc a b c) : 2 * b.length ≤ c + 2 * a.length := by
  induction h with
  | nil => simp
  | del x h ih => simp; lia
  | ins y h ih => simp; lia
  | sub x y h ih => simp; lia
theorem ed_len (a b : List Nat) : 2 * b.length ≤ ed sc a b + 2 * a.length := (al_ed a b).len
theorem ed_le_len (a b : List Nat) : ed sc a b ≤ 2 * (a.length + b.length) := by
  have := ed_le ((al_nil_right (sc := sc) a).app (al_nil_left b))
  simp at this
  lia
theorem ed_cons_right (C : Cost sc) (y : Nat) (a b : List Nat) : ed sc a b ≤ ed sc a (y :: b) + 2 := by
  have h1 := ed_tri C a (y :: b) b
  have h2 := ed_le ((Al.refl C b).del y)
  lia
theorem ed_same (C : Cost sc) (x : Nat) (a b : List Nat) : ed sc (x :: a) (x :: b) = ed sc a b := by
  refine Nat.le_antisymm ?_ ?_
  · have := ed_le ((al_ed (sc := sc) a b).sub x x)
    rw [C.self] at this
    exact this
  · rw [ed_cons, C.self]
    have h1 := ed_cons_right C x a b
    have h2 := ed_cons_right C x b a
    rw [ed_symm C b a, ed_symm C b (x :: a)] at h2
    lia
theorem ed_head (C : Cost sc) : ∀ (p a b : List Nat), ed sc (p ++ a) (p ++ b) = ed sc a b
  | [], a, b => rfl
  | x :: p, a, b => by rw [List.cons_append, List.cons_append, ed_same C, ed_head C p]
inductive CutA (sc : Nat → Nat → Nat) : List Nat → List Nat → Nat → Nat → Prop
  | gap {a1 a2 b1 b2 : List Nat} {c c1 c2 k : Nat} (h1 : a1.length + b1.length = k) (h2 : Al sc a1 b1 c1) (h3 : Al sc a2 b2 c2) (hc : c = c1 + c2) : CutA sc (a1 ++ a2) (b1 ++ b2) c k
  | hit {a1 a2 b1 b2 : List Nat} {x y c c1 c2 k : Nat} (h1 : a1.length + b1.length + 1 = k) (h2 : Al sc a1 b1 c1) (h3 : Al sc a2 b2 c2) (hc : c = c1 + sc x y + c2) : CutA sc (a1 ++ x :: a2) (b1 ++ y :: b2) c k
theorem cut_l1 {a b k : Nat} (h : a + b = k) : a + 1 + b = k + 1 := by lia
theorem cut_l2 {c c1 c2 : Nat} (h : c = c1 + c2) : c + 2 = c1 + 2 + c2 := by lia
theorem cut_l3 {c c1 c2 s : Nat} (h : c = c1 + s + c2) : c + 2 = c1 + 2 + s + c2 := by lia
theorem cut_l4 {c c1 c2 s : Nat} (h : c = c1 + c2) : c + s = c1 + s + c2 := by lia
theorem cut_l5 {c c1 c2 s r : Nat} (h : c = c1 + s + c2) : c + r = c1 + r + s + c2 := by lia
theorem Al.cut {a b : List Nat} {c : Nat} (h : Al sc a b c) : ∀ k, k ≤ a.length + b.length → CutA sc a b c k := by
  induction h with
  | nil => exact fun k hk => CutA.gap (a1 := []) (b1 := []) (Nat.le_zero.mp hk).symm .nil .nil rfl
  | @del a b c x h ih =>
    intro k hk
    cases k with
    | zero => exact CutA.gap (a1 := []) (b1 := []) rfl .nil (h.del x) (Nat.zero_add _).symm
    | succ k =>
      rw [List.length_cons, Nat.add_right_comm] at hk
      cases ih k (Nat.le_of_succ_le_succ hk) with
      | @gap a1 a2 b1 b2 _ c1 c2 _ h1 h2 h3 hc => exact CutA.gap (a1 := x :: a1) (cut_l1 h1) (h2.del x) h3 (cut_l2 hc)
      | @hit a1 a2 b1 b2 z y _ c1 c2 _ h1 h2 h3 hc => exact CutA.hit (a1 := x :: a1) (by rw [← h1, List.length_cons, Nat.add_right_comm a1.length]) (h2.del x) h3 (cut_l3 hc)
  | @ins a b c x h ih =>
    intro k hk
    cases k with
    | zero => exact CutA.gap (a1 := []) (b1 := []) rfl .nil (h.ins x) (Nat.zero_add _).symm
    | succ k =>
      rw [List.length_cons, ← Nat.add_assoc] at hk
      cases ih k (Nat.le_of_succ_le_succ hk) with
      | @gap a1 a2 b1 b2 _ c1 c2 _ h1 h2 h3 hc => exact CutA.gap (b1 := x :: b1) (by rw [← h1]; rfl) (h2.ins x) h3 (cut_l2 hc)
      | @hit a1 a2 b1 b2 z y _ c1 c2 _ h1 h2 h3 hc => exact CutA.hit (b1 := x :: b1) (by rw [← h1]; rfl) (h2.ins x) h3 (cut_l3 hc)
  | @sub a b c x x' h ih =>
    intro k hk
    match k with
    | 0 => exact CutA.gap (a1 := []) (b1 := []) rfl .nil (h.sub x x') (Nat.zero_add _).symm
    | 1 => exact CutA.hit (a1 := []) (b1 := []) rfl .nil h (by rw [Nat.zero_add, Nat.add_comm])
    | k + 2 =>
      rw [List.length_cons, List.length_cons, Nat.add_right_comm] at hk
      cases ih k (Nat.le_of_succ_le_succ (Nat.le_of_succ_le_succ hk)) with
      | @gap a1 a2 b1 b2 _ c1 c2 _ h1 h2 h3 hc => exact CutA.gap (a1 := x :: a1) (b1 := x' :: b1) (by rw [← h1, List.length_cons, List.length_cons, Nat.add_right_comm]; rfl) (h2.sub x x') h3 (cut_l4 hc)
      | @hit a1 a2 b1 b2 z y _ c1 c2 _ h1 h2 h3 hc => exact CutA.hit (a1 := x :: a1) (b1 := x' :: b1) (by rw [← h1, List.length_cons, List.length_cons, Nat.add_right_comm a1.length]; rfl) (h2.sub x x') h3 (cut_l5 hc)
theorem mirror_split (C : Cost sc) (x : List Nat) : ∃ i h, (h = 0 ∨ h = 1) ∧ i + h ≤ x.length ∧ 2 * ed sc (x.take i) (x.drop (i + h)).reverse ≤ ed sc x x.reverse := by
  have hcut := (al_ed (sc := sc) x x.reverse).cut x.length (Nat.le_add_right _ _)
  generalize ed sc x x.reverse = cc at *
  generalize hxr : x.reverse = xr at *
  generalize hn : x.length = n at *
  cases hcut with
  | @gap a1 a2 b1 b2 _ c1 c2 _ hl h2 h3 hc =>
    refine ⟨a1.length, 0, .inl rfl, by rw [← hl]; exact Nat.le_add_right _ _, ?_⟩
    rw [Nat.add_zero, List.take_left, List.drop_left]
    rw [List.reverse_append] at hxr
    obtain ⟨r1, r2⟩ := List.append_inj hxr (by rw [List.length_reverse]; rw [List.length_append] at hn; lia)
    subst r1
    subst r2
    have k1 := ed_le h2
    have k2 := ed_le h3
    have k3 : ed sc a2 a1.reverse = ed sc a1 a2.reverse := by
      rw [ed_symm C, ← ed_rev, List.reverse_reverse]
    lia
  | @hit a1 a2 b1 b2 z y _ c1 c2 _ hl h2 h3 hc =>
    refine ⟨a1.length, 1, .inr rfl, by rw [← hl]; lia, ?_⟩
    have e2 : List.drop (a1.length + 1) (a1 ++ z :: a2) = a2 := by rw [← List.drop_drop, List.drop_left]; rfl
    rw [List.take_left, e2]
    rw [List.reverse_append, List.reverse_cons, List.append_assoc] at hxr
    obtain ⟨r1, r2⟩ := List.append_inj hxr (by rw [List.length_reverse]; rw [List.length_append, List.length_cons] at hn; lia)
    subst r1
    obtain ⟨r3, r4⟩ := List.cons.inj r2
    subst r4
    have k1 := ed_le h2
    have k2 : ed sc a2 a1.reverse ≤ c2 := ed_le h3
    have k3 : ed sc a2 a1.reverse = ed sc a1 a2.reverse := by
      rw [ed_symm C, ← ed_rev, List.reverse_reverse]
    lia
theorem split_mirror (C : Cost sc) (a h b : List Nat) (hh : h.reverse = h) : ed sc (a ++ (h ++ b)) (a ++ (h ++ b)).reverse ≤ 2 * ed sc a b.reverse := by
  have e : (a ++ (h ++ b)).reverse = b.reverse ++ (h ++ a.reverse) := by simp [hh]
  rw [e]
  have k1 := ed_app (sc := sc) a b.reverse (h ++ b) (h ++ a.reverse)
  rw [ed_head C] at k1
  have k3 : ed sc b a.reverse = ed sc a b.reverse := by
    rw [ed_symm C, ← ed_rev, List.reverse_reverse]
  lia
theorem pal_far (C : Cost sc) (x p : List Nat) (hp : p.reverse = p) : ed sc x x.reverse ≤ 2 * ed sc p x := by
  have h1 := ed_tri C x p x.reverse
  have h2 : ed sc p x.reverse = ed sc p x := by rw [← ed_rev, List.reverse_reverse, hp]
  rw [ed_symm C x p] at h1
  lia
end
end
section
section
variable {sc : Nat → Nat → Nat}
abbrev scI (sc : Nat → Nat → Nat) : Nat → Nat → Int := fun x y => (sc x y : Int)
noncomputable def pre (sc : Nat → Nat → Nat) (A B : List Nat) (i j : Nat) : Nat := ed sc (A.take i).reverse (B.take j).reverse
theorem take_rev {A : List Nat} {i : Nat} (h : i < A.length) : (A.take (i + 1)).reverse = A.getD i 0 :: (A.take i).reverse := by
  rw [List.take_add_one, List.getElem?_eq_getElem h]
  simp [List.getD, List.getElem?_eq_getElem h]
theorem pre_zero (A B : List Nat) (j : Nat) (hj : j ≤ B.length) : pre sc A B 0 j = 2 * j := by
  unfold pre
  rw [List.take_zero, List.reverse_nil, ed_nil_left, List.length_reverse, List.length_take, Nat.min_eq_left hj]
theorem pre_zero_right (A B : List Nat) (i : Nat) (hi : i ≤ A.length) : pre sc A B i 0 = 2 * i := by
  unfold pre
  rw [List.take_zero, List.reverse_nil, ed_nil_right, List.length_reverse, List.length_take, Nat.min_eq_left hi]
theorem pre_step {A B : List Nat} {i j : Nat} (hi : i < A.length) (hj : j < B.length) :
    pre sc A B (i + 1) (j + 1) = min (min (pre sc A B i (j + 1)) (pre sc A B (i + 1) j) + 2) (pre sc A B i j + sc (A.getD i 0) (B.getD j 0)) := by
  unfold pre
  rw [take_rev hi, take_rev hj, ed_cons]
theorem pre_full (A B : List Nat) : pre sc A B A.length B.length = ed sc A B := by
  unfold pre
  rw [List.take_length, List.take_length, ed_rev]
theorem pre_grow {A B : List Nat} {j : Nat} {m : Int} (hj : j < B.length) (h : ∀ i, i ≤ A.length → m < pre sc A B i j) : ∀ i, i ≤ A.length → m < pre sc A B i (j + 1) := by
  intro i
  induction i with
  | zero =>
    intro _
    have := h 0 (Nat.zero_le _)
    rw [pre_zero _ _ _ (by lia)] at *
    lia
  | succ i ih =>
    intro hi
    rw [pre_step (by lia) hj]
    have h1 := ih (by lia)
    have h2 := h (i + 1) hi
    have h3 := h i (by lia)
    lia
theorem pre_grows {A B : List Nat} {m : Int} : ∀ (n j : Nat), j + n = B.length → (∀ i, i ≤ A.length → m < pre sc A B i j) → m < pre sc A B A.length B.length := by
  intro n
  induction n with
  | zero => intro j hj h; rw [show B.length = j from by lia]; exact h _ (Nat.le_refl _)
  | succ n ih => intro j hj h; exact ih (j + 1) (by lia) (pre_grow (by lia) h)
structure RowOk (sc : Nat → Nat → Nat) (A B : List Nat) (j : Nat) (row : List Int) : Prop where
  len : row.length = A.length
  at_ : ∀ i, i < A.length → row.getD i 0 = (pre sc A B (i + 1) j : Int)
structure InOk (sc : Nat → Nat → Nat) (A B : List Nat) (j i : Nat) (st : InSt) : Prop where
  len : st.row.length = A.length
  done : ∀ k, k < i → st.row.getD k 0 = (pre sc A B (k + 1) (j + 1) : Int)
  todo : ∀ k, i ≤ k → k < A.length → st.row.getD k 0 = (pre sc A B (k + 1) j : Int)
  d : st.d = (pre sc A B i j : Int)
  res : st.res = if i = 0 then 2 * (j : Int) else (pre sc A B i (j + 1) : Int)
  mnle : ∀ k, k < i → st.mn ≤ (pre sc A B (k + 1) (j + 1) : Int)
  mnge : ∀ v : Int, v ≤ big → (∀ k, k < i → v ≤ (pre sc A B (k + 1) (j + 1) : Int)) → v ≤ st.mn
theorem getD_set {l : List Int} {i k : Nat} {v : Int} (h : i < l.length) : (l.set i v).getD k 0 = if i = k then v else l.getD k 0 := by
  simp only [List.getD_eq_getElem?_getD, List.getElem?_set]
  by_cases e : i = k
  · subst e; simp [h]
  · simp [e]
theorem ifmin (a b : Nat) : (if (b : Int) < (a : Int) then (b : Int) else (a : Int)) = ((min a b : Nat) : Int) := by
  by_cases h : b < a
  · rw [if_pos (Int.ofNat_lt.mpr h), Nat.min_eq_right (Nat.le_of_lt h)]
  · rw [if_neg (fun e => h (Int.ofNat_lt.mp e)), Nat.min_eq_left (Nat.le_of_not_lt h)]
theorem ifmin2 (a b c : Nat) : (if (c : Int) < (if (b : Int) < (a : Int) then (b : Int) else (a : Int)) + 2 then (c : Int) else (if (b : Int) < (a : Int) then (b : Int) else (a : Int)) + 2) = ((min (min a b + 2) c : Nat) : Int) := by
  rw [ifmin]
  exact ifmin (min a b + 2) c
theorem min0 (j b : Nat) {s : Nat} (h : s ≤ 2) : min (min (2 * j) b + 2) (2 * j + s) = min (min (2 * j + 2) b + 2) (2 * j + s) := by
  rcases Nat.le_total (2 * j) b with e | e
  · rw [Nat.min_eq_left e, Nat.min_eq_right (Nat.add_le_add_left h _), Nat.min_eq_right]
    exact Nat.le_trans (Nat.add_le_add_left h _) (Nat.add_le_add_right (Nat.le_min.mpr ⟨Nat.le_add_right _ _, e⟩) 2)
  · rw [Nat.min_eq_right e, Nat.min_eq_right (Nat.le_trans e (Nat.le_add_right _ 2))]
theorem inn_ok (C : Cost sc) {A B : List Nat} {j : Nat} (hj : j < B.length) {row : List Int} (R : RowOk sc A B j row) : ∀ i, i ≤ A.length → InOk sc A B j i (innG (scI sc) A (B.getD j 0) ⟨row, 2 * j, 2 * j, big⟩ i) := by
  intro i
  induction i with
  | zero =>
    intro _
    refine ⟨R.len, fun k hk => absurd hk (by lia), fun k _ hk => R.at_ k hk, ?_, by simp [innG], fun k hk => absurd hk (by lia), fun v hv _ => hv⟩
    rw [pre_zero _ _ _ (by lia)]
    simp [innG]
  | succ i ih =>
    intro hi
    have I := ih (by lia)
    rw [innG]
    generalize innG (scI sc) A (B.getD j 0) ⟨row, 2 * j, 2 * j, big⟩ i = st at *
    have hP := pre_step (sc := sc) (A := A) (B := B) (i := i) (j := j) (by lia) hj
    have e1 := I.todo i (Nat.le_refl _) (by lia)
    have e2 := I.d
    have e3 := I.res
    have hs : ∀ x y, scI sc x y = (sc y x : Int) := fun x y => by rw [C.symm]
    have h2 := C.le2 (A.getD i 0) (B.getD j 0)
    have hres : (inSG (scI sc) A (B.getD j 0) i st).res = (pre sc A B (i + 1) (j + 1) : Int) := by
      unfold inSG
      dsimp only
      rw [hs, e1, e2, e3, hP]
      by_cases h0 : i = 0
      · subst h0
        rw [if_pos rfl, pre_zero A B j (by lia), pre_zero A B (j + 1) (by lia), show ((2 * (j + 1) : Nat)) = 2 * j + 2 from rfl, ← min0 _ _ h2]
        exact ifmin2 _ _ _
      · rw [if_neg h0]
        exact ifmin2 _ _ _
    have hrow : (inSG (scI sc) A (B.getD j 0) i st).row = st.row.set i (inSG (scI sc) A (B.getD j 0) i st).res := rfl
    have hd : (inSG (scI sc) A (B.getD j 0) i st).d = st.row.getD i 0 := rfl
    have hmn : (inSG (scI sc) A (B.getD j 0) i st).mn = if (inSG (scI sc) A (B.getD j 0) i st).res < st.mn then (inSG (scI sc) A (B.getD j 0) i st).res else st.mn := rfl
    have hil : i < st.row.length := by rw [I.len]; lia
    refine ⟨?_, ?_, ?_, ?_, ?_, ?_, ?_⟩
    · rw [hrow, List.length_set]; exact I.len
    · intro k hk
      rw [hrow, getD_set hil]
      by_cases e : i = k
      · rw [if_pos e, hres, e]
      · rw [if_neg e]; exact I.done k (by lia)
    · intro k hk1 hk2
      rw [hrow, getD_set hil, if_neg (by lia)]
      exact I.todo k (by lia) hk2
    · rw [hd]; exact e1
    · rw [hres, if_neg (by lia)]
    · intro k hk
      rw [hmn, hres]
      by_cases e : k = i
      · subst e
        split <;> lia
      · have := I.mnle k (by lia)
        split <;> lia
    · intro v hv h
      rw [hmn, hres]
      have h1 := I.mnge v hv fun k hk => h k (by lia)
      have h2 := h i (by lia)
      split <;> lia
theorem drop_cons {B : List Nat} {j bc : Nat} {bs : List Nat} (h : B.drop j = bc :: bs) : j < B.length ∧ bc = B.getD j 0 ∧ B.drop (j + 1) = bs := by
  have hl := congrArg List.length h
  rw [List.length_drop, List.length_cons] at hl
  have hj : j < B.length := by lia
  rw [List.drop_eq_getElem_cons hj] at h
  obtain ⟨h1, h2⟩ := List.cons.inj h
  refine ⟨hj, ?_, h2⟩
  simp [List.getD, hj, h1]
theorem out_ok (C : Cost sc) {A B : List Nat} (hA : 0 < A.length) (m : Int) : ∀ (bs : List Nat) (j : Nat) (row : List Int) (res : Int), B.drop j = bs → RowOk sc A B j row → (bs = [] → res = (pre sc A B A.length B.length : Int)) →
    (outG (scI sc) A m bs j row res = (ed sc A B : Int)) ∨ (outG (scI sc) A m bs j row res = m + 1 ∧ m < (ed sc A B : Int)) := by
  intro bs
  induction bs with
  | nil =>
    intro j row res hb R hr
    left
    rw [outG, hr rfl, pre_full]
  | cons bc bs ih =>
    intro j row res hb R hr
    obtain ⟨hj, rfl, hb'⟩ := drop_cons hb
    have I := inn_ok C hj R A.length (Nat.le_refl _)
    rw [outG]
    generalize innG (scI sc) A (B.getD j 0) ⟨row, 2 * j, 2 * j, big⟩ A.length = st at *
    split
    · rename_i hm
      refine .inr ⟨rfl, ?_⟩
      rw [← pre_full]
      refine pre_grows (B.length - (j + 1)) (j + 1) (by lia) fun i hi => ?_
      cases i with
      | zero =>
        have h1 := I.mnle 0 hA
        have h2 := pre_step (sc := sc) (A := A) (B := B) (i := 0) (j := j) hA hj
        have h3 := C.le2 (A.getD 0 0) (B.getD j 0)
        rw [pre_zero A B j (by lia)] at h2
        rw [pre_zero A B (j + 1) (by lia)] at *
        lia
      | succ i =>
        have := I.mnle i (by lia)
        lia
    · refine ih (j + 1) st.row st.res hb' ⟨I.len, fun i hi => I.done i hi⟩ fun he => ?_
      rw [I.res, if_neg (by lia)]
      have : B.length ≤ j + 1 := List.drop_eq_nil_iff.mp (hb'.trans he)
      rw [show B.length = j + 1 from by lia]
theorem out_brk (C : Cost sc) {A B : List Nat} (hA : 0 < A.length) {m : Int} (hm : m < big) (hlast : ∀ i, i < A.length → m < (pre sc A B (i + 1) B.length : Int)) : ∀ (bs : List Nat) (j : Nat) (row : List Int) (res : Int), B.drop j = bs → bs ≠ [] → RowOk sc A B j row →
    outG (scI sc) A m bs j row res = m + 1 := by
  intro bs
  induction bs with
  | nil => intro j row res _ h; exact absurd rfl h
  | cons bc bs ih =>
    intro j row res hb _ R
    obtain ⟨hj, rfl, hb'⟩ := drop_cons hb
    have I := inn_ok C hj R A.length (Nat.le_refl _)
    rw [outG]
    generalize innG (scI sc) A (B.getD j 0) ⟨row, 2 * j, 2 * j, big⟩ A.length = st at *
    split
    · rfl
    · rename_i hn
      by_cases he : bs = []
      · exfalso
        have : B.length ≤ j + 1 := List.drop_eq_nil_iff.mp (hb'.trans he)
        have e : B.length = j + 1 := by lia
        rw [e] at hlast
        have := I.mnge (m + 1) (by lia) fun k hk => by have := hlast k hk; lia
        lia
      · exact ih (j + 1) st.row st.res hb' he ⟨I.len, fun i hi => I.done i hi⟩
theorem row0_ok (A B : List Nat) : RowOk sc A B 0 (row0 A.length) := by
  refine ⟨by simp [row0], fun i hi => ?_⟩
  rw [pre_zero_right _ _ _ (by lia)]
  simp [row0, List.getD, hi]
  lia
theorem core_ok (C : Cost sc) {A B : List Nat} (hA : A ≠ []) (hB : B ≠ []) (m : Int) : (coreG (scI sc) A B m = (ed sc A B : Int)) ∨ (coreG (scI sc) A B m = m + 1 ∧ m < (ed sc A B : Int)) := by
  unfold coreG
  split
  · rename_i h
    have := ed_len (sc := sc) A B
    exact .inr ⟨rfl, by lia⟩
  · refine out_ok C (List.length_pos_iff.mpr hA) m B 0 _ 0 rfl (row0_ok A B) fun e => absurd e hB
theorem mid_ok (C : Cost sc) {A B : List Nat} (hA : A.length ≤ 40) (hB : B.length ≤ 40) (m : Int) : (midG (scI sc) A B m = (ed sc A B : Int)) ∨ (midG (scI sc) A B m = m + 1 ∧ m < (ed sc A B : Int)) := by
  unfold midG
  split
  · rename_i h
    left
    rcases h with rfl | rfl
    · rw [ed_nil_left]; simp
    · rw [ed_nil_right]; simp
  · rename_i h
    rw [if_neg (by lia)]
    have h1 : A ≠ [] := fun e => h (.inl e)
    have h2 : B ≠ [] := fun e => h (.inr e)
    split
    · rw [ed_symm C]; exact core_ok C h2 h1 m
    · exact core_ok C h1 h2 m
theorem cpl_take : ∀ a b : List Nat, a.take (cpl a b) = b.take (cpl a b)
  | [], _ => by simp [cpl]
  | _ :: _, [] => by simp [cpl]
  | x :: a, y :: b => by
    simp only [cpl]
    split
    · rename_i e
      rw [List.take_succ_cons, List.take_succ_cons, cpl_take a b, e]
    · simp
theorem head_off (C : Cost sc) (a b : List Nat) : ed sc (a.drop (cpl a b)) (b.drop (cpl a b)) = ed sc a b := by
  have h := ed_head C (a.take (cpl a b)) (a.drop (cpl a b)) (b.drop (cpl a b))
  rw [List.take_append_drop, cpl_take a b, List.take_append_drop] at h
  exact h.symm
theorem tail_off (C : Cost sc) (a b : List Nat) : ed sc (a.take (a.length - cpl a.reverse b.reverse)) (b.take (b.length - cpl a.reverse b.reverse)) = ed sc a b := by
  have h := head_off C a.reverse b.reverse
  rw [ed_rev] at h
  rw [← h, ← ed_rev (a := a.reverse.drop _), List.reverse_drop, List.reverse_drop, List.reverse_reverse, List.reverse_reverse, List.length_reverse, List.length_reverse]
theorem lev_ok (C : Cost sc) {a b : List Nat} (ha : a.length ≤ 40) (hb : b.length ≤ 40) (m : Int) : (levG (scI sc) a b m = (ed sc a b : Int)) ∨ (levG (scI sc) a b m = m + 1 ∧ m < (ed sc a b : Int)) := by
  unfold levG
  split
  · rename_i e
    subst e
    rw [ed_self C]; exact .inl rfl
  · dsimp only
    have h := mid_ok C (A := (a.drop (cpl a b)).take ((a.drop (cpl a b)).length - cpl (a.drop (cpl a b)).reverse (b.drop (cpl a b)).reverse))
      (B := (b.drop (cpl a b)).take ((b.drop (cpl a b)).length - cpl (a.drop (cpl a b)).reverse (b.drop (cpl a b)).reverse)) (by simp; lia) (by simp; lia) m
    rwa [tail_off C, head_off C] at h
theorem lev_brk (C : Cost sc) {a b : List Nat} (ha : a.length ≤ 40) (hl : a.length = b.length) {m : Int} (h0 : 0 ≤ m) (hm : m < big) (hd : 2 * m < (ed sc a b : Int)) : levG (scI sc) a b m = m + 1 := by
  unfold levG
  split
  · rename_i e
    subst e
    rw [ed_self C] at hd
    lia
  · dsimp only
    have hd' := hd
    rw [← head_off C a b, ← tail_off C (a.drop (cpl a b)) (b.drop (cpl a b))] at hd'
    have hlA : ((a.drop (cpl a b)).take ((a.drop (cpl a b)).length - cpl (a.drop (cpl a b)).reverse (b.drop (cpl a b)).reverse)).length = ((b.drop (cpl a b)).take ((b.drop (cpl a b)).length - cpl (a.drop (cpl a b)).reverse (b.drop (cpl a b)).reverse)).length := by
      simp [hl]
    have hA40 : ((a.drop (cpl a b)).take ((a.drop (cpl a b)).length - cpl (a.drop (cpl a b)).reverse (b.drop (cpl a b)).reverse)).length ≤ 40 := by simp; lia
    generalize (a.drop (cpl a b)).take ((a.drop (cpl a b)).length - cpl (a.drop (cpl a b)).reverse (b.drop (cpl a b)).reverse) = A at *
    generalize (b.drop (cpl a b)).take ((b.drop (cpl a b)).length - cpl (a.drop (cpl a b)).reverse (b.drop (cpl a b)).reverse) = B at *
    have hA : A ≠ [] := by
      rintro rfl
      have : B = [] := List.length_eq_zero_iff.mp (by simpa using hlA.symm)
      subst this
      rw [ed_nil_left] at hd'
      simp at hd'
      lia
    have hB : B ≠ [] := by
      rintro rfl
      exact hA (List.length_eq_zero_iff.mp (by simpa using hlA))
    unfold midG
    rw [if_neg (fun h => h.elim hA hB), if_neg (by lia), if_neg (by lia)]
    unfold coreG
    rw [if_neg (by lia)]
    refine out_brk C (List.length_pos_iff.mpr hA) hm (fun i hi => ?_) B 0 _ 0 rfl hB (row0_ok A B)
    have k1 : 2 * B.length ≤ pre sc A B (i + 1) B.length + 2 * (i + 1) := by
      have := ed_len (sc := sc) (A.take (i + 1)).reverse (B.take B.length).reverse
      simp at this
      unfold pre
      simp
      lia
    have k2 : ed sc A B ≤ pre sc A B (i + 1) B.length + 2 * (A.length - (i + 1)) := by
      have e1 := ed_app (sc := sc) (A.take (i + 1)) B (A.drop (i + 1)) []
      rw [List.take_append_drop, List.append_nil, ed_nil_right, List.length_drop] at e1
      have e2 : pre sc A B (i + 1) B.length = ed sc (A.take (i + 1)) B := by
        unfold pre
        rw [List.take_length, ed_rev]
      lia
    lia
end
end
section
noncomputable def scq (x y : Nat) : Nat := (if x = y then 0 else 1) + (if x / 2 = y / 2 then 0 else 1)
theorem scq_cost : Cost scq := by
  refine ⟨?_, ?_, ?_, ?_⟩
  · intro x; simp [scq]
  · intro x y; simp only [scq, eq_comm]
  · intro x y; simp only [scq]; split <;> split <;> lia
  · intro x y z
    simp only [scq]
    by_cases h1 : x = y
    · subst h1; simp
    · by_cases h2 : y = z
      · subst h2; simp
      · rw [if_neg h1, if_neg h2]
        split <;> split <;> split <;> split <;> lia
noncomputable def pt (x : List Nat) : Nat → Nat → Nat
  | 0, _ => 0
  | 1, _ => 0
  | l + 2, k => min (min (pt x (l + 1) k + 2) (pt x (l + 1) (k + 1) + 2)) (pt x l (k + 1) + scq (x.getD k 0) (x.getD (k + l + 1) 0))
theorem pt_le (x : List Nat) {a rb : List Nat} {c : Nat} (h : Al scq a rb c) : ∀ k l, (∀ i, i < a.length → a.getD i 0 = x.getD (k + i) 0) → (∀ i, i < rb.length → rb.getD i 0 = x.getD (k + l - 1 - i) 0) → a.length + rb.length ≤ l → l ≤ a.length + rb.length + 1 → pt x l k ≤ c := by
  induction h with
  | nil =>
    intro k l _ _ _ h2
    match l with
    | 0 => simp [pt]
    | 1 => simp [pt]
    | l + 2 => simp at h2
  | @del a rb c z h ih =>
    intro k l ha hb h1 h2
    simp only [List.length_cons] at *
    match l with
    | 0 => simp [pt]
    | 1 => simp [pt]
    | l + 2 =>
      have := ih (k + 1) (l + 1) (fun i hi => by
        have := ha (i + 1) (by lia)
        rw [List.getD_cons_succ] at this
        rw [this]; congr 1; lia) (fun i hi => by rw [hb i hi]; congr 1; lia) (by lia) (by lia)
      rw [pt]
      exact Nat.le_trans (Nat.min_le_left _ _) (Nat.le_trans (Nat.min_le_right _ _) (Nat.add_le_add_right this 2))
  | @ins a rb c z h ih =>
    intro k l ha hb h1 h2
    simp only [List.length_cons] at *
    match l with
    | 0 => simp [pt]
    | 1 => simp [pt]
    | l + 2 =>
      have := ih k (l + 1) (fun i hi => ha i hi) (fun i hi => by
        have := hb (i + 1) (by lia)
        rw [List.getD_cons_succ] at this
        rw [this]; congr 1; lia) (by lia) (by lia)
      rw [pt]
      exact Nat.le_trans (Nat.min_le_left _ _) (Nat.le_trans (Nat.min_le_left _ _) (Nat.add_le_add_right this 2))
  | @sub a rb c z y h ih =>
    intro k l ha hb h1 h2
    simp only [List.length_cons] at *
    match l with
    | 0 => simp [pt]
    | 1 => simp [pt]
    | l + 2 =>
      have := ih (k + 1) l (fun i hi => by
        have := ha (i + 1) (by lia)
        rw [List.getD_cons_succ] at this
        rw [this]; congr 1; lia) (fun i hi => by
        have := hb (i + 1) (by lia)
        rw [List.getD_cons_succ] at this
        rw [this]; congr 1; lia) (by lia) (by lia)
      have e1 := ha 0 (by lia)
      have e2 := hb 0 (by lia)
      rw [List.getD_cons_zero] at e1 e2
      rw [pt]
      have e3 : scq (x.getD k 0) (x.getD (k + l + 1) 0) = scq z y := by
        rw [e1, e2]
        congr 2
      exact Nat.le_trans (Nat.min_le_right _ _) (by rw [e3]; exact Nat.add_le_add_right this _)
theorem pt_ge (x : List Nat) : ∀ (n l k : Nat), l ≤ n → ∃ a rb, (∀ i, i < a.length → a.getD i 0 = x.getD (k + i) 0) ∧ (∀ i, i < rb.length → rb.getD i 0 = x.getD (k + l - 1 - i) 0) ∧ a.length + rb.length ≤ l ∧ l ≤ a.length + rb.length + 1 ∧ Al scq a rb (pt x l k) := by
  intro n
  induction n with
  | zero =>
    intro l k hl
    obtain rfl : l = 0 := by lia
    exact ⟨[], [], by simp, by simp, by simp, by simp, .nil⟩
  | succ n ih =>
    intro l k hl
    match l with
    | 0 => exact ⟨[], [], by simp, by simp, by simp, by simp, .nil⟩
    | 1 => exact ⟨[], [], by simp, by simp, by simp, by simp, .nil⟩
    | l + 2 =>
      obtain ⟨a1, b1, h11, h12, h13, h14, h15⟩ := ih (l + 1) k (by lia)
      obtain ⟨a2, b2, h21, h22, h23, h24, h25⟩ := ih (l + 1) (k + 1) (by lia)
      obtain ⟨a3, b3, h31, h32, h33, h34, h35⟩ := ih l (k + 1) (by lia)
      have c1 : pt x (l + 2) k = pt x (l + 1) k + 2 ∨ pt x (l + 2) k = pt x (l + 1) (k + 1) + 2 ∨ pt x (l + 2) k = pt x l (k + 1) + scq (x.getD k 0) (x.getD (k + l + 1) 0) := by
        rw [pt]; lia
      rcases c1 with c1 | c1 | c1
      · refine ⟨a1, x.getD (k + l + 1) 0 :: b1, h11, ?_, by simp; lia, by simp; lia, ?_⟩
        · intro i hi
          cases i with
          | zero => rw [List.getD_cons_zero]; rfl
          | succ i =>
            rw [List.getD_cons_succ, h12 i (by simpa using hi)]
            congr 1; lia
        · rw [c1]; exact h15.ins _
      · refine ⟨x.getD k 0 :: a2, b2, ?_, ?_, by simp; lia, by simp; lia, ?_⟩
        · intro i hi
          cases i with
          | zero => rw [List.getD_cons_zero]; rfl
          | succ i =>
            rw [List.getD_cons_succ, h21 i (by simpa using hi)]
            congr 1; lia
        · intro i hi
          rw [h22 i hi]
          congr 1; lia
        · rw [c1]; exact h25.del _
      · refine ⟨x.getD k 0 :: a3, x.getD (k + l + 1) 0 :: b3, ?_, ?_, by simp; lia, by simp; lia, ?_⟩
        · intro i hi
          cases i with
          | zero => rw [List.getD_cons_zero]; rfl
          | succ i =>
            rw [List.getD_cons_succ, h31 i (by simpa using hi)]
            congr 1; lia
        · intro i hi
          cases i with
          | zero => rw [List.getD_cons_zero]; rfl
          | succ i =>
            rw [List.getD_cons_succ, h32 i (by simpa using hi)]
            congr 1; lia
        · rw [c1]; exact h35.sub _ _
theorem list_of_getD {a b : List Nat} (hl : a.length = b.length) (h : ∀ i, i < a.length → a.getD i 0 = b.getD i 0) : a = b := by
  apply List.ext_getElem hl
  intro i h1 h2
  have := h i h1
  simpa [List.getD, h1, h2] using this
noncomputable def lefts (n s : Nat) : Nat := n - (s + 1) / 2
noncomputable def splC (x : List Nat) (i h : Nat) : Nat := ed scq (x.take i) (x.drop (i + h)).reverse
noncomputable def stpC (x : List Nat) (s : Nat) : Nat := ed scq (x.take (lefts x.length s)) (x.drop (x.length - s / 2)).reverse
noncomputable def best (x : List Nat) : Nat → Nat × Nat × Nat
  | 0 => (2 * x.length, 0, 0)
  | s + 1 => if stpC x s < (best x s).1 then (stpC x s, lefts x.length s, x.length - s / 2) else best x s
theorem best_le (x : List Nat) : ∀ s t, t < s → (best x s).1 ≤ stpC x t
  | 0, t, h => absurd h (by lia)
  | s + 1, t, h => by
    rw [best]
    by_cases e : t = s
    · subst e
      split
      · exact Nat.le_refl _
      · lia
    · have := best_le x s t (by lia)
      split
      · dsimp only; lia
      · exact this
theorem best_top (x : List Nat) : ∀ s, (best x s).1 ≤ 2 * x.length
  | 0 => Nat.le_refl _
  | s + 1 => by
    have := best_top x s
    rw [best]
    split
    · dsimp only; lia
    · exact this
theorem best_at (x : List Nat) : ∀ s, (best x s = (2 * x.length, 0, 0)) ∨ ∃ t, t < s ∧ best x s = (stpC x t, lefts x.length t, x.length - t / 2)
  | 0 => .inl rfl
  | s + 1 => by
    rw [best]
    split
    · exact .inr ⟨s, by lia, rfl⟩
    · rcases best_at x s with h | ⟨t, h1, h2⟩
      · exact .inl h
      · exact .inr ⟨t, by lia, h2⟩
structure Found (x : List Nat) (least ahead behind : Nat) : Prop where
  ab : behind = ahead ∨ behind = ahead + 1
  bn : behind ≤ x.length
  b0 : 0 < behind
  an : ahead < x.length
  sp : ed scq (x.take ahead) (x.drop behind).reverse = least
  far : ed scq x x.reverse = 2 * least
  tab : pt x x.length 0 = least
theorem spl_far (x : List Nat) {i h : Nat} (hh : h = 0 ∨ h = 1) (hi : i + h ≤ x.length) : ed scq x x.reverse ≤ 2 * splC x i h := by
  have h1 : ((x.drop i).take h).reverse = (x.drop i).take h := by
    rcases hh with rfl | rfl
    · simp
    · cases hx : x.drop i with
      | nil => rfl
      | cons z r => rfl
  have := split_mirror scq_cost (x.take i) ((x.drop i).take h) (x.drop (i + h)) h1
  have e : x.take i ++ ((x.drop i).take h ++ x.drop (i + h)) = x := by
    rw [← List.drop_drop, List.take_append_drop, List.take_append_drop]
  rw [e] at this
  exact this
theorem stp_at {x : List Nat} {i b m : Nat} (hb : b = 0 ∨ b = 1) (hn : x.length = i + b + m) : lefts x.length (2 * m + b) = i ∧ x.length - (2 * m + b) / 2 = i + b := by
  have h1 : (2 * m + b) / 2 = m := by rw [Nat.mul_add_div (by decide)]; rcases hb with rfl | rfl <;> rfl
  have h2 : (2 * m + b + 1) / 2 = m + b := by
    rw [Nat.add_assoc, Nat.mul_add_div (by decide)]; rcases hb with rfl | rfl <;> rfl
  unfold lefts
  rw [h1, h2, hn, Nat.add_sub_cancel, Nat.add_assoc, Nat.add_comm b m, Nat.add_sub_cancel]
  exact ⟨rfl, rfl⟩
theorem stp_at2 {x : List Nat} {i b m : Nat} (hb : b = 0 ∨ b = 1) (hn : x.length = i + b + m) : stpC x (2 * m + b) = splC x i b := by
  obtain ⟨e1, e2⟩ := stp_at hb hn
  unfold stpC splC
  rw [e1, e2]
theorem spl_top (x : List Nat) : splC x 0 0 = 2 * x.length ∧ splC x x.length 0 = 2 * x.length := by
  unfold splC
  simp [ed_nil_left, ed_nil_right]
theorem par_t {t n : Nat} (h : t < 2 * n) : ∃ m b i, (b = 0 ∨ b = 1) ∧ t = 2 * m + b ∧ n = i + b + m := by
  refine ⟨t / 2, t % 2, n - (t % 2 + t / 2), Nat.mod_two_eq_zero_or_one t, (Nat.div_add_mod t 2).symm, ?_⟩
  have h1 := Nat.div_add_mod t 2
  have h2 : t % 2 < 2 := Nat.mod_lt _ (by decide)
  generalize t / 2 = m at *
  generalize t % 2 = b at *
  lia
theorem ix_mid {s m k : Nat} (h : k < m) : 0 + (s + m) - 1 - k = s + (s + m - s - 1 - k) := by
  rw [Nat.zero_add, Nat.add_sub_cancel_left, Nat.sub_sub, Nat.sub_sub, Nat.add_sub_assoc (by rw [Nat.add_comm]; exact h)]
theorem found (x : List Nat) (hx : 0 < x.length) : Found x (best x (2 * x.length)).1 (best x (2 * x.length)).2.1 (best x (2 * x.length)).2.2 := by
  have hle := best_le x (2 * x.length)
  have hlt : (best x (2 * x.length)).1 < 2 * x.length := by
    have h1 := hle 1 (by lia)
    have h2 := ed_le_len (sc := scq) (x.take (lefts x.length 1)) (x.drop (x.length - 1 / 2)).reverse
    unfold stpC at h1
    simp [lefts] at h1 h2
    lia
  rcases best_at x (2 * x.length) with h | ⟨t, ht, h⟩
  · rw [h] at hlt
    exact absurd hlt (Nat.lt_irrefl _)
  · obtain ⟨m, b, i, hb, rfl, hn⟩ := par_t ht
    obtain ⟨e1, e2⟩ := stp_at hb hn
    rw [stp_at2 hb hn, e1, e2] at h
    rw [h] at hle hlt ⊢
    dsimp only at hle hlt ⊢
    clear h e1 e2 ht
    have hmin : ∀ i' h', (h' = 0 ∨ h' = 1) → i' + h' ≤ x.length → splC x i b ≤ splC x i' h' := by
      intro i' h' hh hi'
      by_cases h0 : i' + h' = 0
      · obtain ⟨rfl, rfl⟩ := Nat.add_eq_zero_iff.mp h0
        rw [(spl_top x).1]
        exact Nat.le_of_lt hlt
      · obtain ⟨m', hm'⟩ := Nat.exists_eq_add_of_le hi'
        have := hle (2 * m' + h') (by lia)
        rwa [stp_at2 hh hm'] at this
    have hsum : i + b ≤ x.length := hn ▸ Nat.le_add_right _ _
    have hfar : ed scq x x.reverse = 2 * splC x i b := by
      refine Nat.le_antisymm (spl_far x hb hsum) ?_
      obtain ⟨i', h', hh, hi', hs⟩ := mirror_split scq_cost x
      exact Nat.le_trans (Nat.mul_le_mul_left 2 (hmin i' h' hh hi')) hs
    have hmb : 0 < b + m := by
      rcases Nat.eq_zero_or_pos (b + m) with h0 | h0
      · obtain ⟨rfl, rfl⟩ := Nat.add_eq_zero_iff.mp h0
        rw [show i = x.length from hn.symm, (spl_top x).2] at hlt
        exact absurd hlt (Nat.lt_irrefl _)
      · exact h0
    have hib : 0 < i + b := by
      rcases Nat.eq_zero_or_pos (i + b) with h0 | h0
      · obtain ⟨rfl, rfl⟩ := Nat.add_eq_zero_iff.mp h0
        rw [(spl_top x).1] at hlt
        exact absurd hlt (Nat.lt_irrefl _)
      · exact h0
    have hl1 : (x.take i).length = i := by rw [List.length_take, hn, Nat.add_assoc]; exact Nat.min_eq_left (Nat.le_add_right _ _)
    have hl2 : (x.drop (i + b)).reverse.length = m := by rw [List.length_reverse, List.length_drop, hn]; exact Nat.add_sub_cancel_left _ _
    refine ⟨hb.imp (fun e => by rw [e]; rfl) (fun e => by rw [e]), hsum, hib, by rw [hn, Nat.add_assoc]; exact Nat.lt_add_of_pos_right hmb, rfl, hfar, ?_⟩
    refine Nat.le_antisymm ?_ ?_
    · have hA : Al scq (x.take i) (x.drop (i + b)).reverse (splC x i b) := al_ed _ _
      refine pt_le x hA 0 x.length (fun k hk => ?_) (fun k hk => ?_) ?_ ?_
      · rw [hl1] at hk
        simp only [List.getD_eq_getElem?_getD, List.getElem?_take, Nat.zero_add]
        rw [if_pos hk]
      · rw [hl2] at hk
        simp only [List.getD_eq_getElem?_getD]
        rw [List.getElem?_reverse (by rw [List.length_drop, hn, Nat.add_sub_cancel_left]; exact hk), List.length_drop, List.getElem?_drop]
        congr 2
        rw [hn]
        first | exact ix_mid hk | exact (ix_mid hk).symm
      · rw [hl1, hl2, hn]; exact Nat.add_le_add_right (Nat.le_add_right _ _) _
      · rw [hl1, hl2, hn]
        rcases hb with rfl | rfl
        · exact Nat.le_succ _
        · exact Nat.le_of_eq (Nat.add_right_comm i 1 m)
    · obtain ⟨a, rb, h1, h2, h3, h4, h5⟩ := pt_ge x x.length x.length 0 (Nat.le_refl _)
      obtain ⟨c, hc⟩ := Nat.exists_eq_add_of_le h3
      have hcb : c = 0 ∨ c = 1 := Nat.le_one_iff_eq_zero_or_eq_one.mp (Nat.le_of_add_le_add_left (hc ▸ h4))
      have ea : a = x.take a.length := list_of_getD (by rw [List.length_take, hc, Nat.add_assoc]; exact (Nat.min_eq_left (Nat.le_add_right _ _)).symm) fun k hk => by
        rw [h1 k hk]
        simp only [List.getD_eq_getElem?_getD, List.getElem?_take, Nat.zero_add]
        rw [if_pos hk]
      have eb : rb = (x.drop (a.length + c)).reverse := list_of_getD (by rw [List.length_reverse, List.length_drop, hc, Nat.add_right_comm]; exact (Nat.add_sub_cancel_left _ _).symm) fun k hk => by
        rw [h2 k hk]
        simp only [List.getD_eq_getElem?_getD]
        rw [List.getElem?_reverse (by rw [List.length_drop, hc, Nat.add_right_comm, Nat.add_sub_cancel_left]; exact hk), List.length_drop, List.getElem?_drop]
        congr 2
        rw [hc, Nat.add_right_comm]
        first | exact ix_mid hk | exact (ix_mid hk).symm
      have h6 := hmin a.length c hcb (by rw [hc, Nat.add_right_comm]; exact Nat.le_add_right _ _)
      have h7 := ed_le h5
      refine Nat.le_trans h6 ?_
      unfold splC
      rw [← ea, ← eb]
      exact h7
noncomputable def near1 (x : List Nat) (ahead behind : Nat) : List Nat := x.take behind ++ (x.take ahead).reverse
noncomputable def near2 (x : List Nat) (ahead behind : Nat) : List Nat := (x.drop behind).reverse ++ x.drop ahead
theorem split_mid (x : List Nat) {a b : Nat} (hab : b = a ∨ b = a + 1) (ha : a < x.length) : ∃ h : List Nat, h.reverse = h ∧ x.take b = x.take a ++ h ∧ x.drop a = h ++ x.drop b ∧ ((b = a ∧ h = []) ∨ (b = a + 1 ∧ h = [x.getD a 0])) := by
  rcases hab with rfl | rfl
  · exact ⟨[], rfl, by simp, by simp, .inl ⟨rfl, rfl⟩⟩
  · refine ⟨[x.getD a 0], rfl, ?_, ?_, .inr ⟨rfl, rfl⟩⟩
    · rw [List.take_add_one, List.getElem?_eq_getElem ha]
      simp [List.getD, ha]
    · rw [List.drop_eq_getElem_cons ha]
      simp [List.getD, ha]
section
variable {x : List Nat} {l a b : Nat}
theorem near1_pal (F : Found x l a b) : (near1 x a b).reverse = near1 x a b := by
  obtain ⟨h, h1, h2, h3, _⟩ := split_mid x F.ab F.an
  unfold near1
  rw [h2]
  simp [h1]
theorem near2_pal (F : Found x l a b) : (near2 x a b).reverse = near2 x a b := by
  obtain ⟨h, h1, h2, h3, _⟩ := split_mid x F.ab F.an
  unfold near2
  rw [h3]
  simp [h1]
theorem pal_near (F : Found x l a b) {p : List Nat} (hp : p.reverse = p) : l ≤ ed scq p x := by
  have h1 := pal_far scq_cost x p hp
  have h2 := F.far
  lia
theorem near1_at (F : Found x l a b) : ed scq x (near1 x a b) = l := by
  refine Nat.le_antisymm ?_ ?_
  · have h := ed_app (sc := scq) (x.take b) (x.take b) (x.drop b) (x.take a).reverse
    rw [List.take_append_drop, ed_self scq_cost] at h
    have h2 : ed scq (x.drop b) (x.take a).reverse = l := by
      rw [ed_symm scq_cost, ← ed_rev, List.reverse_reverse]; exact F.sp
    unfold near1
    lia
  · rw [ed_symm scq_cost]; exact pal_near F (near1_pal F)
theorem near2_at (F : Found x l a b) : ed scq x (near2 x a b) = l := by
  refine Nat.le_antisymm ?_ ?_
  · have h := ed_app (sc := scq) (x.take a) (x.drop b).reverse (x.drop a) (x.drop a)
    rw [List.take_append_drop, ed_self scq_cost, F.sp] at h
    unfold near2
    lia
  · rw [ed_symm scq_cost]; exact pal_near F (near2_pal F)
theorem pal_mirror {p : List Nat} (hp : p.reverse = p) : ed scq p x.reverse = ed scq x p := by
  rw [← ed_rev, List.reverse_reverse, hp, ed_symm scq_cost]
end
end
section
noncomputable def kp : List Nat → Nat × Nat
  | [] => (1, 0)
  | q :: r => (q * (kp r).1 + (kp r).2, (kp r).1)
structure M4 where
  a : Nat
  b : Nat
  c : Nat
  d : Nat
noncomputable def mm : List Nat → M4
  | [] => ⟨1, 0, 0, 1⟩
  | q :: r => ⟨q * (mm r).a + (mm r).c, q * (mm r).b + (mm r).d, (mm r).a, (mm r).b⟩
noncomputable def Qs (x : List Nat) : Prop := ∀ q ∈ x, 2 ≤ q ∧ q ≤ 7
theorem Qs.tail {q : Nat} {x : List Nat} (h : Qs (q :: x)) : Qs x := fun p hp => h p (.tail _ hp)
theorem Qs.take {x : List Nat} (h : Qs x) (k : Nat) : Qs (x.take k) := fun p hp => h p (List.mem_of_mem_take hp)
theorem Qs.drop {x : List Nat} (h : Qs x) (k : Nat) : Qs (x.drop k) := fun p hp => h p (List.mem_of_mem_drop hp)
theorem Qs.rev {x : List Nat} (h : Qs x) : Qs x.reverse := fun p hp => h p (List.mem_reverse.mp hp)
theorem Qs.app {x y : List Nat} (h : Qs x) (h' : Qs y) : Qs (x ++ y) := fun p hp => (List.mem_append.mp hp).elim (h p) (h' p)
theorem kp_mm : ∀ x : List Nat, kp x = ((mm x).a, (mm x).c)
  | [] => rfl
  | q :: r => by rw [kp, mm, kp_mm r]
theorem mm_snoc (q : Nat) : ∀ x : List Nat, mm (x ++ [q]) = ⟨(mm x).a * q + (mm x).b, (mm x).a, (mm x).c * q + (mm x).d, (mm x).c⟩
  | [] => by simp [mm]
  | p :: r => by
    simp only [List.cons_append, mm, mm_snoc q r, Nat.mul_add, Nat.add_mul, Nat.mul_assoc]
    simp only [M4.mk.injEq, and_true, true_and]
    lia
theorem mm_rev : ∀ x : List Nat, mm x.reverse = ⟨(mm x).a, (mm x).c, (mm x).b, (mm x).d⟩
  | [] => rfl
  | q :: r => by
    rw [List.reverse_cons, mm_snoc, mm_rev r]
    simp only [mm, M4.mk.injEq, and_true, true_and]
    exact ⟨by rw [Nat.mul_comm], by rw [Nat.mul_comm]⟩
theorem kp_rev (x : List Nat) : kp x.reverse = ((mm x).a, (mm x).b) := by rw [kp_mm, mm_rev]
theorem kp_rev_fst (x : List Nat) : (kp x.reverse).1 = (kp x).1 := by rw [kp_rev, kp_mm]
theorem mm_det : ∀ x : List Nat, ((mm x).a : Int) * (mm x).d - (mm x).b * (mm x).c = (if x.length % 2 = 0 then 1 else -1)
  | [] => by simp [mm]
  | q :: r => by
    have h := mm_det r
    have e : ((mm (q :: r)).a : Int) * (mm (q :: r)).d - (mm (q :: r)).b * (mm (q :: r)).c = -(((mm r).a : Int) * (mm r).d - (mm r).b * (mm r).c) := by
      simp only [mm, Int.natCast_add, Int.natCast_mul]
      grind
    rw [e, h, List.length_cons]
    by_cases h2 : r.length % 2 = 0
    · rw [if_pos h2, if_neg (by lia)]
    · rw [if_neg h2, if_pos (by lia)]; rfl
theorem kp_app (y : List Nat) : ∀ x : List Nat, kp (x ++ y) = ((mm x).a * (kp y).1 + (mm x).b * (kp y).2, (mm x).c * (kp y).1 + (mm x).d * (kp y).2)
  | [] => by simp [mm]
  | q :: r => by
    simp only [List.cons_append, kp, kp_app y r, mm, Nat.mul_add, Nat.add_mul, Nat.mul_assoc, Prod.mk.injEq, and_true]
    lia
theorem kp_lt : ∀ {x : List Nat}, Qs x → (kp x).2 < (kp x).1
  | [], _ => by simp [kp]
  | q :: r, h => by
    have ih := kp_lt h.tail
    have hq := (h q (.head _)).1
    have : 2 * (kp r).1 ≤ q * (kp r).1 := Nat.mul_le_mul_right _ hq
    simp only [kp]
    lia
theorem kp_pos {x : List Nat} (h : Qs x) : 0 < (kp x).1 := by have := kp_lt h; lia
theorem kp_le : ∀ {x : List Nat}, Qs x → (kp x).1 ≤ 8 ^ x.length
  | [], _ => by simp [kp]
  | q :: r, h => by
    have ih := kp_le h.tail
    have hl := kp_lt h.tail
    have hq := (h q (.head _)).2
    have h7 : q * (kp r).1 ≤ 7 * (kp r).1 := Nat.mul_le_mul_right _ hq
    simp only [kp, List.length_cons, Nat.pow_succ]
    lia
theorem kp_step {q : Nat} {r : List Nat} (h : Qs r) : (kp (q :: r)).1 / (kp (q :: r)).2 = q ∧ (kp (q :: r)).1 % (kp (q :: r)).2 = (kp r).2 := by
  have hl := kp_lt h
  simp only [kp]
  constructor
  · rw [Nat.mul_comm, Nat.mul_add_div (by lia), Nat.div_eq_of_lt hl, Nat.add_zero]
  · rw [Nat.mul_comm, Nat.mul_add_mod, Nat.mod_eq_of_lt hl]
theorem kp_two {x : List Nat} (h : Qs x) (hx : x ≠ []) : 1 < (kp x).1 := by
  cases x with
  | nil => exact absurd rfl hx
  | cons q r =>
    have h1 := kp_pos h.tail
    have hq := (h q (.head _)).1
    have : 2 * (kp r).1 ≤ q * (kp r).1 := Nat.mul_le_mul_right _ hq
    simp only [kp]
    lia
theorem lows {x : List Nat} (h : Qs x) (hx : x ≠ []) : ((2 * ((x.length : Int) % 2) - 1) * ((kp x).2 : Int) * ((kp x.reverse).2 : Int)) % ((kp x).1 : Int) = 1 := by
  have h2 := kp_two h hx
  have hd := mm_det x
  rw [kp_rev]
  rw [kp_mm] at h2 ⊢
  dsimp only at h2 ⊢
  generalize (mm x).a = a at *
  generalize (mm x).b = b at *
  generalize (mm x).c = c at *
  generalize (mm x).d = d at *
  have e : (2 * ((x.length : Int) % 2) - 1) * (c : Int) * (b : Int) = 1 + (a : Int) * ((2 * ((x.length : Int) % 2) - 1) * d) := by
    by_cases hp : x.length % 2 = 0
    · rw [if_pos hp] at hd
      have : (2 * ((x.length : Int) % 2) - 1) = -1 := by lia
      rw [this, Int.neg_mul, Int.one_mul, Int.neg_mul, Int.neg_mul, Int.one_mul, Int.mul_neg, Int.mul_comm (c : Int)]
      lia
    · rw [if_neg hp] at hd
      have : (2 * ((x.length : Int) % 2) - 1) = 1 := by lia
      rw [this, Int.one_mul, Int.one_mul, Int.mul_comm (c : Int)]
      lia
  rw [e, Int.add_mul_emod_self_left]
  exact Int.emod_eq_of_lt (by lia) (by lia)
theorem pal_even (w : List Nat) : (kp ((w ++ w.reverse).drop ((w ++ w.reverse).length / 2))).1 * (kp ((w ++ w.reverse).drop ((w ++ w.reverse).length / 2))).1 + (kp ((w ++ w.reverse).drop ((w ++ w.reverse).length / 2))).2 * (kp ((w ++ w.reverse).drop ((w ++ w.reverse).length / 2))).2 = (kp (w ++ w.reverse)).1 := by
  have e : (w ++ w.reverse).length / 2 = w.length := by simp; lia
  rw [e, List.drop_left, kp_app, kp_rev]
theorem pal_odd (w : List Nat) (h : Nat) : (kp (w ++ h :: w.reverse)).1 = (kp ((w ++ h :: w.reverse).drop ((w ++ h :: w.reverse).length / 2))).2 * ((mm w).b + (kp ((w ++ h :: w.reverse).drop ((w ++ h :: w.reverse).length / 2))).1) ∧
    2 * (kp ((w ++ h :: w.reverse).drop ((w ++ h :: w.reverse).length / 2))).1 = ((mm w).b + (kp ((w ++ h :: w.reverse).drop ((w ++ h :: w.reverse).length / 2))).1) + h * (kp ((w ++ h :: w.reverse).drop ((w ++ h :: w.reverse).length / 2))).2 := by
  have e : (w ++ h :: w.reverse).length / 2 = w.length := by simp; lia
  rw [e, List.drop_left, kp_app]
  simp only [kp, kp_rev]
  constructor
  · rw [Nat.mul_add (mm w).a (mm w).b, Nat.mul_comm (mm w).b]
    lia
  · lia
structure HalfOk (x : List Nat) (ahead : Nat) (near : List Nat) : Prop where
  even : near.length % 2 = 0 → (kp (near.drop (near.length / 2))).1 * (kp (near.drop (near.length / 2))).1 + (kp (near.drop (near.length / 2))).2 * (kp (near.drop (near.length / 2))).2 = (kp near).1
  odd : near.length % 2 = 1 → 0 < (kp (near.drop (near.length / 2))).2 ∧ ((kp near).1 : Int) / ((kp (near.drop (near.length / 2))).2 : Int) = 2 * ((kp (near.drop (near.length / 2))).1 : Int) - (x.getD ahead 0 : Int) * ((kp (near.drop (near.length / 2))).2 : Int) ∧ ((kp near).1 : Int) % ((kp (near.drop (near.length / 2))).2 : Int) = 0
theorem half_ok {x w m near : List Nat} {a b : Nat} (hn : near = w ++ (m ++ w.reverse)) (hw : Qs w) (hm : (b = a ∧ m = []) ∨ (b = a + 1 ∧ m = [x.getD a 0])) : HalfOk x a near := by
  rcases hm with ⟨_, rfl⟩ | ⟨_, rfl⟩
  · rw [List.nil_append] at hn
    subst hn
    refine ⟨fun _ => pal_even w, fun h => ?_⟩
    simp at h
    lia
  · subst hn
    rw [List.singleton_append]
    refine ⟨fun h => ?_, fun _ => ?_⟩
    · simp at h
      lia
    · obtain ⟨h1, h2⟩ := pal_odd w (x.getD a 0)
      have e : (w ++ x.getD a 0 :: w.reverse).length / 2 = w.length := by simp; lia
      have hpos : 0 < (kp ((w ++ x.getD a 0 :: w.reverse).drop ((w ++ x.getD a 0 :: w.reverse).length / 2))).2 := by
        rw [e, List.drop_left]
        exact kp_pos hw.rev
      generalize (kp ((w ++ x.getD a 0 :: w.reverse).drop ((w ++ x.getD a 0 :: w.reverse).length / 2))).2 = R at *
      generalize (kp ((w ++ x.getD a 0 :: w.reverse).drop ((w ++ x.getD a 0 :: w.reverse).length / 2))).1 = W at *
      generalize (mm w).b = b0 at *
      refine ⟨hpos, ?_, ?_⟩
      · rw [h1, Int.natCast_mul, Int.mul_ediv_cancel_left _ (by lia)]
        have : ((2 * W : Nat) : Int) = ((b0 + W + x.getD a 0 * R : Nat) : Int) := by rw [h2]
        simp only [Int.natCast_add, Int.natCast_mul] at this
        rw [Int.natCast_add]
        lia
      · rw [h1, Int.natCast_mul]
        simp
section
variable {x : List Nat} {l a b : Nat}
theorem near1_half (F : Found x l a b) (h : Qs x) : HalfOk x a (near1 x a b) := by
  obtain ⟨m, h1, h2, h3, h4⟩ := split_mid x F.ab F.an
  refine half_ok (w := x.take a) (m := m) ?_ (h.take _) h4
  unfold near1
  rw [h2, List.append_assoc]
theorem near2_half (F : Found x l a b) (h : Qs x) : HalfOk x a (near2 x a b) := by
  obtain ⟨m, h1, h2, h3, h4⟩ := split_mid x F.ab F.an
  refine half_ok (w := (x.drop b).reverse) (m := m) ?_ (h.drop _).rev h4
  unfold near2
  rw [h3, List.reverse_reverse]
theorem near1_qs (F : Found x l a b) (h : Qs x) : Qs (near1 x a b) ∧ 0 < (near1 x a b).length ∧ (near1 x a b).length ≤ 2 * x.length := by
  have h1 := F.bn
  have h2 := F.b0
  have h3 := F.an
  refine ⟨(h.take _).app (h.take _).rev, ?_, ?_⟩
  · unfold near1; rw [List.length_append, List.length_take]; lia
  · unfold near1; rw [List.length_append, List.length_take, List.length_reverse, List.length_take]; lia
theorem near2_qs (F : Found x l a b) (h : Qs x) : Qs (near2 x a b) ∧ 0 < (near2 x a b).length ∧ (near2 x a b).length ≤ 2 * x.length := by
  have h1 := F.bn
  have h2 := F.b0
  have h3 := F.an
  refine ⟨(h.drop _).rev.app (h.drop _), ?_, ?_⟩
  · unfold near2; rw [List.length_append, List.length_drop]; lia
  · unfold near2; rw [List.length_append, List.length_drop, List.length_reverse, List.length_drop]; lia
end
noncomputable def sgl : List Nat := [97, 65, 98, 66, 99, 67]
noncomputable def sg (q : Nat) : Nat := sgl.getD (q - 2) 0
theorem sg_inj {x y : Nat} (hx : 2 ≤ x ∧ x ≤ 7) (hy : 2 ≤ y ∧ y ≤ 7) (h : sg x = sg y) : x = y := by
  have : ∀ x, x < 8 → ∀ y, y < 8 → 2 ≤ x → 2 ≤ y → sg x = sg y → x = y := by decide
  exact this x (by lia) y (by lia) hx.1 hy.1 h
theorem sg_cost {x y : Nat} (hx : 2 ≤ x ∧ x ≤ 7) (hy : 2 ≤ y ∧ y ≤ 7) : scN (sg x) (sg y) = scI scq x y := by
  have : ∀ x, x < 8 → ∀ y, y < 8 → 2 ≤ x → 2 ≤ y → scN (sg x) (sg y) = scI scq x y := by decide +kernel
  exact this x (by lia) y (by lia) hx.1 hy.1
theorem lev_sg {x y : List Nat} (hx : Qs x) (hy : Qs y) (m : Int) : pyLev (x.map sg) (y.map sg) m = levG (scI scq) x y m := by
  rw [pyLev_eq]
  exact lev_map m (fun u hu v hv => sg_inj (hx u hu) (hy v hv)) (fun u hu v hv => sg_cost (hy u hu) (hx v hv)) (fun u hu v hv => sg_cost (hx u hu) (hy v hv))
theorem lev_fin {x y : List Nat} (hx : Qs x) (hy : Qs y) (h1 : x.length ≤ 40) (h2 : y.length ≤ 40) (m : Int) : (pyLev (x.map sg) (y.map sg) m = (ed scq x y : Int)) ∨ (pyLev (x.map sg) (y.map sg) m = m + 1 ∧ m < (ed scq x y : Int)) := by
  rw [lev_sg hx hy]
  exact lev_ok scq_cost h1 h2 m
theorem lev_step {x : List Nat} (hx : Qs x) (hl : x.length ≤ 20) (s least : Nat) :
    (pyLev ((x.take (lefts x.length s)).map sg) ((x.drop (x.length - s / 2)).reverse.map sg) least < (least : Int) ↔ stpC x s < least) ∧
    (stpC x s < least → pyLev ((x.take (lefts x.length s)).map sg) ((x.drop (x.length - s / 2)).reverse.map sg) least = (stpC x s : Int)) := by
  have hl' : x.length ≤ 40 := Nat.le_trans hl (by decide)
  have h := lev_fin (hx.take (lefts x.length s)) (hx.drop (x.length - s / 2)).rev (by rw [List.length_take]; exact Nat.le_trans (Nat.min_le_right _ _) hl') (by rw [List.length_reverse, List.length_drop]; exact Nat.le_trans (Nat.sub_le _ _) hl') (least : Int)
  have e : ed scq (x.take (lefts x.length s)) (x.drop (x.length - s / 2)).reverse = stpC x s := rfl
  rw [e] at h
  rcases h with h | ⟨h1, h2⟩
  · exact ⟨by rw [h]; exact Int.ofNat_lt, fun _ => h⟩
  · have h3 : ¬ stpC x s < least := fun hlt => absurd (Int.ofNat_lt.mpr hlt) (Int.not_lt.mpr (Int.le_of_lt h2))
    rw [h1]
    exact ⟨⟨fun h4 => absurd h4 (Int.not_lt.mpr (Int.le_of_lt (Int.lt_succ _))), fun h4 => absurd h4 h3⟩, fun h4 => absurd h4 h3⟩
theorem lev_exact {x y : List Nat} (hx : Qs x) (hy : Qs y) (h1 : x.length ≤ 40) (h2 : y.length ≤ 40) {m : Int} {d : Nat} (hd : ed scq x y = d) (hm : (d : Int) ≤ m + 1) : pyLev (x.map sg) (y.map sg) m = (d : Int) := by
  have := lev_fin hx hy h1 h2 m
  rw [hd] at this
  lia
section
variable {x : List Nat} {l a b : Nat}
theorem chk_twice (F : Found x l a b) (hx : Qs x) (hl : x.length ≤ 20) {m : Int} (hm : 2 * (l : Int) ≤ m + 1) : pyLev (x.map sg) (x.reverse.map sg) m = 2 * (l : Int) := by
  have h := lev_exact hx hx.rev (by lia) (by rw [List.length_reverse]; lia) F.far (m := m) (by lia)
  lia
theorem chk_once (F : Found x l a b) (hx : Qs x) (hl : x.length ≤ 20) : pyLev (x.map sg) (x.reverse.map sg) ((l : Int) - 1) = (l : Int) := by
  by_cases h0 : l = 0
  · subst h0
    have := chk_twice F hx hl (m := -1) (by lia)
    simpa using this
  · rw [lev_sg hx hx.rev, lev_brk scq_cost (by lia) (by rw [List.length_reverse]) (by lia)]
    · lia
    · have := ed_le_len (sc := scq) x x.reverse
      rw [F.far, List.length_reverse] at this
      show (l : Int) - 1 < 9223372036854775807
      lia
    · have := F.far
      lia
theorem chk_near {p : List Nat} (hx : Qs x) (hp : Qs p) (hl : x.length ≤ 20) (hpl : p.length ≤ 40) (hd : ed scq x p = l) : pyLev (x.map sg) (p.map sg) l = (l : Int) := lev_exact hx hp (by lia) hpl hd (by lia)
theorem chk_near' {p : List Nat} (hx : Qs x) (hp : Qs p) (hl : x.length ≤ 20) (hpl : p.length ≤ 40) (hpp : p.reverse = p) (hd : ed scq x p = l) : pyLev (p.map sg) (x.reverse.map sg) l = (l : Int) :=
  lev_exact hp hx.rev hpl (by rw [List.length_reverse]; lia) ((pal_mirror hpp).trans hd) (by lia)
theorem chk_drawn (F : Found x l a b) {p : List Nat} (hx : Qs x) (hp : Qs p) (hl : x.length ≤ 20) (hpl : p.length ≤ 40) (hpp : p.reverse = p) : (l : Int) ≤ pyLev (p.map sg) (x.map sg) ((l : Int) - 1) := by
  have h1 := pal_near F hpp
  have h2 := lev_fin hp hx hpl (by lia) ((l : Int) - 1)
  lia
end
end
section
section
variable {prog : Program} {w : World} {A : Around} {E : Value → Shared → Prop} {s : Shared} {env : Env} {h₀ : Heap} {L : Addr} {m : Str → Option Value} {news : List (Addr × Obj)}
theorem forListH {σ : Type} {x : Str} {body : List Stmt} {Q : Flow → Shared → Prop} {l : Addr} {us : List Value} {kk : Nat} {m₀ : Str → Option Value} (Led : σ → List (Addr × Obj)) (ps : σ → List (Str × Value)) (Inv : Nat → σ → Prop) (c₀ : σ)
    (hh : A.handled = none) (N : News h₀ env.locals s.heap ((l, listOf us.toArray kk) :: Led c₀)) (hof : ∀ q ∈ Led c₀, q.1 ≠ l) (F : Fr h₀ env.locals s.heap m₀)
    (hk : ∀ p ∈ ps c₀, m₀ p.1 = some p.2) (hi : Inv 0 c₀)
    (turn : ∀ (c : σ) (i : Nat) v rr h tk own, i < us.length → us[i]? = some v → OwnOff own ((Led c₀).map (·.1)) → Inv i c → Fr h₀ env.locals h (kstB rr ((x, v) :: ps c)) → News h₀ env.locals h (Led c ++ own) →
      wpAny (model prog w) A (execs body env) (InvPostN h₀ env.locals (TurnJ Led ps Inv (i + 1)) own ((Led c₀).map (·.1)) { s with heap := h, toks := tk } Q) E { s with heap := h, toks := tk })
    (done : ∀ (c : σ) rr h tk, Inv us.length c → Fr h₀ env.locals h (kstB rr (ps c)) → News h₀ env.locals h (Led c) → Q .next { s with heap := h, toks := tk }) :
    wpAny (model prog w) A (pyIter (.ref l)) (fun it s₂ => LoopAtV prog w A h₀ env x body Q E it s₂) E s := by
  have hax := N _ (List.mem_cons_self ..)
  have hl : s.heap.IsList l us.toArray := ⟨_, hax.1, rfl, _, rfl⟩
  refine wpAny_pyIter_list hl ?_
  have hne : l ≠ s.heap.objs.size := Nat.ne_of_lt (Heap.lt_size hax.1)
  have W := Walks.list (prog := prog) (w := w) hh s.heap.objs.size l hne us.toArray
  have hlen : us.toArray.size = us.length := by simp
  rw [hlen] at W
  refine forWalks Led ps Inv c₀ W ?_ ?_ ?_ ⟨⟨_, Heap.get?_push_size _ rfl, rfl, rfl⟩, hl.push _⟩ (F.push _) (fun p hp => ⟨Heap.get?_push_of_some _ (N p (List.mem_cons_of_mem _ hp)).1, (N p (List.mem_cons_of_mem _ hp)).2⟩) hk hi ?_ done
  · intro hmm
    rcases List.mem_cons.mp hmm with e | hmm
    · exact absurd F.ns.lt (e ▸ Nat.lt_irrefl _)
    · exact hax.2.1 (List.mem_singleton.mp hmm).symm
  · intro b hb
    rw [List.mem_singleton.mp hb]
    exact next_is_new F
  · intro q hq hm
    rcases List.mem_cons.mp hm with e | hm
    · exact absurd (Heap.lt_size (N q (List.mem_cons_of_mem _ hq)).1) (e ▸ Nat.lt_irrefl _)
    · exact hof q hq (List.mem_singleton.mp hm)
  · intro c i v rr h tk own hin hP hoff hi' F₁ N₁
    exact turn c i v rr h tk own hin (by simpa using hP) hoff hi' F₁ N₁
end
abbrev nats (x : List Nat) : List Int := x.map fun (q : Nat) => (q : Int)
theorem nats_at {us : List Value} {x : List Nat} {i : Nat} {v : Value} (h : IntsAre us (nats x)) (hv : us[i]? = some v) : ∃ t, v = .int ((x.getD i 0 : Nat) : Int) t := by
  have hx9 := ints_at h hv
  first | (k_extra "xe2"; clear hx9; intro t e) | obtain ⟨t, e⟩ := hx9
  refine ⟨t, ?_⟩
  rw [e]
  congr 1
  simp only [nats, List.getD_eq_getElem?_getD, List.getElem?_map]
  cases x[i]? <;> rfl
theorem rowlen {us : List Value} {x : List Nat} (h : IntsAre us (nats x)) : us.length = x.length := by rw [h.length, List.length_map]
theorem getD_memP {x : List Nat} {i : Nat} (hi : i < x.length) : x.getD i 0 ∈ x := by rw [List.getD_eq_getElem?_getD, List.getElem?_eq_getElem hi]; exact List.getElem_mem hi
theorem pair_c (w : World) (loose : List Str) (mean : ExcName → Option Value) (mg mb : Str → Option Value) : ∀ (news : CbLed) (D : Addr) (us : List Value) (kk : Nat) (x : List Nat), Qs x → x.length ≤ 12 → IntsAre us (nats x) →
   Cl PySem.Challenge.rw_sr0059_02.row.prog w (K39 w.params) topProg loose mean mg mb 168 5 40 ((D, listOf us.toArray kk) :: news) [.ref D]
     (fun r nx => ∃ (T : Addr) (t1 t2 : Tok), r = .ref T ∧ nx = (T, tup2 ((kp x).1 : Nat) ((kp x).2 : Nat) t1 t2) :: (D, listOf us.toArray kk) :: news ∧ ∀ p ∈ (D, listOf us.toArray kk) :: news, p.1 < T) := by
  k_fill
  intro news D us kk x hq hlen hI
  refine Cl.mk ?_
  intro dp un gd cn cs ca ccd cl outer A₀ base h₀ L m s Q E kB kF kX kN kT kcs kd ku hret
  refine wpAny_call ?_
  k_extra "enter"
  intro g L1 h1 FG F0 N B X T
  dsimp only
  refine noE ?_
  k_fold
  try k_gentoks
  have hx9 : Loc g L1 h1 [("row", .ref D)] := loc F0 (by k_extra "kn_all")
  first | (k_extra "xe2"; clear hx9; intro r1 F) | obtain ⟨r1, F⟩ := hx9
  clear F0
  refine seqQ (fun h => ∃ (t t' : Tok), Loc g L1 h [("lower", .int (0 : Nat) t), ("upper", .int (1 : Nat) t'), ("row", .ref D)] ∧ News g L1 h ((D, listOf us.toArray kk) :: news)) ?_ ?_
  · intro Qn hN hRt
    k_extra "ks"
    exact hN _ _ ⟨_, _, by k_extra "lo", News.perm (by assumption) (by k_extra "psub")⟩
  intro h2 tk2 hP
  first | (revert hP; intro hx9; k_extra "xe4"; clear hx9; intro t2 t2' hx9; (first | (k_extra "xq2"; clear hx9; intro r2 F2) | obtain ⟨r2, F2⟩ := hx9); intro N2) | obtain ⟨t2, t2', ⟨r2, F2⟩, N2⟩ := hP
  clear F N
  dsimp only
  refine seqQ (fun h => ∃ (t t' : Tok), Loc g L1 h [("lower", .int (kp x).2 t), ("upper", .int (kp x).1 t')] ∧ News g L1 h ((D, listOf us.toArray kk) :: news)) ?_ ?_
  · intro Qn hN hRt
    refine For_invV g (by rfl) (by rfl) ?_
    k_extra "kfor"
    (with_reducible rename IntsAre _ (nats x).reverse => hR)
    (with_reducible rename News _ _ _ ((_, listOf (List.toArray _) _) :: _) => N3)
    (with_reducible rename Fr _ _ _ _ => F3)
    rename_i hC9 l1
    have hlt := allLt_mem l1.2
    have hxl : x.reverse.length = x.length := List.length_reverse
    have hR' := hR
    rw [nats, ← List.map_reverse] at hR'
    have hul := rowlen hR'
    refine forListH (σ := Tok × Tok × Nat) (fun c => (D, listOf us.toArray kk) :: news) (fun c => [("lower", .int (kp (x.drop c.2.2)).2 c.1), ("upper", .int (kp (x.drop c.2.2)).1 c.2.1)])
      (fun i c => c.2.2 = x.length - i) (t2, t2', x.length) rfl N3 ?_ F3 ?_ rfl ?_ ?_
    · exact List.forall_mem_cons.mpr ⟨Nat.ne_of_lt l1.1, fun p hp => Nat.ne_of_lt (hlt p hp)⟩
    · dsimp only
      rw [List.drop_length]
      k_extra "kn_all"
    · intro hx9
      first | (k_extra "xq3"; clear hx9; intro tl tu j) | obtain ⟨tl, tu, j⟩ := hx9
      intro i v rr h4 tk4 own hi hv hoff hj F4 N4
      dsimp only at hj F4 N4
      refine turnQ fun QT hQT _ => ?_
      subst hj
      have hx9 := nats_at hR' hv
      first | (k_extra "xe2"; clear hx9; intro tv eq9; subst eq9) | obtain ⟨tv, rfl⟩ := hx9
      have hi' : i < x.length := by rw [← hxl, ← hul]; exact hi
      have hs1 : x.length - (i + 1) < x.length := Nat.sub_lt (Nat.lt_of_le_of_lt (Nat.zero_le i) hi') (Nat.succ_pos i)
      have hs2 : x.length - (i + 1) + 1 = x.length - i := by rw [Nat.sub_add_eq]; exact Nat.sub_add_cancel (Nat.sub_pos_of_lt hi')
      have e1 : x.reverse.getD i 0 = x.getD (x.length - (i + 1)) 0 := rev_getD x i hi'
      have e2 : x.drop (x.length - (i + 1)) = x.getD (x.length - (i + 1)) 0 :: x.drop (x.length - i) := by
        rw [List.drop_eq_getElem_cons hs1, hs2]
        simp [List.getD, hs1]
      have e3 : kp (x.drop (x.length - (i + 1))) = (x.getD (x.length - (i + 1)) 0 * (kp (x.drop (x.length - i))).1 + (kp (x.drop (x.length - i))).2, (kp (x.drop (x.length - i))).1) := by rw [e2, kp]
      rw [e1] at F4
      have hq2 := hq (x.getD (x.length - (i + 1)) 0) (getD_memP hs1)
      generalize x.getD (x.length - (i + 1)) 0 = q at *
      generalize kp (x.drop (x.length - i)) = ul at *
      first | (revert ul; intro hx9; k_extra "xe2"; clear hx9; intro u lw) | obtain ⟨u, lw⟩ := ul
      dsimp only at *
      k_extra "ks"
      refine hQT ⟨_, _, x.length - (i + 1)⟩ (by assumption) (News.perm (by assumption) (by k_extra "psub")) rfl rfl (by dsimp only; rw [e3]; k_extra "kn_all") rfl
    · intro hx9
      first | (k_extra "xq3"; clear hx9; intro tl tu j) | obtain ⟨tl, tu, j⟩ := hx9
      intro rr h4 tk4 hj F4 N4
      dsimp only at hj F4 N4
      rw [hul, hxl, Nat.sub_self] at hj
      subst hj
      rw [List.drop_zero] at F4
      exact hN _ _ ⟨_, _, by k_extra "lo", N4⟩
  intro h5 tk5 hP
  first | (revert hP; intro hx9; k_extra "xe4"; clear hx9; intro t5 t5' hx9; (first | (k_extra "xq2"; clear hx9; intro r5 F5) | obtain ⟨r5, F5⟩ := hx9); intro N5) | obtain ⟨t5, t5', ⟨r5, F5⟩, N5⟩ := hP
  dsimp only
  k_extra "ks"
  (with_reducible rename _ ∧ AllLt _ _ => l9)
  exact hret _ _ _ _ (by assumption) (by assumption) ⟨_, _, _, rfl, rfl, List.forall_mem_cons.mpr ⟨l9.1, allLt_mem l9.2⟩⟩
end
section
theorem abc_tx : Str.ofString "aAbBcC" = tx sgl := by decide
theorem signs_c (w : World) (loose : List Str) (mean : ExcName → Option Value) (mg mb : Str → Option Value) : ∀ (news : CbLed) (D : Addr) (us : List Value) (kk : Nat) (x : List Nat), Qs x → x.length ≤ 12 → IntsAre us (nats x) →
   Cl PySem.Challenge.rw_sr0059_02.row.prog w (K39 w.params) topProg loose mean mg mb 180 5 40 ((D, listOf us.toArray kk) :: news) [.ref D]
     (fun r nx => nx = (D, listOf us.toArray kk) :: news ∧ ∃ t, r = .str (tx (x.map sg)) t) := by
  k_fill
  intro news D us kk x hq hlen hI
  refine Cl.mk ?_
  intro dp un gd cn cs ca ccd cl outer A₀ base h₀ L m s Q E kB kF kX kN kT kcs kd ku hret
  refine wpAny_call ?_
  k_extra "enter"
  intro g L1 h1 FG F0 N B X T
  dsimp only
  refine noE ?_
  k_fold
  try k_gentoks
  have hx9 : Loc g L1 h1 [("row", .ref D)] := loc F0 (by k_extra "kn_all")
  first | (k_extra "xe2"; clear hx9; intro r1 F) | obtain ⟨r1, F⟩ := hx9
  clear F0
  have hul := rowlen hI
  repeat' ((fail_if_success (with_reducible show PySem.wpAny _ _ (eval (Expr.ListComp _ _ _ _) _) _ _ _)); k_extra "ks1"; try dsimp only)
  refine LCg.ListComp_U (F₀ := by k_asm) (by with_unfolding_all rfl) (by decide) (by rfl) (by decide) (by rfl) ?_
  repeat' ((fail_if_success (show LCg.CompSrc ..)); k_extra "ks1"; try dsimp only)
  refine LCg.CompSrc.ledger (by rfl) (by k_asm) N (.head _) (by rw [List.size_toArray, hul, PySem.sizeLine_eq]; k_extra "li") ?_
  intro g'
  refine compL (fun i ys nx => nx = (D, listOf us.toArray kk) :: news ∧ StrsAre ys ((x.take i).map fun q => tx [sg q])) ⟨rfl, .nil⟩ ?_ ?_
  · intro i v I oI C oC D1 m₂ ys nx h tk E' hi hv hJ hC hx F N off ne
    first | (revert hJ; intro hx9; k_extra "xe2"; clear hx9; intro eq9; subst eq9; intro hS) | obtain ⟨rfl, hS⟩ := hJ
    rw [List.size_toArray, hul] at hi
    have hv : us[i]? = some v := by simpa using hv
    have hx9 := nats_at hI hv
    first | (k_extra "xe2"; clear hx9; intro t eq9; subst eq9) | obtain ⟨t, rfl⟩ := hx9
    with_reducible show PySem.wpAny _ _ _ _ _ _
    k_fold
    dsimp only
    repeat' ((fail_if_success (with_reducible show PySem.wpAny _ _ (subscriptTail _ _ _ _) _ _ _)); k_extra "ks1"; try dsimp only)
    have hi2 : x.getD i 0 ∈ x := by rw [show x.getD i 0 = x[i] from by simp [List.getD, hi]]; exact List.getElem_mem _
    have hq2 := hq _ hi2
    have e6 : x.take (i + 1) = x.take i ++ [x.getD i 0] := take_snocN hi
    rw [show ((x.getD i 0 : Nat) : Int) - 2 = ((x.getD i 0 - 2 : Nat) : Int) from by k_extra "li", abc_tx]
    refine it_at (by show _ < 6; k_extra "li") (by decide) ?_ (by with_unfolding_all rfl) (by intro _; with_unfolding_all rfl)
    intro t6 tk6
    dsimp only
    refine LCg.CompEnd.intro (by assumption) N ((D, listOf us.toArray kk) :: news) (by k_extra "psub") off (Or.inr ⟨_, .head _, rfl, _, rfl⟩) ⟨rfl, ?_⟩
    rw [e6, List.map_append]
    exact kct_snoc (y := tx [sg (x.getD i 0)]) (t := t6) hS
  · intro ys nx hx9
    first | (k_extra "xq2"; clear hx9; intro eq9; subst eq9; intro hS) | obtain ⟨rfl, hS⟩ := hx9
    rw [List.size_toArray, hul, List.take_of_length_le (Nat.le_refl _)] at hS
    intro D5 h5 tk5 F5 N5 o5
    dsimp only at *
    have hS' : StrsAre ys ((x.map sg).map fun c => tx [c]) := by rw [List.map_map]; exact hS
    repeat' ((fail_if_success (with_reducible show PySem.wpAny _ _ (call (.builtin "str.join") _) _ _ _)); k_extra "ks1"; try dsimp only)
    refine join_list (items := ys.toArray) ⟨_, (N5 _ (.head _)).1, rfl, _, rfl⟩ (by show StrsAre ys _; exact hS') (join_bnd _ (by rw [List.length_map]; k_extra "li")) ?_
    intro t9 k9
    rw [join_tx]
    repeat' (k_extra "ks1"; try dsimp only)
    exact hret _ _ _ _ (by assumption) (News.perm (by assumption) (by k_extra "psub")) ⟨rfl, _, rfl⟩
end
section
section
variable {prog : Program} {w : World} {A₀ A : Around} {s : Shared} {base h₀ : Heap} {L : Addr} {m : Str → Option Value} {news : List (Addr × Obj)} {K : Frag} {p : Program} {loose : List Str} {mean : ExcName → Option Value} {mg mb : Str → Option Value}
    {R : Result → Shared → Prop} {name qual : Str} {params : Arguments} {body : List Stmt} {scope : Scope} {dV kV doc pm cdv ct oc : Value} {an od : Option Addr} {osl : Array (Option Value)} {f : Addr} {args : Args} {binds : List (Str × Value)} {env : Env}
theorem code_S0X (B : Below A₀ base [] h₀) (F : Fr h₀ L s.heap m) (X₀ : K.In h₀) (N : News h₀ L s.heap news) (T : Top p loose mean mg mb h₀) (hA : A.frames = some [env]) (hf : env.frame = some L) (hke : env.scope.kind = .function)
    (ho : K.lookup f = some ⟨oc, od, .func (fnOf name qual params body scope dV kV doc pm an cdv ct), osl⟩) (hcd : codeIn K cdv qual = true) (hroom : A.depth < recursionLimit)
    (hbind : BindsTo s (fnOf name qual params body scope dV kV doc pm an cdv ct) args binds) (hloc : ∀ y ∈ binds, scope.names.lookup y.1 = some .local)
    (h : ∀ g L' h₁, Fr h₀ L g m → Fr g L' h₁ (fun y => binds.reverse.lookup y) → News g L' h₁ news → Below A base [env] g → K.In g → Top p loose mean mg mb g → KtsDicts ([env].filterMap (·.frame)) g →
      wpAny (model prog w) (A.deeper (envOf qual scope L' f cdv)) (execs body (envOf qual scope L' f cdv))
        (fun fl s' => LeaveS0 ([env].filterMap (·.frame)) h₀ L m g R (match fl with | .ret v => v | _ => .none) s')
        (fun e s' => wpAny (model prog w) (A.deeper (envOf qual scope L' f cdv)) (leaving (envOf qual scope L' f cdv) e) (fun _ s'' => R (.error e) s'') (fun e' s'' => R (.error e') s'') s')
        { s with heap := h₁, toks := s.toks + binds.length })
    (hco : scope.isCoroutine = false) (hgen : scope.isGenerator = false) (hk : scope.kind = .function)
    (hcell : ∀ x ∈ scope.names, x.2 ≠ .cell) : codeAny (model prog w) A (.call (.ref f) args) R s := by
  have X := X₀.keeps F.keep
  have hx9 := groundX (R := R) B F N hA hf hke
  first | (k_extra "xe4"; clear hx9; intro FG BG st lv) | obtain ⟨FG, BG, st, lv⟩ := hx9
  have hmem : ∀ b, b ∈ [env].filterMap (·.frame) → b = L := fun b hb => by
    have hx9 := List.mem_filterMap.mp hb
    first | (k_extra "xe3"; clear hx9; intro e he hfe) | obtain ⟨e, he, hfe⟩ := hx9
    rw [List.mem_singleton.mp he, hf] at hfe
    exact (Option.some.inj hfe).symm
  have hx9 := FG.ns
  first | (k_extra "xe7"; clear hx9; intro oL es ep hLg hLd hLk hLf) | obtain ⟨oL, es, ep, hLg, hLd, hLk, hLf⟩ := hx9
  have hNs : ∀ (sl : Array (Option Value)) h', h'.get? L = some { oL with slots := sl } → Heap.Ns h' L m := fun sl h' e => ⟨_, es, ep, e, hLd, hLk, hLf⟩
  refine codeAny_call_def (fd := fnOf name qual params body scope dV kV doc pm an cdv ct) (body := body) (binds := binds) hroom (X _ _ ho) rfl (T.nolimit.keeps F.keep) (codeRec_of X hcd) rfl hbind hcell hloc (fun h₁ hns hk₁ => ?_) hco hgen hk
  refine wpAny_mono (h _ s.heap.objs.size h₁ FG ⟨hns, fun b o e => hk₁ b o (of_hideAll _ e), Nat.le_of_eq (hideAll_size _ _)⟩
    (fun p hp => ⟨hk₁ _ _ (N p hp).1, Nat.ne_of_lt (Heap.lt_size (N p hp).1), hideAll_none _ (List.mem_map_of_mem hp)⟩) BG (X₀.keeps st) (T.keeps st) (fun b hb => by
      rw [hmem b hb]
      exact ⟨oL, es, ep, hLg, hLd⟩)) (fun fl s' hl => ?_) fun _ _ y => y
  first | (revert hl; intro hx9; k_extra "xe8"; clear hx9; intro g' L' m' news' T' F' N' k) | obtain ⟨g', L', m', news', T', F', N', k⟩ := hl
  have nL₀ : h₀.get? L = none := kts_self F
  have hx9 := T'.up hLg
  first | (k_extra "xe2"; clear hx9; intro sl hs) | obtain ⟨sl, hs⟩ := hx9
  refine k ⟨hNs sl _ (F'.keep _ _ hs), fun b o e => F'.keep b o (T'.other b o (st b o e) (fun q => by
    rw [hmem b q, nL₀] at e
    cases e)), F.above⟩ fun p hp => ⟨(N' p hp).1, fun q => ?_, ?_⟩
  · have := (N' p hp).2.2; rw [q, hs] at this; cases this
  · cases q : h₀.get? p.1 with
    | none => rfl
    | some o =>
      have hx9 := T'.up (st _ _ q)
      first | (k_extra "xe2"; clear hx9; intro sl' hs') | obtain ⟨sl', hs'⟩ := hx9
      have := (N' p hp).2.2
      rw [hs'] at this
      cases this
end
noncomputable def ClT (prog : Program) (w : World) (K : Frag) (p : Program) (loose : List Str) (mean : ExcName → Option Value) (mg mb : Str → Option Value) (f : Addr) (d u : Nat) (news : List (Addr × Obj)) (vs : List Value)
    (R : Value → List (Addr × Obj) → Prop) : Prop :=
  ∀ (dp un : Nat) (gd : Option (List Code)) (cn : Str) (cs : Scope) (ca : Addr) (ccd : Value) (cl : List (Str × Addr)) (A₀ : Around) (base h₀ : Heap) (L : Addr) (m : Str → Option Value) (s : Shared) (Q E : Value → Shared → Prop),
    CdH base → K.In base → Top p loose mean mg mb base → Below A₀ base [] h₀ → Fr h₀ L s.heap m → K.In h₀ → News h₀ L s.heap news → Top p loose mean mg mb h₀ → cs.kind = .function → dp + d < recursionLimit → un + u < cLine →
    (∀ (r : Value) (news' : List (Addr × Obj)) (h' : Heap) (tk' : Nat), Fr h₀ L h' m → News h₀ L h' news' → R r news' → Q r { s with heap := h', toks := tk' }) →
      wpAny (model prog w) (ktrTop dp un gd cn cs L ca ccd cl []) (call (.ref f) vs) Q E s
theorem ClT.mk {prog : Program} {w : World} {K : Frag} {p : Program} {loose : List Str} {mean : ExcName → Option Value} {mg mb : Str → Option Value} {f : Addr} {d u : Nat} {news : List (Addr × Obj)} {vs : List Value} {R : Value → List (Addr × Obj) → Prop}
    (h : ∀ (dp un : Nat) (gd : Option (List Code)) (cn : Str) (cs : Scope) (ca : Addr) (ccd : Value) (cl : List (Str × Addr)) (A₀ : Around) (base h₀ : Heap) (L : Addr) (m : Str → Option Value) (s : Shared) (Q E : Value → Shared → Prop),
    CdH base → K.In base → Top p loose mean mg mb base → Below A₀ base [] h₀ → Fr h₀ L s.heap m → K.In h₀ → News h₀ L s.heap news → Top p loose mean mg mb h₀ → cs.kind = .function → dp + d < recursionLimit → un + u < cLine →
    (∀ (r : Value) (news' : List (Addr × Obj)) (h' : Heap) (tk' : Nat), Fr h₀ L h' m → News h₀ L h' news' → R r news' → Q r { s with heap := h', toks := tk' }) →
      wpAny (model prog w) (ktrTop dp un gd cn cs L ca ccd cl []) (call (.ref f) vs) Q E s) :
    ClT prog w K p loose mean mg mb f d u news vs R := h
theorem ClT.use {prog : Program} {w : World} {K : Frag} {p : Program} {loose : List Str} {mean : ExcName → Option Value} {mg mb : Str → Option Value} {f : Addr} {d u : Nat} {news : List (Addr × Obj)} {vs : List Value} {R : Value → List (Addr × Obj) → Prop} (C : ClT prog w K p loose mean mg mb f d u news vs R)
    {dp un : Nat} {gd : Option (List Code)} {cn : Str} {cs : Scope} {ca : Addr} {ccd : Value} {cl : List (Str × Addr)} {A₀ : Around} {base h₀ : Heap} {L : Addr} {m : Str → Option Value} {s : Shared} {Q E : Value → Shared → Prop}
    (kP : CdH base) (kXb : K.In base) (kTb : Top p loose mean mg mb base) (kB : Below A₀ base [] h₀) (kF : Fr h₀ L s.heap m) (kX : K.In h₀) (kN : News h₀ L s.heap news) (kT : Top p loose mean mg mb h₀) (kc : cs.kind = .function) (kd : dp + d < recursionLimit) (ku : un + u < cLine)
    (kR : ∀ (r : Value) (news' : List (Addr × Obj)) (h' : Heap) (tk' : Nat), Fr h₀ L h' m → News h₀ L h' news' → R r news' → Q r { s with heap := h', toks := tk' }) :
    wpAny (model prog w) (ktrTop dp un gd cn cs L ca ccd cl []) (call (.ref f) vs) Q E s := C dp un gd cn cs ca ccd cl A₀ base h₀ L m s Q E kP kXb kTb kB kF kX kN kT kc kd ku kR
theorem run_c (w : World) (loose : List Str) (mean : ExcName → Option Value) (mg mb : Str → Option Value) : ∀ (own1 own2 news : CbLed) (x : List Nat) (tu tl : Tok), Qs x → x.length ≤ 12 → 0 < x.length → Tbs own1 own2 news →
   ClT PySem.Challenge.rw_sr0059_02.row.prog w (K39 w.params) topProg loose mean mg mb 175 100 2000 (own1 ++ (own2 ++ news)) [.int ((kp x).1 : Nat) tu, .int ((kp x).2 : Nat) tl]
     (fun r nx => ∃ (D : Addr) (us : List Value) (k : Nat) (own1' own2' : CbLed), r = .ref D ∧ nx = (D, listOf us.toArray k) :: (own1' ++ (own2' ++ news)) ∧ IntsAre us (nats x) ∧ TbsR own1 own2 own1' own2' news ∧ ∀ p ∈ own1' ++ (own2' ++ news), p.1 ≠ D) := by
  k_fill
  intro own1 own2 news x tu tl hq hlen hpos hT
  refine ClT.mk ?_
  intro dp un gd cn cs ca ccd cl A₀ base h₀ L m s Q E kP XB TB kB kF kX kN kT kcs kd ku hret
  refine wpAny_call ?_
  refine' code_S0X (by assumption) (by assumption) (by assumption) (by assumption) (by assumption) ?kA ?kF' ?kK ?k6 ?k7 ?k8 ?k9 ?kB' ?_ ?c2 ?c3 ?c4 ?c5
  (case kA => exact rfl); (case kF' => exact rfl); (case kK => assumption); (case k6 => k_is); (case k7 => k_is); (case k8 => ktr_room); (case k9 => exact BindsTo.of_eq rfl); (case c5 => decide); (case kB' => exact locs rfl); (case c2 => exact rfl); (case c3 => exact rfl); (case c4 => exact rfl)
  intro g L1 h1 FG F0 N B X T kD
  dsimp only
  refine noE ?_
  try k_gentoks
  have hx9 : Loc g L1 h1 [("lower", .int (kp x).2 tl), ("upper", .int (kp x).1 tu)] := loc F0 (by k_extra "kn_all")
  first | (k_extra "xe2"; clear hx9; intro r1 F) | obtain ⟨r1, F⟩ := hx9
  clear F0
  refine seqQ (fun h => ∃ (D : Addr) (k : Nat), Loc g L1 h [("row", .ref D), ("lower", .int (kp x).2 tl), ("upper", .int (kp x).1 tu)] ∧ News g L1 h ((D, listOf ([] : List Value).toArray k) :: (own1 ++ (own2 ++ news))) ∧ ∀ p ∈ own1 ++ (own2 ++ news), p.1 < D) ?_ ?_
  · intro Qn hN hRt
    k_extra "ks"
    exact hN _ _ ⟨_, _, by k_extra "lo", by assumption, by assumption⟩
  intro h2 tk2 hP
  first | (revert hP; intro hx9; k_extra "xe5"; clear hx9; intro D k2 hx9; (first | (k_extra "xq2"; clear hx9; intro r2 F2) | obtain ⟨r2, F2⟩ := hx9); intro N2 hD) | obtain ⟨D, k2, ⟨r2, F2⟩, N2, hD⟩ := hP
  clear F N
  dsimp only
  refine seqQ (fun h => ∃ (us : List Value) (k : Nat) (own1' own2' : CbLed) (t t' : Tok), Loc g L1 h [("row", .ref D), ("lower", .int (0 : Nat) t), ("upper", .int (1 : Nat) t')] ∧ News g L1 h ((D, listOf us.toArray k) :: (own1' ++ (own2' ++ news))) ∧ IntsAre us (nats x) ∧ TbsR own1 own2 own1' own2' news ∧ ∀ p ∈ own1' ++ (own2' ++ news), p.1 ≠ D) ?_ ?_
  · intro Qn hN hRt
    refine whileH (n₀ := x.length) (fun n h => ∃ (j : Nat) (us : List Value) (k : Nat) (own1' own2' : CbLed) (t t' : Tok), n + j = x.length ∧ Loc g L1 h [("row", .ref D), ("lower", .int (kp (x.drop j)).2 t), ("upper", .int (kp (x.drop j)).1 t')] ∧ News g L1 h ((D, listOf us.toArray k) :: (own1' ++ (own2' ++ news))) ∧ IntsAre us (nats (x.take j)) ∧
      Tbs own1' own2' news ∧ (0 < j → TbsR own1 own2 own1' own2' news) ∧ (j = 0 → own1' = own1 ∧ own2' = own2) ∧ ∀ p ∈ own1' ++ (own2' ++ news), p.1 ≠ D) ?_ ?_
    · exact ⟨0, [], k2, own1, own2, tl, tu, by k_extra "li", ⟨r2, F2⟩, N2, .nil, hT, fun h => absurd h (by k_extra "li"), fun _ => ⟨rfl, rfl⟩, fun p hp => Nat.ne_of_lt (hD p hp)⟩
    intro n h3 tk3 hI
    first | (revert hI; intro hx9; k_extra "xe15"; clear hx9; intro j us k o1 o2 t3 t3' hn hx9; (first | (k_extra "xq2"; clear hx9; intro r3 F3) | obtain ⟨r3, F3⟩ := hx9); intro N3 hI hT3 hR3 h03 hD3) | obtain ⟨j, us, k, o1, o2, t3, t3', hn, ⟨r3, F3⟩, N3, hI, hT3, hR3, h03, hD3⟩ := hI
    clear F2 N2 hD
    by_cases hj : j < x.length
    · have e2 : x.drop j = x.getD j 0 :: x.drop (j + 1) := by
        rw [List.drop_eq_getElem_cons hj]
        simp [List.getD, hj]
      have hst := kp_step (q := x.getD j 0) (hq.drop (j + 1))
      have hlow : (kp (x.drop j)).2 = (kp (x.drop (j + 1))).1 := by rw [e2, kp]
      have hp1 := kp_pos (hq.drop (j + 1))
      have hb := kp_le (hq.drop j)
      have hlt := kp_lt (hq.drop j)
      have hb2 : (kp (x.drop j)).1 < 2 ^ 40 := by
        have : 8 ^ (x.drop j).length ≤ 8 ^ 12 := Nat.pow_le_pow_right (by decide) (by rw [List.length_drop]; exact Nat.le_trans (Nat.sub_le _ _) hlen)
        exact Nat.lt_of_le_of_lt (Nat.le_trans hb this) (by decide)
      rw [← e2] at hst
      have hus : us.length = j := by rw [hI.length, List.length_map, List.length_take]; exact Nat.min_eq_left (Nat.le_of_lt hj)
      have hus6 : us.length ≤ 1000000 := by rw [hus]; exact Nat.le_trans (Nat.le_of_lt hj) (Nat.le_trans hlen (by decide))
      have e7 : x.take (j + 1) = x.take j ++ [x.getD j 0] := take_snocN hj
      generalize kp (x.drop j) = ul at *
      first | (revert ul; intro hx9; k_extra "xe2"; clear hx9; intro u lw) | obtain ⟨u, lw⟩ := ul
      dsimp only at *
      have hTm : Tbs o1 o2 (news ++ [(D, listOf us.toArray k)]) := Tbs.more hT3 (by
        intro p hp q hq'
        rw [List.mem_singleton.mp hq']
        exact Ne.symm (hD3 p (by rw [← List.append_assoc]; exact List.mem_append_left _ hp)))
      replace N3 := News.perm N3 (news' := o1 ++ (o2 ++ (news ++ [(D, listOf us.toArray k)]))) (by k_extra "psub")
      repeat' ((fail_if_success (with_reducible show PySem.wpAny _ _ (call (.ref 77) _) _ _ _)); k_extra "ks1"; try dsimp only)
      · (k_dflt (refine' ClB.use (idm0_c _ _ _ _ _ o1 o2 (news ++ [(D, listOf us.toArray k)]) _ _ _ _ ?q1 ?q2 ?q3 ?q4) ?k0 ?k1 ?k2 ?k3 ?k4 ?k5 ?kK ?kd ?ku ?_; k_extra "clb_use"))
        case q1 => k_extra "li"
        case q2 => k_extra "li"
        case q3 => k_extra "li"
        case q4 => exact hTm
        intro r nx h4 tk4 F4 N4 hR
        first | (revert hR; intro hx9; k_extra "xe9"; clear hx9; intro T4 t1 t2 o1' o2' e1 e2 hT4 lT) | obtain ⟨T4, t1, t2, o1', o2', e1, e2, hT4, lT⟩ := hR
        subst e1
        subst e2
        dsimp only
        have N5 := News.perm N4 (news' := (T4, tup2 ((u / lw : Nat) : Int) ((u % lw : Nat) : Int) t1 t2) :: (D, listOf us.toArray k) :: (o1' ++ (o2' ++ news))) (by k_extra "psub")
        clear N4
        have hof := hT4.1.offs
        have hTD : T4 ≠ D := Nat.ne_of_gt (lT (D, listOf us.toArray k) (by simp))
        have hD4 : ∀ p ∈ o1' ++ (o2' ++ news), p.1 ≠ D := by
          intro p hp
          rw [← List.append_assoc] at hp
          rcases List.mem_append.mp hp with hp | hp
          · exact Ne.symm (hof p hp (D, listOf us.toArray k) (by simp))
          · exact hD3 p (List.mem_append_right _ (List.mem_append_right _ hp))
        have hR4 : TbsR own1 own2 o1' o2' news := by
          refine ⟨hT4.1.less, ?_, ?_⟩
          · intro hm
            by_cases h0 : j = 0
            · have hx9 := h03 h0
              first | (k_extra "xe2"; clear hx9; intro eq9; subst eq9; intro eq9; subst eq9) | obtain ⟨rfl, rfl⟩ := hx9
              exact hT4.2.1 hm
            · have e := (hR3 (Nat.pos_of_ne_zero h0)).2.1 hm
              rw [hT4.2.1 (by rw [e]; exact hm), e]
          · intro hm
            by_cases h0 : j = 0
            · have hx9 := h03 h0
              first | (k_extra "xe2"; clear hx9; intro eq9; subst eq9; intro eq9; subst eq9) | obtain ⟨rfl, rfl⟩ := hx9
              exact hT4.2.2 hm
            · have e := (hR3 (Nat.pos_of_ne_zero h0)).2.2 hm
              rw [hT4.2.2 (by rw [e]; exact hm), e]
        repeat' (k_extra "ks1"; try dsimp only)
        refine ⟨_, _, n - 1, rfl, lv_n hn (Nat.sub_pos_of_lt hj), j + 1, us ++ [.int ((u / lw : Nat) : Int) t1], k + 1, o1', o2', _, _, lv_s hn (Nat.sub_pos_of_lt hj), (by rw [← hlow, ← hst.2]; k_extra "lo"), News.perm (by assumption) (by k_extra "psub"), ?_, hR4.1.tbs, fun _ => hR4, fun h => absurd h (by k_extra "li"), hD4⟩
        · rw [e7, nats, List.map_append, hst.1]
          exact IntsAre.append hI (.cons _ _ .nil)
      · k_extra "li"
    · obtain rfl : j = x.length := Nat.le_antisymm (hn ▸ Nat.le_add_left _ _) (Nat.le_of_not_lt hj)
      have hT5 := hR3 hpos
      rw [List.drop_length] at F3
      rw [List.take_length] at hI
      repeat' (k_extra "ks1"; try dsimp only)
      · exact hN _ _ ⟨us, k, o1, o2, _, _, by k_extra "lo", by assumption, hI, hT5, hD3⟩
  intro h6 tk6 hP
  first | (revert hP; intro hx9; k_extra "xe11"; clear hx9; intro us k o1 o2 t6 t6' hx9; (first | (k_extra "xq2"; clear hx9; intro r6 F6) | obtain ⟨r6, F6⟩ := hx9); intro N6 hI hR6 hD6) | obtain ⟨us, k, o1, o2, t6, t6', ⟨r6, F6⟩, N6, hI, hR6, hD6⟩ := hP
  clear F2 N2 hD
  dsimp only
  repeat' (k_extra "ks1"; try dsimp only)
  refine wpAny_call ?_
  refine' code_def (by assumption) (by assumption) (by assumption) (by assumption) (by assumption) ?kA ?kF' ?kK ?k6 ?k7 ?k8 ?k9 ?kB' ?_ ?c2 ?c3 ?c4 ?c5
  (case kA => exact rfl); (case kF' => exact rfl); (case kK => exact rfl); (case k6 => k_is); (case k7 => k_is); (case k8 => ktr_room); (case k9 => exact BindsTo.of_eq rfl); (case c5 => decide); (case kB' => exact locs rfl); (case c2 => exact rfl); (case c3 => exact rfl); (case c4 => exact rfl)
  intro g7 L7 h7 FG7 F7 N7 B7 X7 T7
  dsimp only
  repeat' ((fail_if_success (with_reducible show PySem.wpAny _ _ (exec (Stmt.Raise _ _ _) _) _ _ _)); k_extra "ks1"; try dsimp only)
  with_unfolding_all refine' Raise_classB rfl excClass_ZeroDivisionError ?kS ?kx ?_
  (case kS => rw [isSubtype_type]; kernel_rfl)
  (case kx => (refine' name_B F7 ?k1 ?k2 ?k3 ?k4 ?k5 ?_; (case k1 => k_asm); (case k2 => k_asm); (case k3 => k_is); (case k4 => boot_by_name); (case k5 => decide); exact ⟨rfl, rfl⟩))
  intro h8 e8 x8
  repeat' (k_extra "ks1"; try dsimp only)
  exact hret _ _ _ _ (by assumption) (by assumption) ⟨D, us, k, o1, o2, rfl, rfl, hI, hR6, hD6⟩
end
section
section
variable {prog : Program} {w : World} {A : Around} {s : Shared} {env : Env}
noncomputable def RHat (prog : Program) (w : World) (A : Around) (h₀ : Heap) (env : Env) (x : Str) (body : List Stmt) (Q : Flow → Shared → Prop) (a n : Nat) (J : Nat → (Str → Option Value) → List (Addr × Obj) → Prop) (xv : Value) (s₁ : Shared) : Prop :=
  ∃ (r : Addr) (t₀ u₀ v₀ : Tok) (a₀ b₀ : Int) (m : Str → Option Value) (nx : List (Addr × Obj)), xv = .ref r ∧ A.handled = none ∧ IsRange s₁.heap r a₀ b₀ 1 t₀ u₀ v₀ ∧ a₀ = (a : Int) ∧ b₀ = ((a + n : Nat) : Int) ∧ a + n ≤ 1000 ∧ Fr h₀ env.locals s₁.heap m ∧ News h₀ env.locals s₁.heap nx ∧ J 0 m nx ∧
    (∀ (i : Nat) (t : Tok) (m₁ : Str → Option Value) (nx₁ : List (Addr × Obj)) (h : Heap) (tk : Nat) (I : Addr) (oI : Obj), i < n → J i m₁ nx₁ → Fr h₀ env.locals h (fun y => if y = x then some (.int ((a + i : Nat) : Int) t) else m₁ y) → News h₀ env.locals h ((I, oI) :: nx₁) → oI.cls = .type "range_iterator" → (∀ q ∈ nx₁, q.1 ≠ I) →
      wpAny (model prog w) A (execs body env) (TurnG (fun s₃ => ∃ h' tk' m₃ nx₃, s₃ = { s₁ with heap := h', toks := tk' } ∧ Fr h₀ env.locals h' m₃ ∧ News h₀ env.locals h' ((I, oI) :: nx₃) ∧ (∀ q ∈ nx₃, q.1 ≠ I) ∧ J (i + 1) m₃ nx₃) Q) NoE { s₁ with heap := h, toks := tk }) ∧
    (∀ (m₁ : Str → Option Value) (nx₁ : List (Addr × Obj)) (h : Heap) (tk : Nat), J n m₁ nx₁ → Fr h₀ env.locals h m₁ → News h₀ env.locals h nx₁ → Q .next { s₁ with heap := h, toks := tk })
theorem forRH {Q : Flow → Shared → Prop} {x : Str} {px pos : Pos} {iter : Expr} {body : List Stmt} (h₀ : Heap) (a n : Nat) (J : Nat → (Str → Option Value) → List (Addr × Obj) → Prop) (hx : env.kindOf x = some .local)
    (hp : (env.scope.kind == .class || (env.scope.kind == .module && env.locals != env.globals)) = false)
    (h : wpAny (model prog w) A (eval iter env) (fun xv s₁ => RHat prog w A h₀ env x body Q a n J xv s₁) NoE s)
    (hs : ∀ x, foldedSetIterable iter env x = pure x := by intro _; rfl) :
    wpAny (model prog w) A (exec (.For (.Name x px) iter body [] pos) env) Q NoE s := by
  have hE : PassesOwn (model prog w) A env NoE := by passes_own
  refine wpAny_For (wpAny_mono h (fun xv s₁ h₁ => ?_) fun _ _ e => e) hs
  first | (revert h₁; intro hx9; k_extra "xe19"; clear hx9; intro r t₀ u₀ v₀ a₀ b₀ m nx eq9; subst eq9; intro hh hr eq9; subst eq9; intro eq9; subst eq9; intro hn F N h0 turn done) | obtain ⟨r, t₀, u₀, v₀, a₀, b₀, m, nx, rfl, hh, hr, rfl, rfl, hn, F, N, h0, turn, done⟩ := h₁
  refine wpAny_pyIter_range hr (small_one (by k_extra "li") (by k_extra "li") (by k_extra "li") (by k_extra "li")) ?_
  have hsz : Builtin.Range.rangeSize (a : Int) ((a + n : Nat) : Int) 1 = (n : Int) := by rw [rangeSize_one]; split <;> k_extra "li"
  rw [hsz]
  generalize hIr : s₁.heap.objs.size = Ir
  have W : Walks prog w A Ir [Ir] [Ir] n (fun i v => ∃ t, v = .int ((a : Int) + i * 1) t) (fun i h => IsRangeIter h Ir ((a : Int) + (i : Nat) * 1) ((n : Int) - (i : Nat)) 1) := Walks.range hh Ir a 1 n
  have hI₀ : h₀.get? Ir = none := by rw [← hIr]; exact next_is_new F
  have hIL : Ir ≠ env.locals := by rw [← hIr]; exact fun e => absurd F.ns.lt (e ▸ Nat.lt_irrefl _)
  refine codeAny_forLoop
    (fun k s' => ∃ i m' nx' h' tk', i ≤ n ∧ k = n + 1 - i ∧ s' = { s₁ with heap := h', toks := tk' } ∧ IsRangeIter h' Ir ((a : Int) + (i : Nat) * 1) ((n : Int) - (i : Nat)) 1 ∧ Fr h₀ env.locals h' m' ∧ News h₀ env.locals h' nx' ∧ (∀ q ∈ nx', q.1 ≠ Ir) ∧ J i m' nx') ?_ (n + 1)
    ⟨0, m, nx, _, s₁.toks, Nat.zero_le _, rfl, rfl, ?_, F.push _, fun p hp => ⟨Heap.get?_push_of_some _ (N p hp).1, (N p hp).2⟩, fun q hq e => ?_, h0⟩
  · intro k s' hx9
    first | (k_extra "xq13"; clear hx9; intro i m' nx' h' tk' hi eq9; subst eq9; intro eq9; subst eq9; intro hst' F' N' off' hJ) | obtain ⟨i, m', nx', h', tk', hi, rfl, rfl, hst', F', N', off', hJ⟩ := hx9
    have old : ∀ b o, h₀.get? b = some o → b ∉ [Ir] := fun b o e hb => by rw [List.mem_singleton.mp hb, hI₀] at e; cases e
    have next : ∀ h₁ : Heap, (∀ b o, b ∉ [Ir] → h'.get? b = some o → h₁.get? b = some o) → Fr h₀ env.locals h₁ m' ∧ News h₀ env.locals h₁ nx' := fun h₁ hk₁ =>
      ⟨⟨F'.ns.at' fun o e => hk₁ _ o (fun q => hIL (List.mem_singleton.mp q).symm) e, fun b o e => hk₁ b o (old b o e) (F'.keep b o e), F'.above⟩, fun p hp => ⟨hk₁ _ _ (fun q => off' p hp (List.mem_singleton.mp q)) (N' p hp).1, (N' p hp).2⟩⟩
    by_cases hlt : i < n
    · refine W.item i _ _ _ hlt hst' fun v h₁ tk₁ hP hst₁ hk₁ => ?_
      first | (revert hP; intro hx9; k_extra "xe2"; clear hx9; intro t eq9; subst eq9) | obtain ⟨t, rfl⟩ := hP
      have hx9 := next h₁ hk₁
      first | (k_extra "xe2"; clear hx9; intro F₁ N₁) | obtain ⟨F₁, N₁⟩ := hx9
      refine wpAny_assign_Name (wpAny_storeName_local hx F₁.ns (fun h₂ hn₂ hs₂ => ?_) hp)
      have F₂ := F₁.set hn₂ hs₂
      have hst₂ : IsRangeIter h₂ Ir ((a : Int) + ((i + 1 : Nat) : Int) * 1) ((n : Int) - ((i + 1 : Nat) : Int)) 1 := W.frame _ _ _ hst₁ fun b hb o e => (hs₂.2 b fun q => hIL (by rw [← List.mem_singleton.mp hb]; exact q)).trans e
      have e1 : (a : Int) + (i : Int) * 1 = ((a + i : Nat) : Int) := by k_extra "li"
      rw [e1] at F₂
      have N₂ : News h₀ env.locals h₂ ((Ir, _) :: nx') := fun p hp => by
        rcases List.mem_cons.mp hp with rfl | hp
        · exact ⟨hst₂, hIL, hI₀⟩
        · exact (N₁.set hs₂) p hp
      refine wpAny_passesOwn hE (wpAny_mono (turn i t m' nx' _ _ Ir _ hlt hJ F₂ N₂ rfl off') (fun f s₃ h₃ => ?_) fun _ _ e => e)
      have fin : (∃ h' tk' m₃ nx₃, s₃ = { s₁ with heap := h', toks := tk' } ∧ Fr h₀ env.locals h' m₃ ∧ News h₀ env.locals h' ((Ir, { cls := .type "range_iterator", dict := none, data := .fields #[rawInt ((a : Int) + ((i + 1 : Nat) : Int) * 1), rawInt ((n : Int) - ((i + 1 : Nat) : Int)), rawInt 1], slots := #[] }) :: nx₃) ∧ (∀ q ∈ nx₃, q.1 ≠ Ir) ∧ J (i + 1) m₃ nx₃) →
          ∃ k', k' < n + 1 - i ∧ ∃ i' m' nx' h' tk', i' ≤ n ∧ k' = n + 1 - i' ∧ s₃ = { s₁ with heap := h', toks := tk' } ∧ IsRangeIter h' Ir ((a : Int) + (i' : Nat) * 1) ((n : Int) - (i' : Nat)) 1 ∧ Fr h₀ env.locals h' m' ∧ News h₀ env.locals h' nx' ∧ (∀ q ∈ nx', q.1 ≠ Ir) ∧ J i' m' nx' := by
        intro hx9
        first | (k_extra "xq9"; clear hx9; intro h₃' tk₃ m₃ nx₃ e3 F₃ N₃ ni J₃) | obtain ⟨h₃', tk₃, m₃, nx₃, e3, F₃, N₃, ni, J₃⟩ := hx9
        exact ⟨n + 1 - (i + 1), by k_extra "li", i + 1, m₃, nx₃, h₃', tk₃, hlt, rfl, e3, (N₃ _ (.head _)).1, F₃, fun p hp => N₃ p (.tail _ hp), ni, J₃⟩
      cases f with
      | ret v => exact h₃
      | brk => exact h₃
      | next => exact fin h₃
      | cont => exact fin h₃
    · have hin : i = n := by k_extra "li"
      subst hin
      refine W.done _ _ _ hst' fun h₁ tk₁ hk₁ => wpAny_execs_nil ?_
      have hx9 := next h₁ hk₁
      first | (k_extra "xe2"; clear hx9; intro F₁ N₁) | obtain ⟨F₁, N₁⟩ := hx9
      exact done m' nx' _ _ hJ F₁ N₁
  · show IsRangeIter _ _ _ _ _
    rw [← hIr]
    simpa using Heap.get?_push_size _ rfl
  · rw [← hIr] at e
    exact absurd (Heap.lt_size (N q hq).1) (e ▸ Nat.lt_irrefl _)
end
theorem min_three_N {prog : Program} {w : World} {A : Around} {E : Value → Shared → Prop} {s : Shared} {h₀ : Heap} {L : Addr} {m : Str → Option Value} {news : List (Addr × Obj)} {a b c : Int} {t u x : Tok} {Q : Value → Shared → Prop} (hh : A.handled = none) (F : Fr h₀ L s.heap m) (N : News h₀ L s.heap news)
    (h : ∀ h' tk t', Fr h₀ L h' m → News h₀ L h' news → Q (.int (min (min a b) c) t') { s with heap := h', toks := tk }) :
    wpAny (model prog w) A (call (.builtin "min") [.int a t, .int b u, .int c x]) Q E s :=
  min_three_ints hh fun h' tk hk => by
    have key := fun t' => h h' tk t' (F.grownK hk) (N.grown hk)
    have e : min (min a b) c = if b < a then (if c < b then c else b) else (if c < a then c else a) := by
      by_cases h1 : b < a
      · rw [if_pos h1, Int.min_eq_right (Int.le_of_lt h1)]
        by_cases h2 : c < b
        · rw [if_pos h2, Int.min_eq_right (Int.le_of_lt h2)]
        · rw [if_neg h2, Int.min_eq_left (Int.not_lt.mp h2)]
      · rw [if_neg h1, Int.min_eq_left (Int.not_lt.mp h1)]
        by_cases h2 : c < a
        · rw [if_pos h2, Int.min_eq_right (Int.le_of_lt h2)]
        · rw [if_neg h2, Int.min_eq_left (Int.not_lt.mp h2)]
    rw [e] at key
    by_cases hba : b < a <;> by_cases hc1 : c < b <;> by_cases hc2 : c < a <;> simp only [hba, hc1, hc2, if_true, if_false] at key ⊢ <;> exact key _
theorem mx4.{u1, u2, u3, u4} {α1 : Sort u1} {α2 : Sort u2} {α3 : Sort u3} {α4 : Sort u4} {A : α1 → α2 → α3 → α4 → Prop} (x1 : α1) (x2 : α2) (x3 : α3) (x4 : α4) (h : A x1 x2 x3 x4) : ∃ x1 x2 x3 x4, A x1 x2 x3 x4 := ⟨x1, x2, x3, x4, h⟩
theorem mx8.{u1, u2, u3, u4, u5, u6, u7, u8} {α1 : Sort u1} {α2 : Sort u2} {α3 : Sort u3} {α4 : Sort u4} {α5 : Sort u5} {α6 : Sort u6} {α7 : Sort u7} {α8 : Sort u8} {A : α1 → α2 → α3 → α4 → α5 → α6 → α7 → α8 → Prop} (x1 : α1) (x2 : α2) (x3 : α3) (x4 : α4) (x5 : α5) (x6 : α6) (x7 : α7) (x8 : α8) (h : A x1 x2 x3 x4 x5 x6 x7 x8) : ∃ x1 x2 x3 x4 x5 x6 x7 x8, A x1 x2 x3 x4 x5 x6 x7 x8 := ⟨x1, x2, x3, x4, x5, x6, x7, x8, h⟩
theorem nmin (a b : Nat) : ((min a b : Nat) : Int) = min (a : Int) (b : Int) := by k_extra "li"
noncomputable def ptRow (x : List Nat) (l n : Nat) : List Nat := (List.range n).map (pt x l)
theorem ptRow_len (x : List Nat) (l n : Nat) : (ptRow x l n).length = n := by simp [ptRow]
theorem ptRow_get {x : List Nat} {l n k : Nat} (h : k < n) : (nats (ptRow x l n)).getD k 0 = (pt x l k : Int) := by
  simp [ptRow, nats, List.getD, h]
theorem ptRow_snoc (x : List Nat) (l n : Nat) : nats (ptRow x l (n + 1)) = nats (ptRow x l n) ++ [(pt x l n : Int)] := by simp [nats, ptRow, List.range_succ]
theorem nats_get (x : List Nat) (k : Nat) : (nats x).getD k 0 = (x.getD k 0 : Int) := by
  simp only [nats, List.getD_eq_getElem?_getD, List.getElem?_map]
  cases x[k]? <;> rfl
theorem ends_eq (x y : Nat) : ((if ((x : Int) != (y : Int)) = true then 1 else 0) + (if ((x : Int).fdiv 2 != (y : Int).fdiv 2) = true then 1 else 0) : Int) = (scq x y : Int) := by
  have e : ∀ z : Nat, (z : Int).fdiv 2 = ((z / 2 : Nat) : Int) := fun z => by rw [Int.fdiv_eq_ediv_of_nonneg _ (by decide)]; simp
  rw [e, e]
  unfold scq
  by_cases h1 : x = y
  · subst h1; simp
  · have h1' : ((x : Int) != (y : Int)) = true := by simp; k_extra "li"
    rw [if_pos h1', if_neg h1]
    by_cases h2 : x / 2 = y / 2
    · rw [h2]; simp
    · have h2' : (((x / 2 : Nat) : Int) != ((y / 2 : Nat) : Int)) = true := by simp only [bne_iff_ne, ne_eq]; k_extra "li"
      rw [if_pos h2', if_neg h2]; rfl
theorem zeros (t : Tok) : ∀ n, IntsAre (List.replicate n [Value.int 0 t]).flatten (List.replicate n 0)
  | 0 => .nil
  | n + 1 => by rw [List.replicate_succ, List.replicate_succ, List.flatten_cons]; exact .cons _ _ (zeros t n)
theorem ptRow_zero (x : List Nat) {l : Nat} (hl : l = 0 ∨ l = 1) (n : Nat) : nats (ptRow x l n) = List.replicate n 0 := by
  apply List.ext_getElem
  · simp [nats, ptRow]
  · intro i h1 h2
    rcases hl with rfl | rfl <;> simp [nats, ptRow, pt]
theorem ls_f {x : List Nat} {i r k : Nat} (hk : k < r) (hr : x.length = i + 1 + r) (hl : x.length ≤ 12) (h1 : (nats (ptRow x (i + 1) (r + 1))).length = r + 1) (h0 : (nats (ptRow x i (r + 1 + 1))).length = r + 1 + 1) (hx : (nats x).length = x.length) :
    k < (nats x).length ∧ k + (1 + i) < (nats x).length ∧ k < (nats (ptRow x (i + 1) (r + 1))).length ∧ k + 1 < (nats (ptRow x (i + 1) (r + 1))).length ∧ k + 1 < (nats (ptRow x i (r + 1 + 1))).length ∧ k ≤ 1000 ∧ k + 1 ≤ 1000 ∧ k + (1 + i) ≤ 1000 := by
  rw [h1, h0, hx]
  have e : k + (1 + i) < x.length := by rw [hr, Nat.add_comm i 1, Nat.add_comm (1 + i)]; exact Nat.add_lt_add_right hk _
  have e1 : k + 1 ≤ x.length := Nat.le_of_lt (Nat.lt_of_le_of_lt (Nat.add_le_add_left (Nat.le_add_right 1 i) k) e)
  have e2 : x.length ≤ 1000 := Nat.le_trans hl (by decide)
  exact ⟨e1, e, Nat.lt_succ_of_lt hk, Nat.succ_lt_succ hk, Nat.succ_lt_succ (Nat.lt_succ_of_lt hk), Nat.le_trans (Nat.le_of_lt e1) e2, Nat.le_trans e1 e2, Nat.le_trans (Nat.le_of_lt e) e2⟩
theorem least_c (w : World) (loose : List Str) (mean : ExcName → Option Value) (mg mb : Str → Option Value) : ∀ (news : CbLed) (D : Addr) (us : List Value) (kk : Nat) (x : List Nat), x.length ≤ 12 → 0 < x.length → IntsAre us (nats x) →
   Cl PySem.Challenge.rw_sr0059_02.row.prog w (K39 w.params) topProg loose mean mg mb 187 5 40 ((D, listOf us.toArray kk) :: news) [.ref D]
     (fun r nx => nx = (D, listOf us.toArray kk) :: news ∧ ∃ t, r = .int (pt x x.length 0 : Nat) t) := by
  k_fill
  intro news D us kk x hlen hpos hI
  refine Cl.mk ?_
  intro dp un gd cn cs ca ccd cl outer A₀ base h₀ L m s Q E kB kF kX kN kT kcs kd ku hret
  refine wpAny_call ?_
  k_extra "enter"
  intro g L1 h1 FG F0 N B X T
  dsimp only
  refine noE ?_
  k_fold
  try k_gentoks
  have hx9 : Loc g L1 h1 [("row", .ref D)] := loc F0 (by k_extra "kn_all")
  first | (k_extra "xe2"; clear hx9; intro r1 F) | obtain ⟨r1, F⟩ := hx9
  clear F0
  have hul := rowlen hI
  have h62 : x.length < 2 ^ 62 := Nat.lt_of_le_of_lt hlen (by decide)
  have h13 : x.length ≤ 1000 := Nat.le_trans hlen (by decide)
  have h14 : x.length + 1 ≤ 1000 := Nat.le_trans (Nat.succ_le_succ hlen) (by decide)
  refine seqQ (fun h => ∃ (Da Dh : Addr) (ua uh : List Value) (ka kh : Nat), Loc g L1 h [("here", .ref Dh), ("ahead", .ref Da), ("row", .ref D)] ∧ News g L1 h ((Dh, listOf uh.toArray kh) :: (Da, listOf ua.toArray ka) :: (D, listOf us.toArray kk) :: news) ∧ IntsAre ua (nats (ptRow x 0 (x.length + 1))) ∧ IntsAre uh (nats (ptRow x 1 x.length))) ?_ ?_
  · intro Qn hN hRt
    k_extra "ks"
    have e1 : (((nats x).length : Nat) : Int).toNat = x.length := by rw [Int.toNat_natCast, List.length_map]
    have e2 : ((((nats x).length + 1 : Nat)) : Int).toNat = x.length + 1 := by rw [List.length_map]; k_extra "li"
    refine hN _ _ ⟨_, _, _, _, 0, 0, by k_extra "lo", News.perm (by assumption) (by k_extra "psub"), ?_, ?_⟩
    · rw [e2, ptRow_zero x (.inl rfl)]; exact zeros _ _
    · rw [e1, ptRow_zero x (.inr rfl)]; exact zeros _ _
  intro h2 tk2 hP
  first | (revert hP; intro hx9; k_extra "xe10"; clear hx9; intro Da Dh ua uh ka kh hx9; (first | (k_extra "xq2"; clear hx9; intro r2 F2) | obtain ⟨r2, F2⟩ := hx9); intro N2 hIa hIh) | obtain ⟨Da, Dh, ua, uh, ka, kh, ⟨r2, F2⟩, N2, hIa, hIh⟩ := hP
  clear F N
  dsimp only
  refine seqQ (fun h => ∃ (Dh : Addr) (uh : List Value) (kh : Nat), Loc g L1 h [("here", .ref Dh)] ∧ News g L1 h ((Dh, listOf uh.toArray kh) :: (D, listOf us.toArray kk) :: news) ∧ IntsAre uh (nats (ptRow x x.length 1))) ?_ ?_
  · intro Qn hN hRt
    refine forRH g 1 (x.length - 1) (fun i m nx => ∃ (Da Dh : Addr) (ua uh : List Value) (ka kh : Nat), nx = (Dh, listOf uh.toArray kh) :: (Da, listOf ua.toArray ka) :: (D, listOf us.toArray kk) :: news ∧ IntsAre ua (nats (ptRow x i (x.length - i + 1))) ∧ IntsAre uh (nats (ptRow x (i + 1) (x.length - i))) ∧
      (∀ p ∈ ([("here", .ref Dh), ("ahead", .ref Da), ("row", .ref D)] : List (Str × Value)), m p.1 = some p.2)) (by rfl) (by rfl) ?_
    repeat' (k_extra "ks1"; try dsimp only)
    refine mx8 _ _ _ _ _ _ _ _ ⟨rfl, rfl, by assumption, rfl, by rw [List.length_map]; k_extra "li", by k_extra "li", by assumption, by assumption, mx6 Da Dh ua uh ka kh ⟨rfl, hIa, hIh, by k_extra "kn_all"⟩, ?_, ?_⟩
    · intro i ti m₁ nx₁ h5 tk5 I oI hi hx9
      first | (k_extra "xq10"; clear hx9; intro Da Dh ua uh ka kh eq9; subst eq9; intro hIa hIh hm) | obtain ⟨Da, Dh, ua, uh, ka, kh, rfl, hIa, hIh, hm⟩ := hx9
      intro F5 N5 hIc hoff
      have hx9 := locS F5 hm
      first | (k_extra "xe2"; clear hx9; intro r5 F5') | obtain ⟨r5, F5'⟩ := hx9
      replace F5 : Fr g L1 h5 _ := F5'
      clear F5' hm
      have hre : ∃ r, x.length = i + 1 + r := Nat.exists_eq_add_of_le (by k_extra "li")
      first | (revert hre; intro hx9; k_extra "xe2"; clear hx9; intro r hr) | obtain ⟨r, hr⟩ := hre
      have hxi1 : x.length - (i + 1) = r := by rw [hr]; exact Nat.add_sub_cancel_left _ _
      have hxi : x.length - i = r + 1 := by rw [hr, Nat.add_assoc, Nat.add_sub_cancel_left]; exact Nat.add_comm _ _
      rw [hxi] at hIa hIh
      have hla := rowlen hIa
      have hlh := rowlen hIh
      rw [ptRow_len] at hla hlh
      have hL1 : (nats (ptRow x (i + 1) (r + 1))).length = r + 1 := by rw [List.length_map, ptRow_len]
      have hL0 : (nats (ptRow x i (r + 1 + 1))).length = r + 1 + 1 := by rw [List.length_map, ptRow_len]
      have hLx : (nats x).length = x.length := List.length_map ..
      refine seqQ (fun h => ∃ (Dw : Addr) (kw : Nat), Loc g L1 h [("wider", .ref Dw), ("size", .int ((1 + i : Nat) : Int) ti), ("here", .ref Dh), ("ahead", .ref Da), ("row", .ref D)] ∧ News g L1 h ((Dw, listOf ([] : List Value).toArray kw) :: (I, oI) :: (Dh, listOf uh.toArray kh) :: (Da, listOf ua.toArray ka) :: (D, listOf us.toArray kk) :: news) ∧ ∀ p ∈ (I, oI) :: (Dh, listOf uh.toArray kh) :: (Da, listOf ua.toArray ka) :: (D, listOf us.toArray kk) :: news, p.1 < Dw) ?_ ?_
      · intro Qn hN hRt
        repeat' (k_extra "ks1"; try dsimp only)
        (with_reducible rename _ ∧ _ => l9)
        exact hN _ _ ⟨_, _, by k_extra "lo", by assumption, allLt_mem l9⟩
      intro h6 tk6 hP
      first | (revert hP; intro hx9; k_extra "xe5"; clear hx9; intro Dw kw hx9; (first | (k_extra "xq2"; clear hx9; intro r6 F6) | obtain ⟨r6, F6⟩ := hx9); intro N6 hDw) | obtain ⟨Dw, kw, ⟨r6, F6⟩, N6, hDw⟩ := hP
      dsimp only
      clear F5 N5
      have hDw' : ∀ p ∈ (Dh, listOf uh.toArray kh) :: (Da, listOf ua.toArray ka) :: (D, listOf us.toArray kk) :: news, p.1 ≠ Dw := fun p hp => Nat.ne_of_lt (hDw p (.tail _ hp))
      have hIDw : I ≠ Dw := Nat.ne_of_lt (hDw (I, oI) (.head _))
      refine seqQ (fun h => ∃ (uw : List Value) (kw : Nat), Loc g L1 h [("wider", .ref Dw), ("here", .ref Dh), ("row", .ref D)] ∧ News g L1 h ((Dw, listOf uw.toArray kw) :: (I, oI) :: (Dh, listOf uh.toArray kh) :: (Da, listOf ua.toArray ka) :: (D, listOf us.toArray kk) :: news) ∧ IntsAre uw (nats (ptRow x (i + 2) (r)))) ?_ ?_
      · intro Qn hN hRt
        refine For_invV g (by rfl) (by rfl) ?_
        k_extra "kfor"
        refine forRange0 (n := r) (σ := List Value × Nat) (fun c => (Dw, listOf c.1.toArray c.2) :: (I, oI) :: (Dh, listOf uh.toArray kh) :: (Da, listOf ua.toArray ka) :: (D, listOf us.toArray kk) :: news) (fun c => [("wider", .ref Dw), ("size", .int ((1 + i : Nat) : Int) ti), ("here", .ref Dh), ("ahead", .ref Da), ("row", .ref D)])
          (fun k c => IntsAre c.1 (nats (ptRow x (i + 2) k))) ([], kw) rfl (by assumption) (by rw [List.length_map]; k_extra "li") (by k_extra "li") (by assumption) (by assumption) (by k_extra "kn_all") .nil ?_ ?_
        · intro hx9
          first | (k_extra "xq2"; clear hx9; intro uw kw) | obtain ⟨uw, kw⟩ := hx9
          intro k tk rr h7 tk7 own hk hoff hIw7 F7 N7
          dsimp only at hIw7 F7 N7
          have hlw := rowlen hIw7
          rw [ptRow_len] at hlw
          refine turnQ fun QT hQT _ => ?_
          have hx9 := ls_f hk hr hlen hL1 hL0 hLx
          first | (k_extra "xe8"; clear hx9; intro q1 q2 q3 q4 q5 q6 q7 q8) | obtain ⟨q1, q2, q3, q4, q5, q6, q7, q8⟩ := hx9
          have F7' : Fr g L1 h7 _ := F7
          have N7' : News g L1 h7 _ := N7
          clear F7 N7; try k_sweep
          repeat' (k_extra "ks1"; try dsimp only)
          refine min_three_N rfl (by k_asm) (by k_asm) ?_
          intro h8 tk8 t8 F8 N8
          have e8 : min (min ((nats (ptRow x (i + 1) (r + 1))).getD ((k : Nat) : Int).toNat 0 + 2) ((nats (ptRow x (i + 1) (r + 1))).getD ((k + 1 : Nat) : Int).toNat 0 + 2)) ((nats (ptRow x i (r + 1 + 1))).getD ((k + 1 : Nat) : Int).toNat 0 +
              ((if ((nats x).getD ((k : Nat) : Int).toNat 0 != (nats x).getD ((k + (1 + i) : Nat) : Int).toNat 0) = true then 1 else 0) +
                if (((nats x).getD ((k : Nat) : Int).toNat 0).fdiv 2 != ((nats x).getD ((k + (1 + i) : Nat) : Int).toNat 0).fdiv 2) = true then 1 else 0)) = (pt x (i + 2) k : Int) := by
            generalize hA : (nats x).getD ((k : Nat) : Int).toNat 0 = A1
            generalize hB : (nats x).getD ((k + (1 + i) : Nat) : Int).toNat 0 = B1
            rw [Int.toNat_natCast, nats_get] at hA hB
            subst hA hB
            rw [Int.toNat_natCast, Int.toNat_natCast, ptRow_get (Nat.lt_succ_of_lt hk), ptRow_get (Nat.succ_lt_succ hk), ptRow_get (Nat.succ_lt_succ (Nat.lt_succ_of_lt hk)), ends_eq, pt, show k + i + 1 = k + (1 + i) from by rw [Nat.add_assoc, Nat.add_comm i]]
            rw [nmin, nmin]
            rfl
          rw [e8]
          repeat' (k_extra "ks1"; try dsimp only)
          refine hQT ⟨uw ++ [.int (pt x (i + 2) k : Nat) t8], kw + 1⟩ (by assumption) (by assumption) rfl rfl (by k_extra "kn_all") ?_
          show IntsAre _ (nats (ptRow x (i + 2) (k + 1)))
          rw [ptRow_snoc]
          exact IntsAre.append hIw7 (.cons _ _ .nil)
        · intro hx9
          first | (k_extra "xq2"; clear hx9; intro uw kw) | obtain ⟨uw, kw⟩ := hx9
          intro rr h7 tk7 hIw7 F7 N7
          exact hN _ _ ⟨uw, kw, by k_extra "lo", N7, hIw7⟩
      intro h8 tk8 hP
      first | (revert hP; intro hx9; k_extra "xe5"; clear hx9; intro uw kw8 hx9; (first | (k_extra "xq2"; clear hx9; intro r8 F8) | obtain ⟨r8, F8⟩ := hx9); intro N8 hIw) | obtain ⟨uw, kw8, ⟨r8, F8⟩, N8, hIw⟩ := hP
      clear F6 N6
      dsimp only
      repeat' (k_extra "ks1"; try dsimp only)
      refine mx4 _ _ _ ((Dw, listOf uw.toArray kw8) :: (Dh, listOf uh.toArray kh) :: (D, listOf us.toArray kk) :: news) ⟨rfl, by assumption, News.perm (by assumption) (by k_extra "psub"), ?_, mx6 Dh Dw uh uw kh kw8 ⟨rfl, ?_, by rw [hxi1]; exact hIw, by k_extra "kn_all"⟩⟩
      · refine List.forall_mem_cons.mpr ⟨Ne.symm hIDw, List.forall_mem_cons.mpr ⟨hoff _ (.head _), fun q hq => hoff q (.tail _ (.tail _ hq))⟩⟩
      · rw [hxi1]
        exact hIh
    · intro m₁ nx₁ h5 tk5 hx9
      first | (k_extra "xq10"; clear hx9; intro Da Dh ua uh ka kh eq9; subst eq9; intro hIa hIh hm) | obtain ⟨Da, Dh, ua, uh, ka, kh, rfl, hIa, hIh, hm⟩ := hx9
      intro F5 N5
      rw [show x.length - 1 + 1 = x.length from Nat.sub_add_cancel hpos, show x.length - (x.length - 1) = 1 from Nat.sub_sub_self hpos] at hIh
      obtain ⟨r5, F5'⟩ : Loc g L1 h5 [("here", .ref Dh), ("ahead", .ref Da), ("row", .ref D)] := ⟨m₁, kn F5 hm⟩
      exact hN _ _ ⟨Dh, uh, kh, by k_extra "lo", News.perm N5 (by k_extra "psub"), hIh⟩
  intro h3 tk3 hP
  first | (revert hP; intro hx9; k_extra "xe6"; clear hx9; intro Dh' uh' kh' hx9; (first | (k_extra "xq2"; clear hx9; intro r3 F3) | obtain ⟨r3, F3⟩ := hx9); intro N3 hIh') | obtain ⟨Dh', uh', kh', ⟨r3, F3⟩, N3, hIh'⟩ := hP
  dsimp only
  have hL1 : (nats (ptRow x x.length 1)).length = 1 := by rw [List.length_map, ptRow_len]
  repeat' (k_extra "ks1"; try dsimp only)
  have e0 : (nats (ptRow x x.length 1)).getD (Int.toNat 0) 0 = (pt x x.length 0 : Int) := ptRow_get (by k_extra "li")
  rw [e0]
  exact hret _ _ _ _ (by assumption) (News.perm (by assumption) (by k_extra "psub")) ⟨rfl, _, rfl⟩
end
section
theorem addsz {a b : Nat} (h1 : a ≤ 1000) (h2 : b ≤ 1000) : a + b ≤ sizeLine := by rw [sizeLine_eq]; lia
theorem lsz {vs : List Value} {ns : List Int} (hi : IntsAre vs ns) (h : ns.length ≤ 1000) : vs.toArray.size ≤ sizeLine := by rw [List.size_toArray, hi.length, sizeLine_eq]; lia
theorem fmod2 (i : Nat) : (i : Int).fmod 2 = ((i % 2 : Nat) : Int) := by
  rw [Int.fmod_eq_emod_of_nonneg _ (by decide)]
  simp
theorem fm2_0 {i : Nat} (h : i % 2 = 0) : (i : Int).fmod 2 = 0 := by rw [fmod2, h]; rfl
theorem fm2_1 {i : Nat} (h : i % 2 = 1) : (i : Int).fmod 2 = 1 := by rw [fmod2, h]; rfl
noncomputable def cellOf (tot : Nat) (z : Int) : Nat := (2 + z.fmod (4 + (tot : Int).fmod 2 * 2)).toNat
theorem cell_m (tot : Nat) : (tot : Int).fmod 2 = (tot : Int) % 2 := Int.fmod_eq_emod_of_nonneg _ (by decide)
theorem cell_p (tot : Nat) : (0 : Int) < 4 + (tot : Int).fmod 2 * 2 := by
  rcases Nat.mod_two_eq_zero_or_one tot with h | h
  · rw [fm2_0 h]; decide
  · rw [fm2_1 h]; decide
theorem cell_y (tot : Nat) (z : Int) : ∃ y : Nat, y < 6 ∧ z.fmod (4 + (tot : Int).fmod 2 * 2) = (y : Int) := by
  have h2 := Int.fmod_nonneg_of_pos (a := z) (cell_p tot)
  have h3 := Int.fmod_lt_of_pos (a := z) (cell_p tot)
  have h4 : 4 + (tot : Int).fmod 2 * 2 ≤ 6 := by
    rcases Nat.mod_two_eq_zero_or_one tot with h | h
    · rw [fm2_0 h]; decide
    · rw [fm2_1 h]; decide
  have hx9 := Int.eq_ofNat_of_zero_le h2
  first | (k_extra "xe2"; clear hx9; intro y hy) | obtain ⟨y, hy⟩ := hx9
  exact ⟨y, Int.ofNat_lt.mp (hy ▸ Int.lt_of_lt_of_le h3 h4), hy⟩
theorem cellOf_q (tot : Nat) (z : Int) : 2 ≤ cellOf tot z ∧ cellOf tot z ≤ 7 := by
  unfold cellOf
  have hx9 := cell_y tot z
  first | (k_extra "xe3"; clear hx9; intro y hy e) | obtain ⟨y, hy, e⟩ := hx9
  rw [e]
  exact ⟨Nat.le_add_right 2 y, Nat.add_le_add_left (Nat.le_of_lt_succ hy) 2⟩
theorem cellOf_eq (tot : Nat) (z : Int) : 2 + z.fmod (4 + (tot : Int).fmod 2 * 2) = ((cellOf tot z : Nat) : Int) := by
  unfold cellOf
  have hx9 := cell_y tot z
  first | (k_extra "xe3"; clear hx9; intro y hy e) | obtain ⟨y, hy, e⟩ := hx9
  rw [e]
  rfl
theorem cell_take (tot : Nat) {zs : List Int} {i : Nat} (hi : i < zs.length) : nats ((zs.take (i + 1)).map (cellOf tot)) = nats ((zs.take i).map (cellOf tot)) ++ [((cellOf tot (zs.getD i 0) : Nat) : Int)] := by
  have e6 : zs.take (i + 1) = zs.take i ++ [zs.getD i 0] := by rw [List.take_add_one, List.getElem?_eq_getElem hi]; simp [List.getD, List.getElem?_eq_getElem hi]
  rw [e6]
  unfold nats
  simp only [List.map_append, List.map_cons, List.map_nil]
theorem cell_qs (tot : Nat) (zs : List Int) : Qs (zs.map (cellOf tot)) := fun q hq => by obtain ⟨z, -, rfl⟩ := List.mem_map.mp hq; exact cellOf_q tot z
theorem cell_len (n : Nat) : min (Int.toNat 8) (n + List.length [0, 2, 1, 0, 3, 1, 3, 2]) = 8 := by show min 8 (n + 8) = 8; lia
theorem fbit (tot k : Nat) : ((tot : Int).fdiv (k : Int)).fmod 2 = ((tot / k % 2 : Nat) : Int) := by
  rw [Int.fdiv_eq_ediv_of_nonneg _ (Int.natCast_nonneg _), Int.fmod_eq_emod_of_nonneg _ (by decide)]
  simp
theorem fmod3 (tot : Nat) : (tot : Int).fmod 3 = ((tot % 3 : Nat) : Int) := by
  rw [Int.fmod_eq_emod_of_nonneg _ (by decide)]
  simp
theorem getD_mem {x : List Nat} {i : Nat} (hi : i < x.length) : x.getD i 0 ∈ x := getD_memP hi
theorem mod2_lt (k : Nat) : k % 2 < 2 := Nat.mod_lt _ (by decide)
theorem drawn_pal (hf : List Nat) {b : Nat} (hb : b < 2) : (hf ++ hf.reverse.drop b).reverse = hf ++ hf.reverse.drop b := by
  obtain rfl | rfl : b = 0 ∨ b = 1 := by lia
  · simp
  · cases h : hf.reverse with
    | nil => rw [List.reverse_eq_nil_iff] at h; subst h; rfl
    | cons z r =>
      have e : hf = r.reverse ++ [z] := by rw [← List.reverse_reverse hf, h, List.reverse_cons]
      subst e
      simp
theorem drawn_nats (hf : List Nat) (b : Nat) : nats hf ++ List.drop b (nats hf).reverse = nats (hf ++ hf.reverse.drop b) := by
  unfold nats
  simp only [List.map_append, List.map_drop, List.map_reverse]
noncomputable def ptx (q : Pr) : Str := q.b ++ q.s
noncomputable abbrev sgt (x : List Nat) : List Str := (x.map sg).map fun c => tx [c]
theorem tx_app (a b : List Nat) : tx a ++ tx b = tx (a ++ b) := by
  refine Str.ext' (Array.toList_inj.mp ?_)
  show ((tx a).cps ++ (tx b).cps).toList = _
  simp [tx]
section
variable {l : List Pr} {x : List Nat}
theorem pile_str (h : l.map ptx = sgt x) : Txt.join (Str.ofString "") (l.map fun q => Txt.join (Str.ofString "") [q.b, q.s]) = tx (x.map sg) := by
  rw [show (l.map fun q => Txt.join (Str.ofString "") [q.b, q.s]) = l.map ptx from List.map_congr_left fun q _ => join_pair q.b q.s, h, join_tx]
theorem pile_len (h : l.map ptx = sgt x) : l.length = x.length := by
  have := congrArg List.length h
  simpa using this
theorem pile_one (h : l.map ptx = sgt x) : ∀ q ∈ l, q.b.length + q.s.length = 1 := by
  intro q hq
  have h1 : ptx q ∈ l.map ptx := List.mem_map_of_mem hq
  rw [h] at h1
  have hx9 := List.mem_map.mp h1
  first | (k_extra "xe3"; clear hx9; intro c _ hc) | obtain ⟨c, _, hc⟩ := hx9
  have h2 : (ptx q).length = q.b.length + q.s.length := PySem.Str.length_append q.b q.s
  rw [← h2, ← hc, tx_len]
  rfl
theorem pile_small (h : l.map ptx = sgt x) : ∀ q ∈ l, q.b.length ≤ 1000 ∧ q.s.length ≤ 1000 := by
  intro q hq
  have := pile_one h q hq
  lia
theorem pile_sum (h : l.map ptx = sgt x) : (l.map fun q => q.b.length + q.s.length).sum = x.length := by
  rw [← pile_len h]
  have h1 := pile_one h
  clear h
  induction l with
  | nil => rfl
  | cons q r ih =>
    rw [List.map_cons, List.sum_cons, h1 q (.head _), ih fun p hp => h1 p (.tail _ hp), List.length_cons]
    lia
theorem pile_snoc {i : Nat} {q : Pr} (h : l.map ptx = sgt (x.take i)) (hi : i < x.length) (hq : ptx q = tx [sg (x.getD i 0)]) : (l ++ [q]).map ptx = sgt (x.take (i + 1)) := by
  rw [List.map_append, h, take_snocN hi, sgt, sgt, List.map_append, List.map_append]
  simp [hq]
theorem pile_cut {y : List Nat} {c : Nat} (h : l.map ptx = sgt (y ++ [c])) : ∃ l' q, l = l' ++ [q] ∧ l'.map ptx = sgt y ∧ ptx q = tx [sg c] := by
  have hn : l ≠ [] := by
    rintro rfl
    have := congrArg List.length h
    simp at this
  refine ⟨l.dropLast, l.getLast hn, (List.dropLast_concat_getLast hn).symm, ?_⟩
  rw [← List.dropLast_concat_getLast hn, sgt, List.map_append, List.map_append, List.map_append] at h
  have := List.append_inj' h (by simp)
  refine ⟨?_, ?_⟩
  · simpa using this.1
  · simpa using this.2
theorem piece_tx (c k : Nat) : tx (List.take k [c]) ++ tx (List.drop k [c]) = tx [c] := by rw [tx_app, List.take_append_drop]
end
theorem tbs0 {h₀ h : Heap} {L : Addr} {news rest : CbLed} (N : News h₀ L h news) (h1 : ((51, tabObj #[]) : Addr × Obj) ∈ news) (h2 : ((58, tabObj #[]) : Addr × Obj) ∈ news) (hs : ∀ p ∈ rest, p ∈ news) (n1 : NoTab 51 rest) (n2 : NoTab 58 rest) : Tbs [(51, tabObj #[])] [(58, tabObj #[])] rest := by
  have a1 := tab_ne N h1 hs n1
  have a2 := tab_ne N h2 hs n2
  refine ⟨.inl rfl, .inl rfl, fun p hp q hq => ?_, fun p hp q hq => ?_⟩
  · rw [List.mem_singleton.mp hp]
    rcases List.mem_append.mp hq with hq | hq
    · rw [List.mem_singleton.mp hq]; exact (by decide)
    · exact a1 q hq
  · rw [List.mem_singleton.mp hp]
    exact a2 q hq
section
variable {prog : Program} {w : World} {A : Around} {E : Value → Shared → Prop} {s : Shared} {env : Env} {h₀ : Heap} {body : List Stmt} {Q : Flow → Shared → Prop}
theorem enumG {elts : List Expr} {k : Nat} {pos : Pos} {l : Addr} {lo : Obj} {us : List Value} {n : Nat} {m₀ : Str → Option Value} {nx₀ : CbLed} (J : Nat → (Str → Option Value) → CbLed → Prop)
    (hh : A.handled = none) (F : Fr h₀ env.locals s.heap m₀) (N : News h₀ env.locals s.heap ((l, lo) :: nx₀)) (hc : lo.cls = .type "list") (hd : lo.data = .seq us.toArray n) (h0 : J 0 m₀ nx₀)
    (turn : ∀ (I : Addr) (i : Nat) (v : Value) (T : Addr) (t : Tok) (h : Heap) (tk : Nat) (m : Str → Option Value) (nx : CbLed) (oe oi : Obj) (QT : Flow → Shared → Prop), i < us.length → us[i]? = some v → J i m nx → IsTup h T #[.int (i : Int) t, v] → Fr h₀ env.locals h m → oe.cls = .type "enumerate" → oi.cls = .type "list_iterator" →
      News h₀ env.locals h ((I + 1, oe) :: (I, oi) :: (l, lo) :: nx) → (∀ p ∈ (l, lo) :: nx, p.1 ≠ I ∧ p.1 ≠ I + 1) →
      (∀ h' tk' m' nx', Fr h₀ env.locals h' m' → News h₀ env.locals h' ((I + 1, oe) :: (I, oi) :: (l, lo) :: nx') → (∀ p ∈ nx', p.1 ≠ I ∧ p.1 ≠ I + 1) → J (i + 1) m' nx' → QT .next { s with heap := h', toks := tk' }) →
      wpAny (model prog w) A (assign (.Tuple elts k pos) env (.ref T)) (fun _ s₂ => wpAny (model prog w) A (execs body env) QT E s₂) E { s with heap := h, toks := tk })
    (done : ∀ m nx h tk, J us.length m nx → Fr h₀ env.locals h m → News h₀ env.locals h ((l, lo) :: nx) → Q .next { s with heap := h, toks := tk }) :
    wpAny (model prog w) A (call (.type "enumerate") [.ref l]) (fun xv s₁ => wpAny (model prog w) A (pyIter xv) (fun it s₂ => TurnsAt prog w A h₀ env (.Tuple elts k pos) body Q E it s₂) E s₁) E s := by
  refine ktu_enum hh F N (.head _) hc hd rfl (fun I hI => ?_)
  have key : ∀ (r : List Value) (i : Nat) (m : Str → Option Value) (nx : CbLed), i + r.length = us.length → us.drop i = r → J i m nx → (∀ p ∈ (l, lo) :: nx, p.1 ≠ I ∧ p.1 ≠ I + 1) →
      ItemsRest prog w A E h₀ env (.Tuple elts k pos) body Q s [(I + 1, "enumerate"), (I, "list_iterator")] [(l, lo)] (enumItems i r) m ((l, lo) :: nx) := by
    intro r
    induction r with
    | nil =>
      intro i m nx hi _ hJ _
      obtain rfl : i = us.length := hi
      exact ItemsRest.zero fun h tk F' N' => done m nx h tk hJ F' N'
    | cons v r ih =>
      intro i m nx hi hr hJ hoff
      have hlt : i < us.length := by rw [List.length_cons] at hi; lia
      have hv : us[i]? = some v := by
        have e := congrArg (fun z => z[0]?) hr
        simpa using e
      have hr' : us.drop (i + 1) = r := by
        have e := congrArg List.tail hr
        simpa using e
      refine ItemsRest.pair fun T t h tk ht F' => AllObj.cons fun oe he => AllObj.cons fun oi hoi => AllObj.nil fun N' => ?_
      refine turn I i v T t h tk m nx oe oi _ hlt hv hJ ht F' he hoi N' hoff fun h' tk' m' nx' F2 N2 hof2 hJ2 => ?_
      refine ⟨h', tk', m', (l, lo) :: nx', rfl, F2, N2, ?_, ⟨.head _, trivial⟩, ih (i + 1) m' nx' (by rw [List.length_cons] at hi; lia) hr' hJ2 ?_⟩
      · intro p hp q hq
        have hp' : p.1 ≠ I ∧ p.1 ≠ I + 1 := by
          rcases List.mem_cons.mp hp with rfl | hp
          · exact hoff _ (.head _)
          · exact hof2 p hp
        rcases List.mem_cons.mp hq with rfl | hq
        · exact hp'.2
        · rw [List.mem_singleton.mp hq]; exact hp'.1
      · intro p hp
        rcases List.mem_cons.mp hp with rfl | hp
        · exact hoff _ (.head _)
        · exact hof2 p hp
  exact key us 0 m₀ nx₀ (Nat.zero_add _) rfl h0 fun p hp => ⟨Nat.ne_of_lt (hI p hp), Nat.ne_of_lt (Nat.lt_succ_of_lt (hI p hp))⟩
end
def NA (x : Addr) (p : Addr × Obj) : Prop := NotAcc p ∨ @Ne Nat p.1 x
theorem na_i {h₀ h : Heap} {L x dx : Addr} {n : Nat} {its : Array Value} {news all : List (Addr × Obj)} (N : News h₀ L h all) (hx : (x, lstObj 157 dx its n) ∈ all) (hs : ∀ p ∈ news, p ∈ all) (hc : ∀ p ∈ news, NA x p) : NoAcc x news := fun p hp e => by
  rcases hc p hp with hc | hc
  · exact apart_acc (news := [p]) N hx (fun q hq => by rw [List.mem_singleton.mp hq]; exact hs p hp) (fun q hq => by rw [List.mem_singleton.mp hq]; exact hc) p (.head _) e
  · exact hc e
theorem na_tups (x : Addr) (l : List Pr) : ∀ p ∈ tups l, NA x p := fun p hp => .inl (notAcc_tups l p hp)
theorem na_tab {x P : Addr} {line col : Nat} {qual : Str} {own : List (Addr × Obj)} (T : TbM P line col qual own) : ∀ p ∈ own, NA x p := fun p hp => .inl (notAcc_tab T p hp)
theorem na_ne {x a : Addr} {o : Obj} (h : @Ne Nat a x) : NA x (a, o) := .inr h
theorem na_ne' {x a : Addr} {o : Obj} (h : @Ne Nat x a) : NA x (a, o) := .inr (Ne.symm h)
theorem na_c {x a : Addr} {o : Obj} (h : o.cls ≠ .ref 157) : NA x (a, o) := .inl (.inl h)
theorem na_cell {x a : Addr} {o : Obj} {v : Option Value} (h : o.data = .cell v) : NA x (a, o) := .inl (notAcc_cell h)
theorem na_cls {x a : Addr} {o : Obj} {t : String} (h : o.cls = .type t) : NA x (a, o) := .inl (.inl fun e => by rw [h] at e; cases e)
theorem own_nt {own1 own2 : CbLed} (T : TbsM own1 own2 [(119, tabObj #[]), (126, tabObj #[])]) : NoTab 119 (own1 ++ own2) ∧ NoTab 126 (own1 ++ own2) :=
  ⟨fun p hp => .inr (Ne.symm (T.offs p hp (119, tabObj #[]) (.head _))), fun p hp => .inr (Ne.symm (T.offs p hp (126, tabObj #[]) (.tail _ (.head _))))⟩
theorem nt_tups (P : Nat) (l : List Pr) : NoTab P (tups l) := fun p hp => .inl (by rw [tups_cls hp]; exact fun e => by cases e)
theorem nt_gt {P a : Nat} {o : Obj} (h : P < a) : ((a, o) : Addr × Obj).2.cls ≠ .none ∨ @Ne Nat ((a, o) : Addr × Obj).1 P := .inr (Nat.ne_of_gt h)
theorem nt_c {P : Nat} {p : Addr × Obj} (h : p.2.cls ≠ .none) : p.2.cls ≠ .none ∨ @Ne Nat p.1 P := .inl h
theorem nt_cls {P : Nat} {a : Addr} {o : Obj} {t : String} (h : o.cls = .type t) : ((a, o) : Addr × Obj).2.cls ≠ .none ∨ @Ne Nat ((a, o) : Addr × Obj).1 P := .inl fun e => by rw [show ((a, o) : Addr × Obj).2.cls = o.cls from rfl, h] at e; cases e
section
variable {x : List Nat} {i : Nat}
theorem half_ev (h : i % 2 = 0) : (i + 1) / 2 = i / 2 := by lia
theorem half_od (h : i % 2 = 1) : (i + 1) / 2 = i / 2 + 1 := by lia
theorem lefts_ev {n : Nat} (h : i % 2 = 0) : n - i / 2 = lefts n i := by unfold lefts; rw [half_ev h]
theorem lefts_od (h : i % 2 = 1) (hi : i < 2 * x.length) : x.length - i / 2 = lefts x.length i + 1 ∧ lefts x.length i < x.length := by
  unfold lefts
  rw [half_od h]
  have h1 : i / 2 < x.length := Nat.div_lt_of_lt_mul hi
  have hx9 := Nat.exists_eq_add_of_lt h1
  first | (k_extra "xe2"; clear hx9; intro k hk) | obtain ⟨k, hk⟩ := hx9
  rw [hk, Nat.add_assoc, Nat.add_sub_cancel_left, Nat.add_comm k 1, ← Nat.add_assoc, Nat.add_sub_cancel_left]
  exact ⟨Nat.add_comm 1 k, Nat.lt_of_lt_of_le (Nat.lt_succ_self k) (by rw [Nat.add_assoc, Nat.add_comm 1 k]; exact Nat.le_add_left _ _)⟩
theorem take_odd (h : i % 2 = 1) (hi : i < 2 * x.length) : x.take (x.length - i / 2) = x.take (lefts x.length i) ++ [x.getD (lefts x.length i) 0] := by
  rw [(lefts_od h hi).1]
  exact take_snocN (lefts_od h hi).2
theorem drop_odd (h : i % 2 = 1) (hi : i < 2 * x.length) : (x.drop (x.length - (i + 1) / 2)).reverse = (x.drop (x.length - i / 2)).reverse ++ [x.getD (lefts x.length i) 0] := by
  have e : x.length - (i + 1) / 2 = lefts x.length i := rfl
  have h2 := (lefts_od h hi).2
  rw [(lefts_od h hi).1, e, ← List.reverse_cons]
  congr 1
  rw [List.drop_eq_getElem_cons h2]
  simp [List.getD, h2]
theorem drop_ev (h : i % 2 = 0) : x.drop (x.length - (i + 1) / 2) = x.drop (x.length - i / 2) := by rw [half_ev h]
theorem best_lt (h : stpC x i < (best x i).1) : best x (i + 1) = (stpC x i, lefts x.length i, x.length - i / 2) := by rw [best, if_pos h]
theorem best_ge (h : ¬ stpC x i < (best x i).1) : best x (i + 1) = best x i := by rw [best, if_neg h]
theorem len_lefts : (x.take (lefts x.length i)).length = lefts x.length i := by rw [List.length_take]; exact Nat.min_eq_left (Nat.sub_le _ _)
theorem half_i (hi : i < 2 * x.length) : (x.length : Int) - (i : Int).fdiv 2 = ((x.length - i / 2 : Nat) : Int) := by
  rw [Int.fdiv_eq_ediv_of_nonneg _ (by decide)]
  exact (Int.ofNat_sub (Nat.le_of_lt (Nat.div_lt_of_lt_mul hi))).symm
end
theorem pile_add {l : List Pr} {y : List Nat} {q : Pr} {c : Nat} (h : l.map ptx = sgt y) (hq : ptx q = tx [sg c]) : (l ++ [q]).map ptx = sgt (y ++ [c]) := by
  rw [List.map_append, h, sgt, sgt, List.map_append, List.map_append]
  simp [hq]
theorem low_bnd {x : List Nat} (hq : Qs x) (h5 : x.length ≤ 5) : 0 < (kp x).1 ∧ (kp x).1 ≤ 32768 ∧ (kp x).2 ≤ 32768 ∧ (kp x.reverse).2 ≤ 32768 := by
  have h1 := kp_le hq
  have h2 := kp_lt hq
  have h3 := kp_lt hq.rev
  have h4 := kp_rev_fst x
  have h6 : 8 ^ x.length ≤ 8 ^ 5 := Nat.pow_le_pow_right (by decide) h5
  lia
theorem low_abs (n : Nat) {l o : Nat} (hl : l ≤ 32768) (ho : o ≤ 32768) : -(2 ^ 40) < (2 * (n : Int).fmod 2 - 1) * (l : Int) * (o : Int) ∧ (2 * (n : Int).fmod 2 - 1) * (l : Int) * (o : Int) < 2 ^ 40 := by
  have h1 : l * o ≤ 32768 * 32768 := Nat.mul_le_mul hl ho
  have h2 : (l : Int) * (o : Int) = ((l * o : Nat) : Int) := by simp
  rcases Nat.mod_two_eq_zero_or_one n with h | h
  · rw [fm2_0 h, show (2 * 0 - 1 : Int) = -1 from rfl, Int.neg_mul, Int.one_mul, Int.neg_mul, h2]
    lia
  · rw [fm2_1 h, show (2 * 1 - 1 : Int) = 1 from rfl, Int.one_mul, h2]
    lia
theorem lows' {x : List Nat} (h : Qs x) (hx : 0 < x.length) : ((2 * ((x.length : Int).fmod 2) - 1) * ((kp x).2 : Int) * ((kp x.reverse).2 : Int)) % ((kp x).1 : Int) = 1 := by
  rw [show (x.length : Int).fmod 2 = (x.length : Int) % 2 from Int.fmod_eq_emod_of_nonneg _ (by decide)]
  exact lows h (List.ne_nil_of_length_pos hx)
theorem fbit_b (tot k : Nat) : 0 ≤ ((tot : Int).fdiv (k : Int)).fmod 2 ∧ ((tot : Int).fdiv (k : Int)).fmod 2 < 2 := by
  rw [fbit]
  have := mod2_lt (tot / k)
  lia
structure NearOk (x : List Nat) (ls ah : Nat) (nr : List Nat) : Prop where
  q : Qs nr
  p : 0 < nr.length
  l : nr.length ≤ 10
  d : ed scq x nr = ls
  m : nr.reverse = nr
  h : HalfOk x ah nr
theorem near_1 {x : List Nat} {ls ah bh : Nat} (F : Found x ls ah bh) (h : Qs x) (h5 : x.length ≤ 5) : NearOk x ls ah (near1 x ah bh) := by
  have hx9 := near1_qs F h
  first | (k_extra "xe3"; clear hx9; intro a b c) | obtain ⟨a, b, c⟩ := hx9
  exact ⟨a, b, by lia, near1_at F, near1_pal F, near1_half F h⟩
theorem near_2 {x : List Nat} {ls ah bh : Nat} (F : Found x ls ah bh) (h : Qs x) (h5 : x.length ≤ 5) : NearOk x ls ah (near2 x ah bh) := by
  have hx9 := near2_qs F h
  first | (k_extra "xe3"; clear hx9; intro a b c) | obtain ⟨a, b, c⟩ := hx9
  exact ⟨a, b, by lia, near2_at F, near2_pal F, near2_half F h⟩
theorem nats_near1 (x : List Nat) (a b : Nat) : List.take b (nats x) ++ (List.take a (nats x)).reverse = nats (near1 x a b) := by
  unfold nats near1
  simp only [List.map_append, List.map_take, List.map_reverse]
theorem nats_near2 (x : List Nat) (a b : Nat) : (List.drop b (nats x)).reverse ++ List.drop a (nats x) = nats (near2 x a b) := by
  unfold nats near2
  simp only [List.map_append, List.map_drop, List.map_reverse]
theorem kp_small {nr : List Nat} (hq : Qs nr) (hl : nr.length ≤ 10) : (kp nr).1 < 2 ^ 40 ∧ (kp nr).2 < 2 ^ 40 := by
  have h1 := kp_le hq
  have h2 := kp_lt hq
  have h6 : 8 ^ nr.length ≤ 8 ^ 10 := Nat.pow_le_pow_right (by decide) hl
  lia
theorem kp_drop {nr : List Nat} {i : Nat} (hq : Qs nr) (hi : i < nr.length) : (kp (nr.drop (i + 1))).1 = (kp (nr.drop i)).2 ∧ (kp (nr.drop (i + 1))).2 = (kp (nr.drop i)).1 % (kp (nr.drop i)).2 ∧ 0 < (kp (nr.drop i)).2 := by
  have e2 : nr.drop i = nr.getD i 0 :: nr.drop (i + 1) := by
    rw [List.drop_eq_getElem_cons hi]
    simp [List.getD, hi]
  have h1 := kp_step (q := nr.getD i 0) (hq.drop (i + 1))
  have h2 := kp_pos (hq.drop (i + 1))
  rw [← e2] at h1
  have h3 : (kp (nr.drop i)).2 = (kp (nr.drop (i + 1))).1 := by rw [e2, kp]
  exact ⟨h3.symm, h1.2.symm, by rw [h3]; exact h2⟩
theorem TbsM.more {own1 own2 news add : CbLed} (T : TbsM own1 own2 news) (h : ∀ p ∈ own1 ++ own2, ∀ q ∈ add, q.1 ≠ p.1) : TbsM own1 own2 (news ++ add) :=
  ⟨T.1, T.2.1, by
    have := Off.more T.2.2.1 (add := add) fun p hp q hq => h p (List.mem_append_left _ hp) q hq
    rwa [List.append_assoc] at this, Off.more T.2.2.2 fun p hp q hq => h p (List.mem_append_right _ hp) q hq⟩
section
variable {prog : Program} {w : World} {A : Around} {s : Shared} {env : Env} {h₀ : Heap}
theorem forListN {Q : Flow → Shared → Prop} {x : Str} {px pos : Pos} {iter : Expr} {body : List Stmt} (h₀ : Heap) (hx : env.kindOf x = some .local) (hp : (env.scope.kind == .class || (env.scope.kind == .module && env.locals != env.globals)) = false)
    (h : wpAny (model prog w) A (eval iter env) (fun xv s₁ => ∃ (J : Nat → (Str → Option Value) → List (Addr × Obj) → Prop) (ax : Addr) (us : List Value) (k : Nat) (m : Str → Option Value) (nx : List (Addr × Obj)), xv = .ref ax ∧ A.handled = none ∧ Fr h₀ env.locals s₁.heap m ∧ News h₀ env.locals s₁.heap (nx ++ [(ax, listOf us.toArray k)]) ∧ AllBare s₁.gens ∧ J 0 m nx ∧
      (∀ (i : Nat) (v : Value) (m₁ : Str → Option Value) (nx₁ : List (Addr × Obj)) (s₂ : Shared) (I : Addr) (oI : Obj), i < us.length → us[i]? = some v → J i m₁ nx₁ → s₂.os = s₁.os → AllBare s₂.gens → Fr h₀ env.locals s₂.heap (fun y => if y = x then some v else m₁ y) → News h₀ env.locals s₂.heap (nx₁ ++ [(I, oI), (ax, listOf us.toArray k)]) → oI.cls = .type "list_iterator" → (∀ q ∈ nx₁ ++ [(ax, listOf us.toArray k)], q.1 ≠ I) →
        wpAny (model prog w) A (execs body env) (TurnG (TurnEnd h₀ env.locals (J (i + 1)) I [(I, oI), (ax, listOf us.toArray k)] s₁.os) Q) NoE s₂) ∧
      (∀ (m₁ : Str → Option Value) (nx₁ : List (Addr × Obj)) (s₂ : Shared), J us.length m₁ nx₁ → s₂.os = s₁.os → AllBare s₂.gens → Fr h₀ env.locals s₂.heap m₁ → News h₀ env.locals s₂.heap (nx₁ ++ [(ax, listOf us.toArray k)]) → Q .next s₂)) NoE s)
    (hs : ∀ x, foldedSetIterable iter env x = pure x) :
    wpAny (model prog w) A (exec (.For (.Name x px) iter body [] pos) env) Q NoE s := by
  refine wpAny_For (wpAny_mono h (fun xv s₁ h₁ => ?_) fun _ _ e => e) hs
  first | (revert h₁; intro hx9; k_extra "xe14"; clear hx9; intro J ax us k m nx eq9; subst eq9; intro hh F N G h0 turn done) | obtain ⟨J, ax, us, k, m, nx, rfl, hh, F, N, G, h0, turn, done⟩ := h₁
  have hax := N (ax, listOf us.toArray k) (List.mem_append_right _ (.head _))
  have hl : s₁.heap.IsList ax us.toArray := ⟨_, hax.1, rfl, _, rfl⟩
  refine wpAny_pyIter_list hl ?_
  have hI₀ : h₀.get? s₁.heap.objs.size = none := next_is_new F
  have hIL : s₁.heap.objs.size ≠ env.locals := fun e => absurd F.ns.lt (e ▸ Nat.lt_irrefl _)
  have hne : ax ≠ s₁.heap.objs.size := Nat.ne_of_lt (Heap.lt_size hax.1)
  have hsz : us.toArray.size = us.length := by simp
  refine loopG (own := [(ax, listOf us.toArray k)]) (fs := [ax]) (J := J) (m := m) (nx := nx) (Walks.list hh s₁.heap.objs.size ax hne us.toArray) (.type "list_iterator") (fun i h st => ?_) (fun b hb => ⟨listOf us.toArray k, by rw [List.mem_singleton.mp hb]; exact .head _⟩) hI₀ hIL (fun i s' v Q' st hq => ?_) ⟨⟨_, Heap.get?_push_size _ rfl, rfl, rfl⟩, hl.push _⟩ (F.push _)
    (fun p hp => ⟨Heap.get?_push_of_some _ (N p hp).1, (N p hp).2⟩) (fun q hq e => ?_) G h0 ?_ ?_
  · first | (revert st; intro hx9; k_extra "xe2"; clear hx9; intro hx9; (first | (k_extra "xq4"; clear hx9; intro o ho hc hd) | obtain ⟨o, ho, hc, hd⟩ := hx9); intro _) | obtain ⟨⟨o, ho, hc, hd⟩, _⟩ := st
    exact ⟨o, ho, hc, _, hd⟩
  · first | (revert st; intro hx9; k_extra "xe2"; clear hx9; intro hx9; (first | (k_extra "xq4"; clear hx9; intro o ho hc hd) | obtain ⟨o, ho, hc, hd⟩ := hx9); intro _) | obtain ⟨⟨o, ho, hc, hd⟩, _⟩ := st
    exact wpAny_pure hq
  · exact absurd (Heap.lt_size (N q hq).1) (e ▸ Nat.lt_irrefl _)
  · intro i v m₁ nx₁ s₂ oI hi hP hJ hos hG F₂ N₂ hIc hoff
    rw [hsz] at hi
    refine wpAny_assign_Name (wpAny_storeName_local hx F₂.ns (fun h₂ hn₂ hs₂ => ?_) hp)
    exact turn i v m₁ nx₁ _ _ oI hi (by simpa using hP) hJ hos hG (F₂.set hn₂ hs₂) (N₂.set hs₂) hIc hoff
  · intro m₁ nx₁ s₂ hJ hos hG F₂ N₂
    rw [hsz] at hJ
    exact done m₁ nx₁ s₂ hJ hos hG F₂ N₂
end
end
section
local macro_rules | `(tactic| l_idx) => `(tactic| k_extra "lidx")
local macro_rules | `(tactic| k_ne) => `(tactic| k_extra "kne")
local macro_rules | `(tactic| ktr_room) => `(tactic| k_extra "kroom")
local macro_rules | `(tactic| ktr_units) => `(tactic| k_extra "kunits")
local macro_rules | `(tactic| k_all) => `(tactic| k_extra "kall")
local macro_rules | `(tactic| k_inst) => `(tactic| k_extra "kinst")
local macro_rules | `(tactic| walk_at "setAttr ref") => `(tactic| (k_here; k_dflt (refine' set_dictL ?k1 ?k2 ?k3 ?k4 ?k5 ?k6 (acc_mro _) ?k8 ?k9 ?k10 ?k11 ?k12 ?k13 ?_; (case k1 => k_asm); (case k2 => k_asm); (case k3 => k_asm); (case k4 => k_inst); (case k5 => exact rfl); (case k6 => k_is); (case k8 => k_is); (case k9 => k_is); (case k10 => k_get); (case k11 => k_put); (case k12 => k_upd); (case k13 => exact Nat.le_of_ble_eq_true rfl); k_whole; intro h' F' N')))
theorem lbend {w : World} {loose : List Str} {mean : ExcName → Option Value} {mg mb : Str → Option Value} {g : Heap} (L : Addr) (fa : Addr) (cd : Value) (l : Addr) (vs : List Value) (ns : List Int) (C : LawCtx w loose mean mg mb g L l vs ns) (o1 : Obj) (cl : List Nat) (Dr : Addr) (ur : List Value) (kr : Nat) (x : List Nat) (hrq : Qs x) (hr5 : x.length ≤ 5) (hf : List Nat) (Dd : Addr) (ud : List Value) (kd : Nat) (p : List Nat) (hdI : IntsAre ud (nats p)) (hdq : Qs p) (hdp : p.reverse = p) (hd6 : p.length ≤ 6) (own1 : CbLed) (own2 : CbLed) (hTb : TbsM own1 own2 [(119, tabObj #[]), (126, tabObj #[])]) (tt1 : Tok) (ls : Nat) (ah : Nat) (bh : Nat) (sl : Tok) (sa : Tok) (sb : Tok) (hF : Found x ls ah bh) (tm : Tok) (pm : Array Value) (p9 : Array Value) (PP : Unit) : ∀ (s : Shared), AllBare s.gens → Loc g L s.heap [("mirror", .str (tx (x.reverse.map sg)) tm), ("behind", .int ((bh) : Nat) sb), ("ahead", .int ((ah) : Nat) sa), ("least", .int ((ls) : Nat) sl), ("text", .str (tx (x.map sg)) tt1), ("drawn", .ref Dd), ("row", .ref Dr)] → News g L s.heap ((119, tabObj p9) :: (126, tabObj pm) :: (Dr, listOf ur.toArray kr) :: (Dd, listOf ud.toArray kd) :: (L + 1, o1) :: (own1 ++ own2)) →
    wpAny (model PySem.Challenge.rw_sr0059_02.row.prog w) (callerA.deeper (LEnv L fa cd)) (execs [lawStmt 20] (LEnv L fa cd)) (LawEnd g [(62, 58), (55, 51), (123, 119), (130, 126)] s.os) NoE s := by
  have X := C.X
  have T := C.T
  have B := C.B
  have k1 := C.k1
  have k2 := C.k2
  have k3 := C.k3
  have k4 := C.k4
  have hI := C.hI
  have lifted := C.lifted
  have hns := C.hns
  have l0 := C.l0
  have kcd : CdH g := ⟨k2, k1⟩
  clear C
  refine end_mk (show lawStmt 20 = _ from (by conv => lhs; whnf)) ?_
  intro h0 gg dr tk oo G ⟨r, F⟩ N
  have k5 := G
  repeat' ((fail_if_success (with_reducible show PySem.wpAny _ _ (call (.ref 180) _) _ _ _)); k_extra "ks1"; try dsimp only)
  replace N := News.perm N (news' := (Dd, listOf (ud).toArray kd) :: ((119, tabObj p9) :: (126, tabObj pm) :: (Dr, listOf ur.toArray kr) :: (L + 1, o1) :: (own1 ++ own2))) (by k_extra "psub")
  (k_dflt (refine' Cl.use (signs_c _ _ _ _ _ (((119, tabObj p9) :: (126, tabObj pm) :: (Dr, listOf ur.toArray kr) :: (L + 1, o1) :: (own1 ++ own2))) Dd ud kd p ?q1 ?q2 ?q3) ?k1 ?k2 ?k3 ?k4 ?k5 ?kK ?kd ?ku ?_; k_extra "cl_use"))
  case q1 => exact hdq
  case q2 => k_extra "li"
  case q3 => exact hdI
  intro r nx h5 tk5 Fa Na hR
  first | (revert hR; intro hx9; k_extra "xe2"; clear hx9; intro e5 hx9; (first | (k_extra "xq2"; clear hx9; intro tsa e6) | obtain ⟨tsa, e6⟩ := hx9)) | obtain ⟨e5, ⟨tsa, e6⟩⟩ := hR
  subst e5
  subst e6
  dsimp only
  repeat' ((fail_if_success (with_reducible show PySem.wpAny _ _ (call (.ref 35) _) _ _ _)); k_extra "ks1"; try dsimp only)
  (k_dflt (refine' Cl.use (lev_c _ _ _ _ _ ((Dd, listOf ud.toArray kd) :: (119, tabObj p9) :: (126, tabObj pm) :: (Dr, listOf ur.toArray kr) :: (L + 1, o1) :: (own1 ++ own2)) _ _ _ _ _ _ ?q1 ?q2) ?k1 ?k2 ?k3 ?k4 ?k5 ?kK ?kd ?ku ?_; k_extra "cl_use"))
  case q1 => rw [List.length_map]; k_extra "li"
  case q2 => rw [List.length_map]; k_extra "li"
  intro r nx h8 tk8 Fb Nb hR
  first | (revert hR; intro hx9; k_extra "xe2"; clear hx9; intro e8 hx9; (first | (k_extra "xq2"; clear hx9; intro t8 e9) | obtain ⟨t8, e9⟩ := hx9)) | obtain ⟨e8, ⟨t8, e9⟩⟩ := hR
  subst e8
  subst e9
  dsimp only
  have hdr := chk_drawn hF hrq hdq (by k_extra "li") (by k_extra "li") hdp
  k_extra "kd"
  rw [decide_eq_true hdr]
  have hx9 := hTb.1
  first | (k_extra "xe6"; clear hx9; intro y1 y2 y3 y4 eo1 _) | obtain ⟨y1, y2, y3, y4, eo1, _⟩ := hx9
  have hx9 := hTb.2.1
  first | (k_extra "xe6"; clear hx9; intro z1' z2' z3' z4' eo2 _) | obtain ⟨z1', z2', z3', z4', eo2, _⟩ := hx9
  have hm1 : ((51, tabObj #[rawInt 83, rawInt 4, .ref y1]) : Addr × Obj) ∈ own1 := by rw [eo1]; exact .tail _ (.head _)
  have hm2 : ((58, tabObj #[rawInt 98, rawInt 4, .ref z1']) : Addr × Obj) ∈ own2 := by rw [eo2]; exact .tail _ (.head _)
  refine ⟨rfl, fun b o e => Fb.keep b o e, rfl, ⟨⟨_, (Nb (58, tabObj #[rawInt 98, rawInt 4, .ref z1']) ?_).1⟩, ⟨_, (Nb (51, tabObj #[rawInt 83, rawInt 4, .ref y1]) ?_).1⟩, ⟨_, (Nb (119, tabObj p9) ?_).1⟩, ⟨_, (Nb (126, tabObj pm) ?_).1⟩, trivial⟩, G⟩
  · k_extra "sbm"
  · k_extra "sbm"
  · k_extra "sbm"
  · k_extra "sbm"
end
section
local macro_rules | `(tactic| l_idx) => `(tactic| k_extra "lidx")
local macro_rules | `(tactic| k_ne) => `(tactic| k_extra "kne")
local macro_rules | `(tactic| ktr_room) => `(tactic| k_extra "kroom")
local macro_rules | `(tactic| ktr_units) => `(tactic| k_extra "kunits")
local macro_rules | `(tactic| k_all) => `(tactic| k_extra "kall")
local macro_rules | `(tactic| k_inst) => `(tactic| k_extra "kinst")
local macro_rules | `(tactic| walk_at "setAttr ref") => `(tactic| (k_here; k_dflt (refine' set_dictL ?k1 ?k2 ?k3 ?k4 ?k5 ?k6 (acc_mro _) ?k8 ?k9 ?k10 ?k11 ?k12 ?k13 ?_; (case k1 => k_asm); (case k2 => k_asm); (case k3 => k_asm); (case k4 => k_inst); (case k5 => exact rfl); (case k6 => k_is); (case k8 => k_is); (case k9 => k_is); (case k10 => k_get); (case k11 => k_put); (case k12 => k_upd); (case k13 => exact Nat.le_of_ble_eq_true rfl); k_whole; intro h' F' N')))
theorem lb0 {w : World} {loose : List Str} {mean : ExcName → Option Value} {mg mb : Str → Option Value} {g : Heap} (L : Addr) (fa : Addr) (cd : Value) (l : Addr) (vs : List Value) (ns : List Int) (C : LawCtx w loose mean mg mb g L l vs ns) (c1 : Obj) (d1 : c1.data = .cell none) :
    Blk w g L fa cd (lawStmt 0) [("script", .ref l)] [(L + 1, c1), (58, tabObj #[]), (51, tabObj #[]), (119, tabObj #[]), (126, tabObj #[])]
      (fun R => ∀ (h : Heap) (tot : Nat) (tt : Tok) (o1 : Obj), o1.data = .cell (some (.int (tot : Int) tt)) → Loc g L h [("script", .ref l)] → News g L h [(L + 1, o1), (58, tabObj #[]), (51, tabObj #[]), (119, tabObj #[]), (126, tabObj #[])] → R h) := by
  have X := C.X
  have T := C.T
  have B := C.B
  have k1 := C.k1
  have k2 := C.k2
  have k3 := C.k3
  have k4 := C.k4
  have hI := C.hI
  have lifted := C.lifted
  have hns := C.hns
  have l0 := C.l0
  have kcd : CdH g := ⟨k2, k1⟩
  clear C
  refine blk_mk (show lawStmt 0 = _ from (by conv => lhs; whnf)) ?_
  intro h0 gg dr tk oo Q G ⟨r, F⟩ N hN
  have k5 := G
  k_extra "ks"
  (with_reducible rename CarriedAll _ _ => hC)
  rw [List.filter_eq_self.mpr (fun _ _ => rfl)] at hC
  have hS := IntsAre.ofCarried (ns := ns.map fun k => k.fmod (10 ^ Int.toNat 6)) (by rw [List.map_map]; exact hC)
  clear hC
  k_extra "ks"
  obtain ⟨tot, htot⟩ : ∃ tot : Nat, (tot : Int) = (ns.map fun k => k.fmod (10 ^ Int.toNat 6)).sum := Int.eq_ofNat_of_zero_le (sum_fmod_nn ns) |>.imp fun _ h => h.symm
  rename_i o1 F' N' d1
  rw [← htot] at d1
  exact hN _ _ _ _ G rfl _ tot _ o1 d1 (by k_extra "lo") (News.perm (by assumption) (by k_extra "psub"))
end
section
local macro_rules | `(tactic| l_idx) => `(tactic| k_extra "lidx")
local macro_rules | `(tactic| k_ne) => `(tactic| k_extra "kne")
local macro_rules | `(tactic| ktr_room) => `(tactic| k_extra "kroom")
local macro_rules | `(tactic| ktr_units) => `(tactic| k_extra "kunits")
local macro_rules | `(tactic| k_all) => `(tactic| k_extra "kall")
local macro_rules | `(tactic| k_inst) => `(tactic| k_extra "kinst")
local macro_rules | `(tactic| walk_at "setAttr ref") => `(tactic| (k_here; k_dflt (refine' set_dictL ?k1 ?k2 ?k3 ?k4 ?k5 ?k6 (acc_mro _) ?k8 ?k9 ?k10 ?k11 ?k12 ?k13 ?_; (case k1 => k_asm); (case k2 => k_asm); (case k3 => k_asm); (case k4 => k_inst); (case k5 => exact rfl); (case k6 => k_is); (case k8 => k_is); (case k9 => k_is); (case k10 => k_get); (case k11 => k_put); (case k12 => k_upd); (case k13 => exact Nat.le_of_ble_eq_true rfl); k_whole; intro h' F' N')))
theorem lb1 {w : World} {loose : List Str} {mean : ExcName → Option Value} {mg mb : Str → Option Value} {g : Heap} (L : Addr) (fa : Addr) (cd : Value) (l : Addr) (vs : List Value) (ns : List Int) (C : LawCtx w loose mean mg mb g L l vs ns) (tot : Nat) (tt : Tok) (o1 : Obj) (e1 : o1.data = .cell (some (.int (tot : Int) tt))) :
    Blk w g L fa cd (lawStmt 1) [("script", .ref l)] [(L + 1, o1), (58, tabObj #[]), (51, tabObj #[]), (119, tabObj #[]), (126, tabObj #[])]
      (fun R => ∀ (h : Heap) (D1 : Addr) (uc : List Value) (kc : Nat) (cl : List Nat), IntsAre uc (nats cl) → Qs cl → cl.length = 8 → Loc g L h [("cells", .ref D1)] → News g L h [(D1, listOf uc.toArray kc), (L + 1, o1), (58, tabObj #[]), (51, tabObj #[]), (119, tabObj #[]), (126, tabObj #[])] → R h) := by
  have X := C.X
  have T := C.T
  have B := C.B
  have k1 := C.k1
  have k2 := C.k2
  have k3 := C.k3
  have k4 := C.k4
  have hI := C.hI
  have lifted := C.lifted
  have hns := C.hns
  have l0 := C.l0
  have kcd : CdH g := ⟨k2, k1⟩
  clear C
  refine blk_mk (show lawStmt 1 = _ from (by conv => lhs; whnf)) ?_
  intro h0 gg dr tk oo Q G ⟨r, F⟩ N hN
  have k5 := G
  refine LCg.Assign_ListComp_U (F₀ := by k_asm) (by rfl) (by with_unfolding_all rfl) (by with_unfolding_all rfl) (by decide) (by rfl) (by decide) (by rfl) (by rfl) (by rfl) ?_
  repeat' ((fail_if_success (show LCg.CompSrc ..)); k_extra "ks1"; try dsimp only)
  rename_i D7 uz h7 F7 N7 hz hz8 hzl l7
  rw [List.length_append] at hz8
  have hz8 : (List.take (Int.toNat 8) (ns ++ [0, 2, 1, 0, 3, 1, 3, 2])).length = 8 := by rw [hz8]; exact cell_len ns.length
  clear hzl
  revert hz hz8
  generalize List.take (Int.toNat 8) (ns ++ [0, 2, 1, 0, 3, 1, 3, 2]) = zs
  intro hz hz8
  have N7 : News g L h7 [(D7, W.listOf uz.toArray 0), (L + 1, o1), (58, tabObj #[]), (51, tabObj #[]), (119, tabObj #[]), (126, tabObj #[])] := News.perm N7 (by k_extra "psub")
  refine LCg.CompSrc.ledger (by rfl) (by k_asm) N7 (.head _) (by rw [List.size_toArray, hz.length, PySem.sizeLine_eq, hz8]; exact Nat.le_of_ble_eq_true rfl) ?_
  intro g'
  dsimp only
  refine compL (fun i ys nx => nx = [(D7, W.listOf uz.toArray 0), (L + 1, o1), (58, tabObj #[]), (51, tabObj #[]), (119, tabObj #[]), (126, tabObj #[])] ∧ IntsAre ys (nats ((zs.take i).map (cellOf tot)))) ⟨rfl, .nil⟩ ?_ ?_
  · intro i v I oI C oC D1 m₂ ys nx h tk E' hi hv hJ hC hx F N off ne
    first | (revert hJ; intro hx9; k_extra "xe2"; clear hx9; intro eq9; subst eq9; intro hS) | obtain ⟨rfl, hS⟩ := hJ
    rw [List.size_toArray, hz.length] at hi
    have hv : uz[i]? = some v := by simpa using hv
    have hx9 := ints_at hz hv
    first | (k_extra "xe2"; clear hx9; intro t ht) | obtain ⟨t, ht⟩ := hx9
    subst ht
    with_reducible show PySem.wpAny _ _ _ _ _ _
    k_fold
    dsimp only
    have h1 : (tot : Int).fmod 2 = (tot : Int) % 2 := cell_m tot
    have h0 : (0 : Int) < 4 + (tot : Int).fmod 2 * 2 := cell_p tot
    k_extra "kd"
    · refine LCg.CompEnd.intro (by assumption) N [(D7, W.listOf uz.toArray 0), (L + 1, o1), (58, tabObj #[]), (51, tabObj #[]), (119, tabObj #[]), (126, tabObj #[])] (by k_extra "psub") off (Or.inr ⟨_, .head _, rfl, _, rfl⟩) ⟨rfl, ?_⟩
      rw [cellOf_eq tot, cell_take tot hi]
      exact IntsAre.append hS (.cons _ _ .nil)
  · intro ys nx hx9
    first | (revert hx9; intro hx9; k_extra "xe2"; clear hx9; intro eq9; subst eq9; intro hS) | obtain ⟨rfl, hS⟩ := hx9
    rw [List.size_toArray, hz.length, List.take_of_length_le (Nat.le_refl _)] at hS
    intro D5 h5 tk5 F5 N5 o5
    dsimp only at *
    k_extra "kd"
    exact hN _ _ _ _ G rfl _ D5 ys _ (zs.map (cellOf tot)) hS (cell_qs tot zs) (by rw [List.length_map]; exact hz8) (by k_extra "lo") (News.perm (by assumption) (by k_extra "psub"))
end
section
local macro_rules | `(tactic| l_idx) => `(tactic| k_extra "lidx")
local macro_rules | `(tactic| k_ne) => `(tactic| k_extra "kne")
local macro_rules | `(tactic| ktr_room) => `(tactic| k_extra "kroom")
local macro_rules | `(tactic| ktr_units) => `(tactic| k_extra "kunits")
local macro_rules | `(tactic| k_all) => `(tactic| k_extra "kall")
local macro_rules | `(tactic| k_inst) => `(tactic| k_extra "kinst")
local macro_rules | `(tactic| walk_at "setAttr ref") => `(tactic| (k_here; k_dflt (refine' set_dictL ?k1 ?k2 ?k3 ?k4 ?k5 ?k6 (acc_mro _) ?k8 ?k9 ?k10 ?k11 ?k12 ?k13 ?_; (case k1 => k_asm); (case k2 => k_asm); (case k3 => k_asm); (case k4 => k_inst); (case k5 => exact rfl); (case k6 => k_is); (case k8 => k_is); (case k9 => k_is); (case k10 => k_get); (case k11 => k_put); (case k12 => k_upd); (case k13 => exact Nat.le_of_ble_eq_true rfl); k_whole; intro h' F' N')))
theorem lb2 {w : World} {loose : List Str} {mean : ExcName → Option Value} {mg mb : Str → Option Value} {g : Heap} (L : Addr) (fa : Addr) (cd : Value) (l : Addr) (vs : List Value) (ns : List Int) (C : LawCtx w loose mean mg mb g L l vs ns) (tot : Nat) (tt : Tok) (o1 : Obj) (e1 : o1.data = .cell (some (.int (tot : Int) tt))) (D1 : Addr) (uc : List Value) (kc : Nat) (cl : List Nat) (hcI : IntsAre uc (nats cl)) (hcq : Qs cl) (hcl : cl.length = 8) :
    Blk w g L fa cd (lawStmt 2) [("cells", .ref D1)] [(D1, listOf uc.toArray kc), (L + 1, o1), (58, tabObj #[]), (51, tabObj #[]), (119, tabObj #[]), (126, tabObj #[])]
      (fun R => ∀ (h : Heap) (Dr : Addr) (ur : List Value) (kr : Nat) (x : List Nat), IntsAre ur (nats x) → Qs x → 4 ≤ x.length → x.length ≤ 5 → Loc g L h [("row", .ref Dr), ("cells", .ref D1)] → News g L h [(Dr, listOf ur.toArray kr), (D1, listOf uc.toArray kc), (L + 1, o1), (58, tabObj #[]), (51, tabObj #[]), (119, tabObj #[]), (126, tabObj #[])] → R h) := by
  have X := C.X
  have T := C.T
  have B := C.B
  have k1 := C.k1
  have k2 := C.k2
  have k3 := C.k3
  have k4 := C.k4
  have hI := C.hI
  have lifted := C.lifted
  have hns := C.hns
  have l0 := C.l0
  have kcd : CdH g := ⟨k2, k1⟩
  clear C
  refine blk_mk (show lawStmt 2 = _ from (by conv => lhs; whnf)) ?_
  intro h0 gg dr tk oo Q G ⟨r, F⟩ N hN
  have k5 := G
  have hln : (nats cl).length = 8 := by rw [List.length_map, hcl]
  have h1 : ((tot : Int).fdiv 2).fmod 2 = ((tot / 2 % 2 : Nat) : Int) := fbit tot 2
  have h0 : 0 ≤ 4 + ((tot : Int).fdiv 2).fmod 2 := by rw [h1]; exact Int.natCast_nonneg (4 + tot / 2 % 2)
  have h2 := mod2_lt (tot / 2)
  k_extra "kd"
  rename_i D2 ws h2 hW hL2 hl2 l2 h3 F3 N3
  rw [h1, show (4 + ((tot / 2 % 2 : Nat) : Int)).toNat = 4 + tot / 2 % 2 from rfl] at hW
  have hxl : (cl.take (4 + tot / 2 % 2)).length = 4 + tot / 2 % 2 := by rw [List.length_take, hcl]; k_extra "li"
  exact hN _ _ _ _ G rfl _ D2 ws _ (cl.take (4 + tot / 2 % 2)) (by rw [nats, List.map_take]; exact hW) (hcq.take _) (by k_extra "li") (by k_extra "li") (by k_extra "lo") (by assumption)
end
section
local macro_rules | `(tactic| l_idx) => `(tactic| k_extra "lidx")
local macro_rules | `(tactic| k_ne) => `(tactic| k_extra "kne")
local macro_rules | `(tactic| ktr_room) => `(tactic| k_extra "kroom")
local macro_rules | `(tactic| ktr_units) => `(tactic| k_extra "kunits")
local macro_rules | `(tactic| k_all) => `(tactic| k_extra "kall")
local macro_rules | `(tactic| k_inst) => `(tactic| k_extra "kinst")
local macro_rules | `(tactic| walk_at "setAttr ref") => `(tactic| (k_here; k_dflt (refine' set_dictL ?k1 ?k2 ?k3 ?k4 ?k5 ?k6 (acc_mro _) ?k8 ?k9 ?k10 ?k11 ?k12 ?k13 ?_; (case k1 => k_asm); (case k2 => k_asm); (case k3 => k_asm); (case k4 => k_inst); (case k5 => exact rfl); (case k6 => k_is); (case k8 => k_is); (case k9 => k_is); (case k10 => k_get); (case k11 => k_put); (case k12 => k_upd); (case k13 => exact Nat.le_of_ble_eq_true rfl); k_whole; intro h' F' N')))
theorem lb3 {w : World} {loose : List Str} {mean : ExcName → Option Value} {mg mb : Str → Option Value} {g : Heap} (L : Addr) (fa : Addr) (cd : Value) (l : Addr) (vs : List Value) (ns : List Int) (C : LawCtx w loose mean mg mb g L l vs ns) (tot : Nat) (tt : Tok) (o1 : Obj) (e1 : o1.data = .cell (some (.int (tot : Int) tt))) (D1 : Addr) (uc : List Value) (kc : Nat) (cl : List Nat) (hcI : IntsAre uc (nats cl)) (hcq : Qs cl) (hcl : cl.length = 8) (Dr : Addr) (ur : List Value) (kr : Nat) :
    Blk w g L fa cd (lawStmt 3) [("row", .ref Dr), ("cells", .ref D1)] [(Dr, listOf ur.toArray kr), (D1, listOf uc.toArray kc), (L + 1, o1), (58, tabObj #[]), (51, tabObj #[]), (119, tabObj #[]), (126, tabObj #[])]
      (fun R => ∀ (h : Heap) (Dh : Addr) (uh : List Value) (kh : Nat) (hf : List Nat), IntsAre uh (nats hf) → Qs hf → 2 ≤ hf.length → hf.length ≤ 3 → Loc g L h [("half", .ref Dh), ("row", .ref Dr)] → News g L h [(Dh, listOf uh.toArray kh), (Dr, listOf ur.toArray kr), (L + 1, o1), (58, tabObj #[]), (51, tabObj #[]), (119, tabObj #[]), (126, tabObj #[])] → R h) := by
  have X := C.X
  have T := C.T
  have B := C.B
  have k1 := C.k1
  have k2 := C.k2
  have k3 := C.k3
  have k4 := C.k4
  have hI := C.hI
  have lifted := C.lifted
  have hns := C.hns
  have l0 := C.l0
  have kcd : CdH g := ⟨k2, k1⟩
  clear C
  refine blk_mk (show lawStmt 3 = _ from (by conv => lhs; whnf)) ?_
  intro h0 gg dr tk oo Q G ⟨r, F⟩ N hN
  have k5 := G
  have hln : (nats cl).length = 8 := by rw [List.length_map, hcl]
  have h1 : ((tot : Int).fdiv 4).fmod 2 = ((tot / 4 % 2 : Nat) : Int) := fbit tot 4
  have h0 : 0 ≤ 7 + ((tot : Int).fdiv 4).fmod 2 := by rw [h1]; exact Int.natCast_nonneg (7 + tot / 4 % 2)
  have h2 := mod2_lt (tot / 4)
  k_extra "kd"
  rename_i D2 ws h2 hW hL2 hl2 l2 h3 F3 N3
  rw [h1, hln, show min (7 + ((tot / 4 % 2 : Nat) : Int)).toNat 8 - Int.toNat 5 = 2 + tot / 4 % 2 from by show min (7 + tot / 4 % 2) 8 - 5 = _; k_extra "li"] at hW
  have hxl : ((cl.drop 5).take (2 + tot / 4 % 2)).length = 2 + tot / 4 % 2 := by rw [List.length_take, List.length_drop, hcl]; k_extra "li"
  exact hN _ _ _ _ G rfl _ D2 ws _ ((cl.drop 5).take (2 + tot / 4 % 2)) (by rw [nats, List.map_take, List.map_drop]; exact hW) ((hcq.drop _).take _) (by k_extra "li") (by k_extra "li") (by k_extra "lo") (News.perm (by assumption) (by k_extra "psub"))
end
section
local macro_rules | `(tactic| l_idx) => `(tactic| k_extra "lidx")
local macro_rules | `(tactic| k_ne) => `(tactic| k_extra "kne")
local macro_rules | `(tactic| ktr_room) => `(tactic| k_extra "kroom")
local macro_rules | `(tactic| ktr_units) => `(tactic| k_extra "kunits")
local macro_rules | `(tactic| k_all) => `(tactic| k_extra "kall")
local macro_rules | `(tactic| k_inst) => `(tactic| k_extra "kinst")
local macro_rules | `(tactic| walk_at "setAttr ref") => `(tactic| (k_here; k_dflt (refine' set_dictL ?k1 ?k2 ?k3 ?k4 ?k5 ?k6 (acc_mro _) ?k8 ?k9 ?k10 ?k11 ?k12 ?k13 ?_; (case k1 => k_asm); (case k2 => k_asm); (case k3 => k_asm); (case k4 => k_inst); (case k5 => exact rfl); (case k6 => k_is); (case k8 => k_is); (case k9 => k_is); (case k10 => k_get); (case k11 => k_put); (case k12 => k_upd); (case k13 => exact Nat.le_of_ble_eq_true rfl); k_whole; intro h' F' N')))
theorem lb4 {w : World} {loose : List Str} {mean : ExcName → Option Value} {mg mb : Str → Option Value} {g : Heap} (L : Addr) (fa : Addr) (cd : Value) (l : Addr) (vs : List Value) (ns : List Int) (C : LawCtx w loose mean mg mb g L l vs ns) (tot : Nat) (tt : Tok) (o1 : Obj) (e1 : o1.data = .cell (some (.int (tot : Int) tt))) (cl : List Nat) (Dr : Addr) (ur : List Value) (kr : Nat) (x : List Nat) (Dh : Addr) (uh : List Value) (kh : Nat) (hf : List Nat) (hhI : IntsAre uh (nats hf)) (hhq : Qs hf) (hh2 : 2 ≤ hf.length) (hh3 : hf.length ≤ 3) :
    Blk w g L fa cd (lawStmt 4) [("half", .ref Dh), ("row", .ref Dr)] [(Dh, listOf uh.toArray kh), (Dr, listOf ur.toArray kr), (L + 1, o1), (58, tabObj #[]), (51, tabObj #[]), (119, tabObj #[]), (126, tabObj #[])]
      (fun R => ∀ (h : Heap) (Dd : Addr) (ud : List Value) (kd : Nat) (p : List Nat), IntsAre ud (nats p) → Qs p → p.reverse = p → p.length ≤ 6 → Loc g L h [("drawn", .ref Dd), ("row", .ref Dr)] → News g L h [(Dd, listOf ud.toArray kd), (Dr, listOf ur.toArray kr), (L + 1, o1), (58, tabObj #[]), (51, tabObj #[]), (119, tabObj #[]), (126, tabObj #[])] → R h) := by
  have X := C.X
  have T := C.T
  have B := C.B
  have k1 := C.k1
  have k2 := C.k2
  have k3 := C.k3
  have k4 := C.k4
  have hI := C.hI
  have lifted := C.lifted
  have hns := C.hns
  have l0 := C.l0
  have kcd : CdH g := ⟨k2, k1⟩
  clear C
  refine blk_mk (show lawStmt 4 = _ from (by conv => lhs; whnf)) ?_
  intro h0 gg dr tk oo Q G ⟨r, F⟩ N hN
  have k5 := G
  have hln : (nats hf).length = hf.length := by rw [List.length_map]
  have h1 : ((tot : Int).fdiv 8).fmod 2 = ((tot / 8 % 2 : Nat) : Int) := fbit tot 8
  have h0 : 0 ≤ ((tot : Int).fdiv 8).fmod 2 := by rw [h1]; exact Int.natCast_nonneg _
  have h2 := mod2_lt (tot / 8)
  k_extra "kd"
  rename_i D2 ws h3 hW l1 h4 F3 N3
  rw [h1, Int.toNat_natCast, drawn_nats] at hW
  exact hN _ _ _ _ G rfl _ D2 ws _ (hf ++ hf.reverse.drop (tot / 8 % 2)) hW (hhq.app (hhq.rev.drop _)) (drawn_pal hf h2) (by rw [List.length_append, List.length_drop, List.length_reverse]; k_extra "li") (by k_extra "lo") (News.perm (by assumption) (by k_extra "psub"))
end
section
local macro_rules | `(tactic| l_idx) => `(tactic| k_extra "lidx")
local macro_rules | `(tactic| k_ne) => `(tactic| k_extra "kne")
local macro_rules | `(tactic| ktr_room) => `(tactic| k_extra "kroom")
local macro_rules | `(tactic| ktr_units) => `(tactic| k_extra "kunits")
local macro_rules | `(tactic| k_all) => `(tactic| k_extra "kall")
local macro_rules | `(tactic| k_inst) => `(tactic| k_extra "kinst")
local macro_rules | `(tactic| walk_at "setAttr ref") => `(tactic| (k_here; k_dflt (refine' set_dictL ?k1 ?k2 ?k3 ?k4 ?k5 ?k6 (acc_mro _) ?k8 ?k9 ?k10 ?k11 ?k12 ?k13 ?_; (case k1 => k_asm); (case k2 => k_asm); (case k3 => k_asm); (case k4 => k_inst); (case k5 => exact rfl); (case k6 => k_is); (case k8 => k_is); (case k9 => k_is); (case k10 => k_get); (case k11 => k_put); (case k12 => k_upd); (case k13 => exact Nat.le_of_ble_eq_true rfl); k_whole; intro h' F' N')))
theorem lb5 {w : World} {loose : List Str} {mean : ExcName → Option Value} {mg mb : Str → Option Value} {g : Heap} (L : Addr) (fa : Addr) (cd : Value) (l : Addr) (vs : List Value) (ns : List Int) (C : LawCtx w loose mean mg mb g L l vs ns) (o1 : Obj) (cl : List Nat) (Dr : Addr) (ur : List Value) (kr : Nat) (x : List Nat) (hrI : IntsAre ur (nats x)) (hr4 : 4 ≤ x.length) (hr5 : x.length ≤ 5) (hf : List Nat) (Dd : Addr) (ud : List Value) (kd : Nat) (p : List Nat) :
    Blk w g L fa cd (lawStmt 5) [("drawn", .ref Dd), ("row", .ref Dr)] [(Dd, listOf ud.toArray kd), (Dr, listOf ur.toArray kr), (L + 1, o1), (58, tabObj #[]), (51, tabObj #[]), (119, tabObj #[]), (126, tabObj #[])]
      (fun R => ∀ (h : Heap) (tc : Tok), Loc g L h [("count", .int (x.length : Nat) tc), ("drawn", .ref Dd), ("row", .ref Dr)] → News g L h [(Dr, listOf ur.toArray kr), (Dd, listOf ud.toArray kd), (L + 1, o1), (58, tabObj #[]), (51, tabObj #[]), (119, tabObj #[]), (126, tabObj #[])] → R h) := by
  have X := C.X
  have T := C.T
  have B := C.B
  have k1 := C.k1
  have k2 := C.k2
  have k3 := C.k3
  have k4 := C.k4
  have hI := C.hI
  have lifted := C.lifted
  have hns := C.hns
  have l0 := C.l0
  have kcd : CdH g := ⟨k2, k1⟩
  clear C
  refine blk_mk (show lawStmt 5 = _ from (by conv => lhs; whnf)) ?_
  intro h0 gg dr tk oo Q G ⟨r, F⟩ N hN
  have k5 := G
  have hrl := rowlen hrI
  have hln : (nats x).length = x.length := by rw [List.length_map]
  k_extra "kd"
  (with_reducible rename Fr _ _ _ _ => F9)
  rw [hln] at F9
  exact hN _ _ _ _ G rfl _ _ (by k_extra "lo") (News.perm (by assumption) (by k_extra "psub"))
end
section
local macro_rules | `(tactic| l_idx) => `(tactic| k_extra "lidx")
local macro_rules | `(tactic| k_ne) => `(tactic| k_extra "kne")
local macro_rules | `(tactic| ktr_room) => `(tactic| k_extra "kroom")
local macro_rules | `(tactic| ktr_units) => `(tactic| k_extra "kunits")
local macro_rules | `(tactic| k_all) => `(tactic| k_extra "kall")
local macro_rules | `(tactic| k_inst) => `(tactic| k_extra "kinst")
local macro_rules | `(tactic| walk_at "setAttr ref") => `(tactic| (k_here; k_dflt (refine' set_dictL ?k1 ?k2 ?k3 ?k4 ?k5 ?k6 (acc_mro _) ?k8 ?k9 ?k10 ?k11 ?k12 ?k13 ?_; (case k1 => k_asm); (case k2 => k_asm); (case k3 => k_asm); (case k4 => k_inst); (case k5 => exact rfl); (case k6 => k_is); (case k8 => k_is); (case k9 => k_is); (case k10 => k_get); (case k11 => k_put); (case k12 => k_upd); (case k13 => exact Nat.le_of_ble_eq_true rfl); k_whole; intro h' F' N')))
theorem lb6 {w : World} {loose : List Str} {mean : ExcName → Option Value} {mg mb : Str → Option Value} {g : Heap} (L : Addr) (fa : Addr) (cd : Value) (l : Addr) (vs : List Value) (ns : List Int) (C : LawCtx w loose mean mg mb g L l vs ns) (o1 : Obj) (cl : List Nat) (Dr : Addr) (ur : List Value) (kr : Nat) (x : List Nat) (hrI : IntsAre ur (nats x)) (hrq : Qs x) (hr5 : x.length ≤ 5) (hf : List Nat) (Dd : Addr) (ud : List Value) (kd : Nat) (p : List Nat) (tc : Tok) :
    Blk w g L fa cd (lawStmt 6) [("count", .int (x.length : Nat) tc), ("drawn", .ref Dd), ("row", .ref Dr)] [(Dr, listOf ur.toArray kr), (Dd, listOf ud.toArray kd), (L + 1, o1), (58, tabObj #[]), (51, tabObj #[]), (119, tabObj #[]), (126, tabObj #[])]
      (fun R => ∀ (h : Heap) (tu : Tok) (tw : Tok), Loc g L h [("lower", .int ((kp x).2 : Nat) tw), ("upper", .int ((kp x).1 : Nat) tu), ("count", .int (x.length : Nat) tc), ("drawn", .ref Dd), ("row", .ref Dr)] → News g L h [(Dr, listOf ur.toArray kr), (Dd, listOf ud.toArray kd), (L + 1, o1), (58, tabObj #[]), (51, tabObj #[]), (119, tabObj #[]), (126, tabObj #[])] → R h) := by
  have X := C.X
  have T := C.T
  have B := C.B
  have k1 := C.k1
  have k2 := C.k2
  have k3 := C.k3
  have k4 := C.k4
  have hI := C.hI
  have lifted := C.lifted
  have hns := C.hns
  have l0 := C.l0
  have kcd : CdH g := ⟨k2, k1⟩
  clear C
  refine blk_mk (show lawStmt 6 = _ from (by conv => lhs; whnf)) ?_
  intro h0 gg dr tk oo Q G ⟨r, F⟩ N hN
  have k5 := G
  repeat' ((fail_if_success (with_reducible show PySem.wpAny _ _ (call (.ref 168) _) _ _ _)); k_extra "ks1"; try dsimp only)
  (k_dflt (refine' Cl.use (pair_c _ _ _ _ _ [(Dd, listOf ud.toArray kd), (L + 1, o1), (58, tabObj #[]), (51, tabObj #[]), (119, tabObj #[]), (126, tabObj #[])] Dr ur kr x hrq ?q1 hrI) ?k1 ?k2 ?k3 ?k4 ?k5 ?kK ?kd ?ku ?_; k_extra "cl_use"))
  case q1 => k_extra "li"
  intro r nx h2 tk2 F2 N2 hR
  first | (revert hR; intro hx9; k_extra "xe6"; clear hx9; intro T2 t1 t2 e2 e3 lT) | obtain ⟨T2, t1, t2, e2, e3, lT⟩ := hR
  subst e2
  subst e3
  k_extra "kd"
  exact hN _ _ _ _ G rfl _ _ _ (by k_extra "lo") (News.perm (by assumption) (by k_extra "psub"))
end
section
local macro_rules | `(tactic| l_idx) => `(tactic| k_extra "lidx")
local macro_rules | `(tactic| k_ne) => `(tactic| k_extra "kne")
local macro_rules | `(tactic| ktr_room) => `(tactic| k_extra "kroom")
local macro_rules | `(tactic| ktr_units) => `(tactic| k_extra "kunits")
local macro_rules | `(tactic| k_all) => `(tactic| k_extra "kall")
local macro_rules | `(tactic| k_inst) => `(tactic| k_extra "kinst")
local macro_rules | `(tactic| walk_at "setAttr ref") => `(tactic| (k_here; k_dflt (refine' set_dictL ?k1 ?k2 ?k3 ?k4 ?k5 ?k6 (acc_mro _) ?k8 ?k9 ?k10 ?k11 ?k12 ?k13 ?_; (case k1 => k_asm); (case k2 => k_asm); (case k3 => k_asm); (case k4 => k_inst); (case k5 => exact rfl); (case k6 => k_is); (case k8 => k_is); (case k9 => k_is); (case k10 => k_get); (case k11 => k_put); (case k12 => k_upd); (case k13 => exact Nat.le_of_ble_eq_true rfl); k_whole; intro h' F' N')))
theorem lb7 {w : World} {loose : List Str} {mean : ExcName → Option Value} {mg mb : Str → Option Value} {g : Heap} (L : Addr) (fa : Addr) (cd : Value) (l : Addr) (vs : List Value) (ns : List Int) (C : LawCtx w loose mean mg mb g L l vs ns) (o1 : Obj) (cl : List Nat) (Dr : Addr) (ur : List Value) (kr : Nat) (x : List Nat) (hrI : IntsAre ur (nats x)) (hrq : Qs x) (hr5 : x.length ≤ 5) (hf : List Nat) (Dd : Addr) (ud : List Value) (kd : Nat) (p : List Nat) (tc : Tok) (tu : Tok) (tw : Tok) :
    Blk w g L fa cd (lawStmt 7) [("lower", .int ((kp x).2 : Nat) tw), ("upper", .int ((kp x).1 : Nat) tu), ("count", .int (x.length : Nat) tc), ("drawn", .ref Dd), ("row", .ref Dr)] [(Dr, listOf ur.toArray kr), (Dd, listOf ud.toArray kd), (L + 1, o1), (58, tabObj #[]), (51, tabObj #[]), (119, tabObj #[]), (126, tabObj #[])]
      (fun R => ∀ (h : Heap) (to : Tok), Loc g L h [("other", .int ((kp x.reverse).2 : Nat) to), ("lower", .int ((kp x).2 : Nat) tw), ("upper", .int ((kp x).1 : Nat) tu), ("count", .int (x.length : Nat) tc), ("drawn", .ref Dd), ("row", .ref Dr)] → News g L h [(Dr, listOf ur.toArray kr), (Dd, listOf ud.toArray kd), (L + 1, o1), (58, tabObj #[]), (51, tabObj #[]), (119, tabObj #[]), (126, tabObj #[])] → R h) := by
  have X := C.X
  have T := C.T
  have B := C.B
  have k1 := C.k1
  have k2 := C.k2
  have k3 := C.k3
  have k4 := C.k4
  have hI := C.hI
  have lifted := C.lifted
  have hns := C.hns
  have l0 := C.l0
  have kcd : CdH g := ⟨k2, k1⟩
  clear C
  refine blk_mk (show lawStmt 7 = _ from (by conv => lhs; whnf)) ?_
  intro h0 gg dr tk oo Q G ⟨r, F⟩ N hN
  have k5 := G
  have hln : (nats x).length = x.length := by rw [List.length_map]
  repeat' ((fail_if_success (with_reducible show PySem.wpAny _ _ (call (.ref 168) _) _ _ _)); k_extra "ks1"; try dsimp only)
  (with_reducible rename IntsAre _ (nats x).reverse => hR)
  (with_reducible rename News _ _ _ ((_, listOf (List.toArray _) _) :: _) => N3)
  rw [nats, ← List.map_reverse] at hR
  (k_dflt (refine' Cl.use (pair_c _ _ _ _ _ [(Dr, listOf ur.toArray kr), (Dd, listOf ud.toArray kd), (L + 1, o1), (58, tabObj #[]), (51, tabObj #[]), (119, tabObj #[]), (126, tabObj #[])] _ _ _ x.reverse hrq.rev ?q1 hR) ?k1 ?k2 ?k3 ?k4 ?k5 ?kK ?kd ?ku ?_; k_extra "cl_use"))
  case q1 => rw [List.length_reverse]; k_extra "li"
  intro r nx h2 tk2 F2 N2 hR2
  first | (revert hR2; intro hx9; k_extra "xe6"; clear hx9; intro T2 t1 t2 e2 e3 lT) | obtain ⟨T2, t1, t2, e2, e3, lT⟩ := hR2
  subst e2
  subst e3
  k_extra "kd"
  exact hN _ _ _ _ G rfl _ _ (by k_extra "lo") (News.perm (by assumption) (by k_extra "psub"))
end
section
local macro_rules | `(tactic| l_idx) => `(tactic| k_extra "lidx")
local macro_rules | `(tactic| k_ne) => `(tactic| k_extra "kne")
local macro_rules | `(tactic| ktr_room) => `(tactic| k_extra "kroom")
local macro_rules | `(tactic| ktr_units) => `(tactic| k_extra "kunits")
local macro_rules | `(tactic| k_all) => `(tactic| k_extra "kall")
local macro_rules | `(tactic| k_inst) => `(tactic| k_extra "kinst")
local macro_rules | `(tactic| walk_at "setAttr ref") => `(tactic| (k_here; k_dflt (refine' set_dictL ?k1 ?k2 ?k3 ?k4 ?k5 ?k6 (acc_mro _) ?k8 ?k9 ?k10 ?k11 ?k12 ?k13 ?_; (case k1 => k_asm); (case k2 => k_asm); (case k3 => k_asm); (case k4 => k_inst); (case k5 => exact rfl); (case k6 => k_is); (case k8 => k_is); (case k9 => k_is); (case k10 => k_get); (case k11 => k_put); (case k12 => k_upd); (case k13 => exact Nat.le_of_ble_eq_true rfl); k_whole; intro h' F' N')))
theorem lb8 {w : World} {loose : List Str} {mean : ExcName → Option Value} {mg mb : Str → Option Value} {g : Heap} (L : Addr) (fa : Addr) (cd : Value) (l : Addr) (vs : List Value) (ns : List Int) (C : LawCtx w loose mean mg mb g L l vs ns) (tot : Nat) (tt : Tok) (o1 : Obj) (e1 : o1.data = .cell (some (.int (tot : Int) tt))) (cl : List Nat) (Dr : Addr) (ur : List Value) (kr : Nat) (x : List Nat) (hf : List Nat) (Dd : Addr) (ud : List Value) (kd : Nat) (p : List Nat) (tc : Tok) (tu : Tok) (tw : Tok) (to : Tok) :
    Blk w g L fa cd (lawStmt 8) [("other", .int ((kp x.reverse).2 : Nat) to), ("lower", .int ((kp x).2 : Nat) tw), ("upper", .int ((kp x).1 : Nat) tu), ("count", .int (x.length : Nat) tc), ("drawn", .ref Dd), ("row", .ref Dr)] [(Dr, listOf ur.toArray kr), (Dd, listOf ud.toArray kd), (L + 1, o1), (58, tabObj #[]), (51, tabObj #[]), (119, tabObj #[]), (126, tabObj #[])]
      (fun R => ∀ (h : Heap) (x1 : Addr) (dx1 : Addr) (x2 : Addr) (dx2 : Addr) (n1 : Nat) (n2 : Nat) (nd1 : Nat) (nd2 : Nat) (ta1 : Tok) (tb1 : Tok) (ta2 : Tok) (tb2 : Tok), @Ne Nat x1 x2 → Loc g L h [("right", .ref x2), ("left", .ref x1), ("other", .int ((kp x.reverse).2 : Nat) to), ("lower", .int ((kp x).2 : Nat) tw), ("upper", .int ((kp x).1 : Nat) tu), ("count", .int (x.length : Nat) tc), ("drawn", .ref Dd), ("row", .ref Dr)] → News g L h [(x1, lstObj 157 dx1 ([] : List Value).toArray n1), (dx1, dictOf (isD w.params 0 ta1 tb1) nd1), (x2, lstObj 157 dx2 ([] : List Value).toArray n2), (dx2, dictOf (isD w.params (tot % 3) ta2 tb2) nd2), (Dr, listOf ur.toArray kr), (Dd, listOf ud.toArray kd), (L + 1, o1), (58, tabObj #[]), (51, tabObj #[]), (119, tabObj #[]), (126, tabObj #[])] → R h) := by
  have X := C.X
  have T := C.T
  have B := C.B
  have k1 := C.k1
  have k2 := C.k2
  have k3 := C.k3
  have k4 := C.k4
  have hI := C.hI
  have lifted := C.lifted
  have hns := C.hns
  have l0 := C.l0
  have kcd : CdH g := ⟨k2, k1⟩
  clear C
  refine blk_mk (show lawStmt 8 = _ from (by conv => lhs; whnf)) ?_
  intro h0 gg dr tk oo Q G ⟨r, F⟩ N hN
  have k5 := G
  repeat' ((fail_if_success (with_reducible show PySem.wpAny _ _ (call (.ref 157) _) _ _ _)); k_extra "ks1"; try dsimp only)
  (k_dflt (refine' Cl.use (new0_c _ _ _ _ _ [(Dr, listOf ur.toArray kr), (Dd, listOf ud.toArray kd), (L + 1, o1), (58, tabObj #[]), (51, tabObj #[]), (119, tabObj #[]), (126, tabObj #[])]) ?k1 ?k2 ?k3 ?k4 ?k5 ?kK ?kd ?ku ?_; k_extra "cl_use"))
  intro r nx h2 tk2 F2 N2 hR
  first | (revert hR; intro hx9; k_extra "xe9"; clear hx9; intro x1 dx1 n1 ta1 tb1 nd1 e1' e2' hq1) | obtain ⟨x1, dx1, n1, ta1, tb1, nd1, e1', e2', hq1⟩ := hR
  subst e1'
  subst e2'
  have e3 : (tot : Int).fmod 3 = ((tot % 3 : Nat) : Int) := fmod3 tot
  repeat' ((fail_if_success (with_reducible show PySem.wpAny _ _ (call (.ref 157) _) _ _ _)); k_extra "ks1"; try dsimp only)
  rw [e3]
  (k_dflt (refine' Cl.use (new_c _ _ _ _ _ [(x1, lstObj 157 dx1 ([] : List Value).toArray n1), (dx1, dictOf (isD w.params 0 ta1 tb1) nd1), (Dr, listOf ur.toArray kr), (Dd, listOf ud.toArray kd), (L + 1, o1), (58, tabObj #[]), (51, tabObj #[]), (119, tabObj #[]), (126, tabObj #[])] _ _) ?k1 ?k2 ?k3 ?k4 ?k5 ?kK ?kd ?ku ?_; k_extra "cl_use"))
  intro r nx h3 tk3 F3 N3 hR
  first | (revert hR; intro hx9; k_extra "xe8"; clear hx9; intro x2 dx2 n2 ta2 nd2 e1' e2' hq2) | obtain ⟨x2, dx2, n2, ta2, nd2, e1', e2', hq2⟩ := hR
  have hx12 : @Ne Nat x1 x2 := hq2 (x1, _) (.head _)
  subst e1'
  subst e2'
  k_extra "kd"
  exact hN _ _ _ _ G rfl _ x1 dx1 x2 dx2 n1 n2 nd1 nd2 _ _ _ _ hx12 (by k_extra "lo") (News.perm (by assumption) (by k_extra "psub"))
end
section
local macro_rules | `(tactic| l_idx) => `(tactic| k_extra "lidx")
local macro_rules | `(tactic| k_ne) => `(tactic| k_extra "kne")
local macro_rules | `(tactic| ktr_room) => `(tactic| k_extra "kroom")
local macro_rules | `(tactic| ktr_units) => `(tactic| k_extra "kunits")
local macro_rules | `(tactic| k_all) => `(tactic| k_extra "kall")
local macro_rules | `(tactic| k_inst) => `(tactic| k_extra "kinst")
local macro_rules | `(tactic| walk_at "setAttr ref") => `(tactic| (k_here; k_dflt (refine' set_dictL ?k1 ?k2 ?k3 ?k4 ?k5 ?k6 (acc_mro _) ?k8 ?k9 ?k10 ?k11 ?k12 ?k13 ?_; (case k1 => k_asm); (case k2 => k_asm); (case k3 => k_asm); (case k4 => k_inst); (case k5 => exact rfl); (case k6 => k_is); (case k8 => k_is); (case k9 => k_is); (case k10 => k_get); (case k11 => k_put); (case k12 => k_upd); (case k13 => exact Nat.le_of_ble_eq_true rfl); k_whole; intro h' F' N')))
theorem lb9 {w : World} {loose : List Str} {mean : ExcName → Option Value} {mg mb : Str → Option Value} {g : Heap} (L : Addr) (fa : Addr) (cd : Value) (l : Addr) (vs : List Value) (ns : List Int) (C : LawCtx w loose mean mg mb g L l vs ns) (tot : Nat) (tt : Tok) (o1 : Obj) (e1 : o1.data = .cell (some (.int (tot : Int) tt))) (cl : List Nat) (Dr : Addr) (ur : List Value) (kr : Nat) (x : List Nat) (hrq : Qs x) (hr4 : 4 ≤ x.length) (hr5 : x.length ≤ 5) (hf : List Nat) (Dd : Addr) (ud : List Value) (kd : Nat) (p : List Nat) (tc : Tok) (tu : Tok) (tw : Tok) (to : Tok) (x1 : Addr) (dx1 : Addr) (x2 : Addr) (dx2 : Addr) (n1 : Nat) (n2 : Nat) (nd1 : Nat) (nd2 : Nat) (ta1 : Tok) (tb1 : Tok) (ta2 : Tok) (tb2 : Tok) (hx12 : @Ne Nat x1 x2) :
    Blk w g L fa cd (lawStmt 9) [("right", .ref x2), ("left", .ref x1), ("other", .int ((kp x.reverse).2 : Nat) to), ("lower", .int ((kp x).2 : Nat) tw), ("upper", .int ((kp x).1 : Nat) tu), ("count", .int (x.length : Nat) tc), ("drawn", .ref Dd), ("row", .ref Dr)] [(x1, lstObj 157 dx1 ([] : List Value).toArray n1), (dx1, dictOf (isD w.params 0 ta1 tb1) nd1), (x2, lstObj 157 dx2 ([] : List Value).toArray n2), (dx2, dictOf (isD w.params (tot % 3) ta2 tb2) nd2), (Dr, listOf ur.toArray kr), (Dd, listOf ud.toArray kd), (L + 1, o1), (58, tabObj #[]), (51, tabObj #[]), (119, tabObj #[]), (126, tabObj #[])]
      (fun R => ∀ (h : Heap) (l1 : List Pr) (n3 : Nat) (own1 : CbLed) (own2 : CbLed), l1.map ptx = sgt x → TbsM own1 own2 [(119, tabObj #[]), (126, tabObj #[])] → Loc g L h [("right", .ref x2), ("left", .ref x1), ("other", .int ((kp x.reverse).2 : Nat) to), ("lower", .int ((kp x).2 : Nat) tw), ("upper", .int ((kp x).1 : Nat) tu), ("count", .int (x.length : Nat) tc), ("drawn", .ref Dd), ("row", .ref Dr)] → News g L h ((119, tabObj #[]) :: (126, tabObj #[]) :: (x1, lstObj 157 dx1 (refs l1).toArray n3) :: (dx1, dictOf (isD w.params 0 ta1 tb1) nd1) :: (x2, lstObj 157 dx2 ([] : List Value).toArray n2) :: (dx2, dictOf (isD w.params (tot % 3) ta2 tb2) nd2) :: (Dr, listOf ur.toArray kr) :: (Dd, listOf ud.toArray kd) :: (L + 1, o1) :: (tups l1 ++ (own1 ++ own2))) → R h) := by
  have X := C.X
  have T := C.T
  have B := C.B
  have k1 := C.k1
  have k2 := C.k2
  have k3 := C.k3
  have k4 := C.k4
  have hI := C.hI
  have lifted := C.lifted
  have hns := C.hns
  have l0 := C.l0
  have kcd : CdH g := ⟨k2, k1⟩
  clear C
  refine blk_mk (show lawStmt 9 = _ from (by conv => lhs; whnf)) ?_
  intro h0 gg dr tk oo Q G ⟨r, F⟩ N hN
  have k5 := G
  refine For_turns F ?_
  repeat' ((fail_if_success (with_reducible show PySem.wpAny _ _ (call (.ref 175) _) _ _ _)); k_extra "ks1"; try dsimp only)
  first | (revert l0; intro hx9; k_extra "xe4"; clear hx9; intro z1 z2 z3 z4) | obtain ⟨z1, z2, z3, z4⟩ := l0
  have hT0 : Tbs [(51, tabObj #[])] [(58, tabObj #[])] ((119, tabObj #[]) :: (126, tabObj #[]) :: (x1, lstObj 157 dx1 ([] : List Value).toArray n1) :: (dx1, dictOf (isD w.params 0 ta1 tb1) nd1) :: (x2, lstObj 157 dx2 ([] : List Value).toArray n2) :: (dx2, dictOf (isD w.params (tot % 3) ta2 tb2) nd2) :: [(Dr, listOf ur.toArray kr), (Dd, listOf ud.toArray kd), (L + 1, o1)]) := tbs0 N (by k_mem) (by k_mem) (by k_extra "psub") (by
      repeat' (first | exact fa0 | refine fac ?_ ?_)
      all_goals first | exact nt_addr (by decide) | exact .inl (fun e => by cases e) | exact .inr (Nat.ne_of_gt (by k_extra "li"))) (by
      repeat' (first | exact fa0 | refine fac ?_ ?_)
      all_goals first | exact nt_addr (by decide) | exact .inl (fun e => by cases e) | exact .inr (Nat.ne_of_gt (by k_extra "li")))
  (with_reducible rename News _ _ _ _ => N1)
  replace N1 := News.perm N1 (news' := [(51, tabObj #[])] ++ ([(58, tabObj #[])] ++ ((119, tabObj #[]) :: (126, tabObj #[]) :: (x1, lstObj 157 dx1 ([] : List Value).toArray n1) :: (dx1, dictOf (isD w.params 0 ta1 tb1) nd1) :: (x2, lstObj 157 dx2 ([] : List Value).toArray n2) :: (dx2, dictOf (isD w.params (tot % 3) ta2 tb2) nd2) :: [(Dr, listOf ur.toArray kr), (Dd, listOf ud.toArray kd), (L + 1, o1)]))) (by k_extra "psub")
  (k_dflt (refine' ClT.use (run_c _ _ _ _ _ [(51, tabObj #[])] [(58, tabObj #[])] ((119, tabObj #[]) :: (126, tabObj #[]) :: (x1, lstObj 157 dx1 ([] : List Value).toArray n1) :: (dx1, dictOf (isD w.params 0 ta1 tb1) nd1) :: (x2, lstObj 157 dx2 ([] : List Value).toArray n2) :: (dx2, dictOf (isD w.params (tot % 3) ta2 tb2) nd2) :: [(Dr, listOf ur.toArray kr), (Dd, listOf ud.toArray kd), (L + 1, o1)]) x _ _ hrq ?q1 ?q2 hT0) ?k0 ?kb ?kt ?k1 ?k2 ?k3 ?k4 ?k5 ?kK ?kd ?ku ?_; (case kb => k_asm); (case kt => k_asm); k_extra "clb_use"))
  case q1 => k_extra "li"
  case q2 => k_extra "li"
  intro r nx h2 tk2 F2 N2 hR
  first | (revert hR; intro hx9; k_extra "xe10"; clear hx9; intro D us kD own1 own2 e2 e3 hIu hTR hD) | obtain ⟨D, us, kD, own1, own2, e2, e3, hIu, hTR, hD⟩ := hR
  subst e2
  subst e3
  have hTb : TbsM own1 own2 [(119, tabObj #[]), (126, tabObj #[])] := TbsM.less (news := [(119, tabObj #[]), (126, tabObj #[])]) hTR.1
  repeat' ((fail_if_success (with_reducible show PySem.wpAny _ _ (call (.type "enumerate") _) _ _ _)); k_extra "ks1"; try dsimp only)
  have hul := rowlen hIu
  (with_reducible rename News _ _ _ _ => N3)
  replace N3 := News.perm N3 (news' := (D, listOf us.toArray kD) :: (119, tabObj #[]) :: (126, tabObj #[]) :: (x1, lstObj 157 dx1 (refs []).toArray n1) :: (dx1, dictOf (isD w.params 0 ta1 tb1) nd1) :: (x2, lstObj 157 dx2 ([] : List Value).toArray n2) :: (dx2, dictOf (isD w.params (tot % 3) ta2 tb2) nd2) :: (Dr, listOf ur.toArray kr) :: (Dd, listOf ud.toArray kd) :: (L + 1, o1) :: (tups [] ++ (own1 ++ own2))) (by k_extra "psub")
  refine enumG (lo := listOf us.toArray kD) (fun i m nx => ∃ (l1 : List Pr) (n1 : Nat), nx = (119, tabObj #[]) :: (126, tabObj #[]) :: (x1, lstObj 157 dx1 (refs l1).toArray n1) :: (dx1, dictOf (isD w.params 0 ta1 tb1) nd1) :: (x2, lstObj 157 dx2 ([] : List Value).toArray n2) :: (dx2, dictOf (isD w.params (tot % 3) ta2 tb2) nd2) :: (Dr, listOf ur.toArray kr) :: (Dd, listOf ud.toArray kd) :: (L + 1, o1) :: (tups l1 ++ (own1 ++ own2)) ∧ l1.map ptx = sgt (x.take i) ∧ Kn m [("right", .ref x2), ("left", .ref x1), ("other", .int ((kp x.reverse).2 : Nat) to), ("lower", .int ((kp x).2 : Nat) tw), ("upper", .int ((kp x).1 : Nat) tu), ("count", .int (x.length : Nat) tc), ("drawn", .ref Dd), ("row", .ref Dr)]) rfl F2 N3 rfl rfl ⟨[], n1, rfl, rfl, by k_extra "kn_all"⟩ ?_ ?_
  · intro I i v T t h tk m nx oe oi QT hi hv hJ hTp F4 hoe hoi N4 hoff hQ
    first | (revert hJ; intro hx9; k_extra "xe5"; clear hx9; intro lp n4 e4 hlp hm) | obtain ⟨lp, n4, e4, hlp, hm⟩ := hJ
    subst e4
    have hi2 : i < x.length := hul ▸ hi
    have hx9 := nats_at hIu hv
    first | (k_extra "xe2"; clear hx9; intro tv ev) | obtain ⟨tv, ev⟩ := hx9
    subst ev
    obtain ⟨r4, F5⟩ : Loc g L h [("right", .ref x2), ("left", .ref x1), ("other", .int ((kp x.reverse).2 : Nat) to), ("lower", .int ((kp x).2 : Nat) tw), ("upper", .int ((kp x).1 : Nat) tu), ("count", .int (x.length : Nat) tc), ("drawn", .ref Dd), ("row", .ref Dr)] := ⟨m, kn F4 hm⟩
    clear F4 hm F2 N3
    repeat' ((fail_if_success (with_reducible show PySem.wpAny _ _ (call (.ref 180) _) _ _ _)); k_extra "ks1"; try dsimp only)
    have hcm := getD_mem hi2
    have hcq := hrq _ hcm
    have hlpl := pile_len hlp
    have hlen : (refs lp).length ≤ 500 := by
      rw [refs, List.length_map, hlpl, List.length_take]
      k_extra "li"
    generalize hcx : x.getD i 0 = c at *
    (with_reducible rename News _ _ _ _ => N5)
    (k_dflt (refine' Cl.use (signs_c _ _ _ _ _ ((I + 1, oe) :: (I, oi) :: (D, listOf us.toArray kD) :: (119, tabObj #[]) :: (126, tabObj #[]) :: (x1, lstObj 157 dx1 (refs lp).toArray n4) :: (dx1, dictOf (isD w.params 0 ta1 tb1) nd1) :: (x2, lstObj 157 dx2 ([] : List Value).toArray n2) :: (dx2, dictOf (isD w.params (tot % 3) ta2 tb2) nd2) :: (Dr, listOf ur.toArray kr) :: (Dd, listOf ud.toArray kd) :: (L + 1, o1) :: (tups lp ++ (own1 ++ own2))) _ [.int ((c : Nat) : Int) tv] 0 [c] ?q1 ?q2 ?q3) ?k1 ?k2 ?k3 ?k4 ?k5 ?kK ?kd ?ku ?_; k_extra "cl_use"))
    case q1 => exact fun q hq => by rw [List.mem_singleton.mp hq]; exact hcq
    case q2 => exact (by decide : 1 ≤ 12)
    case q3 => exact .cons _ _ .nil
    intro r nx h5 tk5 F6 N6 hR
    first | (revert hR; intro hx9; k_extra "xe2"; clear hx9; intro e5 hx9; (first | (k_extra "xq2"; clear hx9; intro ts e6) | obtain ⟨ts, e6⟩ := hx9)) | obtain ⟨e5, ⟨ts, e6⟩⟩ := hR
    subst e5
    subst e6
    dsimp only [List.map_cons, List.map_nil]
    have ek : (i : Int).fmod 2 = ((i % 2 : Nat) : Int) := fmod2 i
    have hk2 := mod2_lt i
    repeat' ((fail_if_success (with_reducible show PySem.wpAny _ _ (call (.ref 101) _) _ _ _)); k_extra "ks1"; try dsimp only)
    rename_i _ t7 _ _ _ _ t8 _ _ N7
    rw [ek, show List.map sg [c] = [sg c] from rfl, slice_to [sg c] (i % 2) (Nat.le_of_lt_succ hk2), slice_from [sg c] (i % 2) (Nat.le_of_lt_succ hk2)]
    replace N7 := News.perm N7 (news' := (x1, lstObj 157 dx1 (refs lp).toArray n4) :: (dx1, dictOf (isD w.params 0 ta1 tb1) nd1) :: (I + 1, oe) :: (I, oi) :: (D, listOf us.toArray kD) :: (119, tabObj #[]) :: (126, tabObj #[]) :: (x2, lstObj 157 dx2 ([] : List Value).toArray n2) :: (dx2, dictOf (isD w.params (tot % 3) ta2 tb2) nd2) :: (Dr, listOf ur.toArray kr) :: (Dd, listOf ud.toArray kd) :: (L + 1, o1) :: (tups lp ++ (own1 ++ own2))) (by k_extra "psub")
    have hna : NoAcc x1 ((I + 1, oe) :: (I, oi) :: (D, listOf us.toArray kD) :: (119, tabObj #[]) :: (126, tabObj #[]) :: (x2, lstObj 157 dx2 ([] : List Value).toArray n2) :: (dx2, dictOf (isD w.params (tot % 3) ta2 tb2) nd2) :: (Dr, listOf ur.toArray kr) :: (Dd, listOf ud.toArray kd) :: (L + 1, o1) :: (tups lp ++ (own1 ++ own2))) := na_i N7 (.head _) (fun p hp => .tail _ (.tail _ hp)) (by
      have a1 := hTb.1
      have a2 := hTb.2.1
      k_extra "na2")
    (k_dflt (refine' Cl.use (push_c _ _ _ _ _ ((I + 1, oe) :: (I, oi) :: (D, listOf us.toArray kD) :: (119, tabObj #[]) :: (126, tabObj #[]) :: (x2, lstObj 157 dx2 ([] : List Value).toArray n2) :: (dx2, dictOf (isD w.params (tot % 3) ta2 tb2) nd2) :: (Dr, listOf ur.toArray kr) :: (Dd, listOf ud.toArray kd) :: (L + 1, o1) :: (tups lp ++ (own1 ++ own2))) x1 dx1 (refs lp) n4 (isD w.params 0 ta1 tb1) nd1 _ _ _ _ ?q1 ?q2 ?q3) ?k1 ?k2 ?k3 ?k4 ?k5 ?kK ?kd ?ku ?_; k_extra "cl_use"))
    case q1 => exact hlen
    case q2 => rfl
    case q3 => exact hna
    intro r nx6 h6 tk6 F7 N8 hR
    first | (revert hR; intro hx9; k_extra "xe2"; clear hx9; intro e7 hx9; (first | (k_extra "xq3"; clear hx9; intro T6 mm e8) | obtain ⟨T6, mm, e8⟩ := hx9)) | obtain ⟨e7, ⟨T6, mm, e8⟩⟩ := hR
    subst e7
    subst e8
    dsimp only
    k_extra "kd"
    have hTI : T6 ≠ I ∧ T6 ≠ I + 1 := ⟨ne_obj N8 (.head _) (b := I) (o' := oi) (by k_mem) (by rw [hoi]; exact fun e => absurd (Value.type.inj e) (by decide)), ne_obj N8 (.head _) (b := I + 1) (o' := oe) (by k_mem) (by rw [hoe]; exact fun e => absurd (Value.type.inj e) (by decide))⟩
    have hofx : x1 ≠ I ∧ x1 ≠ I + 1 := hoff (x1, lstObj 157 dx1 (refs lp).toArray n4) (by k_mem)
    refine hQ _ _ _ ((119, tabObj #[]) :: (126, tabObj #[]) :: (x1, lstObj 157 dx1 (refs lp ++ [Value.ref T6]).toArray mm) :: (dx1, dictOf (isD w.params 0 ta1 tb1) nd1) :: (x2, lstObj 157 dx2 ([] : List Value).toArray n2) :: (dx2, dictOf (isD w.params (tot % 3) ta2 tb2) nd2) :: (Dr, listOf ur.toArray kr) :: (Dd, listOf ud.toArray kd) :: (L + 1, o1) :: ((tups lp ++ [(T6, { cls := .type "tuple", data := .seq #[.str (tx (List.take (i % 2) [sg c])) t7, .str (tx (List.drop (i % 2) [sg c])) t8] })]) ++ (own1 ++ own2))) F7 (News.perm N8 (by k_extra "psub")) ?_ ⟨lp ++ [⟨T6, tx (List.take (i % 2) [sg c]), t7, tx (List.drop (i % 2) [sg c]), t8⟩], mm, ?_, pile_snoc hlp hi2 (by rw [hcx]; exact piece_tx (sg c) (i % 2)), by k_extra "kn_all"⟩
    · repeat' (first | exact fa0 | refine faa ?_ ?_ | refine fac ?_ ?_)
      all_goals first | exact hTI | exact hofx | exact hoff (_, _) (by k_mem) | exact fun q hq => hoff q (by k_extra "sbm")
    · rw [tups_snoc, refs_snoc]
  · intro m nx h tk hJ F4 N4
    first | (revert hJ; intro hx9; k_extra "xe5"; clear hx9; intro lp n4 e4 hlp hm) | obtain ⟨lp, n4, e4, hlp, hm⟩ := hJ
    subst e4
    rw [hul, List.take_length] at hlp
    exact hN _ _ _ _ G rfl _ lp n4 own1 own2 hlp hTb ⟨m, kn F4 hm⟩ (News.perm N4 (by k_extra "psub"))
end
section
local macro_rules | `(tactic| l_idx) => `(tactic| k_extra "lidx")
local macro_rules | `(tactic| k_ne) => `(tactic| k_extra "kne")
local macro_rules | `(tactic| ktr_room) => `(tactic| k_extra "kroom")
local macro_rules | `(tactic| ktr_units) => `(tactic| k_extra "kunits")
local macro_rules | `(tactic| k_all) => `(tactic| k_extra "kall")
local macro_rules | `(tactic| k_inst) => `(tactic| k_extra "kinst")
local macro_rules | `(tactic| walk_at "setAttr ref") => `(tactic| (k_here; k_dflt (refine' set_dictL ?k1 ?k2 ?k3 ?k4 ?k5 ?k6 (acc_mro _) ?k8 ?k9 ?k10 ?k11 ?k12 ?k13 ?_; (case k1 => k_asm); (case k2 => k_asm); (case k3 => k_asm); (case k4 => k_inst); (case k5 => exact rfl); (case k6 => k_is); (case k8 => k_is); (case k9 => k_is); (case k10 => k_get); (case k11 => k_put); (case k12 => k_upd); (case k13 => exact Nat.le_of_ble_eq_true rfl); k_whole; intro h' F' N')))
theorem lb10 {w : World} {loose : List Str} {mean : ExcName → Option Value} {mg mb : Str → Option Value} {g : Heap} (L : Addr) (fa : Addr) (cd : Value) (l : Addr) (vs : List Value) (ns : List Int) (C : LawCtx w loose mean mg mb g L l vs ns) (tot : Nat) (o1 : Obj) (cl : List Nat) (Dr : Addr) (ur : List Value) (kr : Nat) (x : List Nat) (hr5 : x.length ≤ 5) (hf : List Nat) (Dd : Addr) (ud : List Value) (kd : Nat) (p : List Nat) (tc : Tok) (tu : Tok) (tw : Tok) (to : Tok) (x1 : Addr) (dx1 : Addr) (x2 : Addr) (dx2 : Addr) (n2 : Nat) (nd1 : Nat) (nd2 : Nat) (ta1 : Tok) (tb1 : Tok) (ta2 : Tok) (tb2 : Tok) (l1 : List Pr) (n3 : Nat) (own1 : CbLed) (own2 : CbLed) (hl1 : l1.map ptx = sgt x) (hTb : TbsM own1 own2 [(119, tabObj #[]), (126, tabObj #[])]) :
    Blk w g L fa cd (lawStmt 10) [("right", .ref x2), ("left", .ref x1), ("other", .int ((kp x.reverse).2 : Nat) to), ("lower", .int ((kp x).2 : Nat) tw), ("upper", .int ((kp x).1 : Nat) tu), ("count", .int (x.length : Nat) tc), ("drawn", .ref Dd), ("row", .ref Dr)] ((119, tabObj #[]) :: (126, tabObj #[]) :: (x1, lstObj 157 dx1 (refs l1).toArray n3) :: (dx1, dictOf (isD w.params 0 ta1 tb1) nd1) :: (x2, lstObj 157 dx2 ([] : List Value).toArray n2) :: (dx2, dictOf (isD w.params (tot % 3) ta2 tb2) nd2) :: (Dr, listOf ur.toArray kr) :: (Dd, listOf ud.toArray kd) :: (L + 1, o1) :: (tups l1 ++ (own1 ++ own2)))
      (fun R => ∀ (h : Heap) (tt1 : Tok) (ps2 : Array Value), TriplesOk ps2.toList → Loc g L h [("text", .str (tx (x.map sg)) tt1), ("right", .ref x2), ("left", .ref x1), ("other", .int ((kp x.reverse).2 : Nat) to), ("lower", .int ((kp x).2 : Nat) tw), ("upper", .int ((kp x).1 : Nat) tu), ("count", .int (x.length : Nat) tc), ("drawn", .ref Dd), ("row", .ref Dr)] → News g L h ((119, tabObj #[]) :: (126, tabObj ps2) :: (x1, lstObj 157 dx1 (refs l1).toArray n3) :: (dx1, dictOf (isD w.params 0 ta1 tb1) nd1) :: (x2, lstObj 157 dx2 ([] : List Value).toArray n2) :: (dx2, dictOf (isD w.params (tot % 3) ta2 tb2) nd2) :: (Dr, listOf ur.toArray kr) :: (Dd, listOf ud.toArray kd) :: (L + 1, o1) :: (tups l1 ++ (own1 ++ own2))) → R h) := by
  have X := C.X
  have T := C.T
  have B := C.B
  have k1 := C.k1
  have k2 := C.k2
  have k3 := C.k3
  have k4 := C.k4
  have hI := C.hI
  have lifted := C.lifted
  have hns := C.hns
  have l0 := C.l0
  have kcd : CdH g := ⟨k2, k1⟩
  clear C
  refine blk_mk (show lawStmt 10 = _ from (by conv => lhs; whnf)) ?_
  intro h0 gg dr tk oo Q G ⟨r, F⟩ N hN
  have k5 := G
  obtain ⟨z1, z2, z3, z4⟩ := l0
  have z5 : 126 < L + 1 := Nat.lt_succ_of_lt z4
  have htr0 : TriplesOk (#[] : Array Value).toList := trivial
  repeat' ((fail_if_success (with_reducible show PySem.wpAny _ _ (call (.ref 131) _) _ _ _)); k_extra "ks1"; try dsimp only)
  have hnta : NoTab 126 ((119, tabObj #[]) :: (x2, lstObj 157 dx2 ([] : List Value).toArray n2) :: (dx2, dictOf (isD w.params (tot % 3) ta2 tb2) nd2) :: (Dr, listOf ur.toArray kr) :: (Dd, listOf ud.toArray kd) :: (L + 1, o1) :: (own1 ++ own2)) := by k_extra "nt"
  (with_reducible rename News _ _ _ _ => N7)
  replace N7 := News.perm N7 (news' := (126, tabObj #[]) :: (x1, lstObj 157 dx1 (refs l1).toArray n3) :: (dx1, dictOf (isD w.params 0 ta1 tb1) nd1) :: (tups l1 ++ ((119, tabObj #[]) :: (x2, lstObj 157 dx2 ([] : List Value).toArray n2) :: (dx2, dictOf (isD w.params (tot % 3) ta2 tb2) nd2) :: (Dr, listOf ur.toArray kr) :: (Dd, listOf ud.toArray kd) :: (L + 1, o1) :: (own1 ++ own2)))) (by k_extra "psub")
  (k_dflt (refine' ClG.use (str_c _ _ _ _ _ ((119, tabObj #[]) :: (x2, lstObj 157 dx2 ([] : List Value).toArray n2) :: (dx2, dictOf (isD w.params (tot % 3) ta2 tb2) nd2) :: (Dr, listOf ur.toArray kr) :: (Dd, listOf ud.toArray kd) :: (L + 1, o1) :: (own1 ++ own2)) #[] x1 dx1 l1 n3 _ nd1 ?q1 (pile_small hl1) (by assumption) hnta) ?k0 ?kg ?k1 ?k2 ?k3 ?k4 ?k5 ?kK ?kd ?ku ?_; k_extra "str_use"))
  case q1 => rw [pile_len hl1]; first | k_extra "li" | (simp only [List.length_take, List.length_drop, List.length_reverse]; k_extra "li")
  intro r nx6 s6 F6 N6 Ga osa hR
  first | (revert s6; intro hx9; k_extra "xe5"; clear hx9; intro h6 g6 d6 tk6 o6) | obtain ⟨h6, g6, d6, tk6, o6⟩ := s6
  first | (revert hR; intro hx9; k_extra "xe2"; clear hx9; intro hRa hx9; (first | (k_extra "xq3"; clear hx9; intro psa htra eR) | obtain ⟨psa, htra, eR⟩ := hx9)) | obtain ⟨hRa, ⟨psa, htra, eR⟩⟩ := hR
  first | (revert hRa; intro hx9; k_extra "xe2"; clear hx9; intro ta eRa) | obtain ⟨ta, eRa⟩ := hRa
  subst eRa
  subst eR
  try dsimp only at F6 N6 Ga osa
  rw [pile_str hl1]
  clear hnta
  dsimp only [PySem.W.StrBack]
  k_extra "kd"
  exact hN _ _ _ _ (by assumption) (by assumption) _ _ psa htra (by k_extra "lo") (News.perm (by assumption) (by k_extra "psub"))
end
section
local macro_rules | `(tactic| l_idx) => `(tactic| k_extra "lidx")
local macro_rules | `(tactic| k_ne) => `(tactic| k_extra "kne")
local macro_rules | `(tactic| ktr_room) => `(tactic| k_extra "kroom")
local macro_rules | `(tactic| ktr_units) => `(tactic| k_extra "kunits")
local macro_rules | `(tactic| k_all) => `(tactic| k_extra "kall")
local macro_rules | `(tactic| k_inst) => `(tactic| k_extra "kinst")
local macro_rules | `(tactic| walk_at "setAttr ref") => `(tactic| (k_here; k_dflt (refine' set_dictL ?k1 ?k2 ?k3 ?k4 ?k5 ?k6 (acc_mro _) ?k8 ?k9 ?k10 ?k11 ?k12 ?k13 ?_; (case k1 => k_asm); (case k2 => k_asm); (case k3 => k_asm); (case k4 => k_inst); (case k5 => exact rfl); (case k6 => k_is); (case k8 => k_is); (case k9 => k_is); (case k10 => k_get); (case k11 => k_put); (case k12 => k_upd); (case k13 => exact Nat.le_of_ble_eq_true rfl); k_whole; intro h' F' N')))
theorem lb11 {w : World} {loose : List Str} {mean : ExcName → Option Value} {mg mb : Str → Option Value} {g : Heap} (L : Addr) (fa : Addr) (cd : Value) (l : Addr) (vs : List Value) (ns : List Int) (C : LawCtx w loose mean mg mb g L l vs ns) (tot : Nat) (o1 : Obj) (cl : List Nat) (Dr : Addr) (ur : List Value) (kr : Nat) (x : List Nat) (hf : List Nat) (Dd : Addr) (ud : List Value) (kd : Nat) (p : List Nat) (tc : Tok) (tu : Tok) (tw : Tok) (to : Tok) (x1 : Addr) (dx1 : Addr) (x2 : Addr) (dx2 : Addr) (n2 : Nat) (nd1 : Nat) (nd2 : Nat) (ta1 : Tok) (tb1 : Tok) (ta2 : Tok) (tb2 : Tok) (l1 : List Pr) (n3 : Nat) (own1 : CbLed) (own2 : CbLed) (tt1 : Tok) (ps2 : Array Value) :
    Blk w g L fa cd (lawStmt 11) [("text", .str (tx (x.map sg)) tt1), ("right", .ref x2), ("left", .ref x1), ("other", .int ((kp x.reverse).2 : Nat) to), ("lower", .int ((kp x).2 : Nat) tw), ("upper", .int ((kp x).1 : Nat) tu), ("count", .int (x.length : Nat) tc), ("drawn", .ref Dd), ("row", .ref Dr)] ((119, tabObj #[]) :: (126, tabObj ps2) :: (x1, lstObj 157 dx1 (refs l1).toArray n3) :: (dx1, dictOf (isD w.params 0 ta1 tb1) nd1) :: (x2, lstObj 157 dx2 ([] : List Value).toArray n2) :: (dx2, dictOf (isD w.params (tot % 3) ta2 tb2) nd2) :: (Dr, listOf ur.toArray kr) :: (Dd, listOf ud.toArray kd) :: (L + 1, o1) :: (tups l1 ++ (own1 ++ own2)))
      (fun R => ∀ (h : Heap) (tl0 : Tok) (ta0 : Tok) (tb0 : Tok), Loc g L h [("behind", .int ((0) : Nat) tb0), ("ahead", .int ((0) : Nat) ta0), ("least", .int ((2 * x.length) : Nat) tl0), ("text", .str (tx (x.map sg)) tt1), ("right", .ref x2), ("left", .ref x1), ("other", .int ((kp x.reverse).2 : Nat) to), ("lower", .int ((kp x).2 : Nat) tw), ("upper", .int ((kp x).1 : Nat) tu), ("count", .int (x.length : Nat) tc), ("drawn", .ref Dd), ("row", .ref Dr)] → News g L h ((119, tabObj #[]) :: (126, tabObj ps2) :: (x1, lstObj 157 dx1 (refs l1).toArray n3) :: (dx1, dictOf (isD w.params 0 ta1 tb1) nd1) :: (x2, lstObj 157 dx2 ([] : List Value).toArray n2) :: (dx2, dictOf (isD w.params (tot % 3) ta2 tb2) nd2) :: (Dr, listOf ur.toArray kr) :: (Dd, listOf ud.toArray kd) :: (L + 1, o1) :: (tups l1 ++ (own1 ++ own2))) → R h) := by
  have X := C.X
  have T := C.T
  have B := C.B
  have k1 := C.k1
  have k2 := C.k2
  have k3 := C.k3
  have k4 := C.k4
  have hI := C.hI
  have lifted := C.lifted
  have hns := C.hns
  have l0 := C.l0
  have kcd : CdH g := ⟨k2, k1⟩
  clear C
  refine blk_mk (show lawStmt 11 = _ from (by conv => lhs; whnf)) ?_
  intro h0 gg dr tk oo Q G ⟨r, F⟩ N hN
  have k5 := G
  k_extra "kd"
  exact hN _ _ _ _ G rfl _ _ _ _ (by k_extra "lo") (News.perm (by assumption) (by k_extra "psub"))
end
section
local macro_rules | `(tactic| l_idx) => `(tactic| k_extra "lidx")
local macro_rules | `(tactic| k_ne) => `(tactic| k_extra "kne")
local macro_rules | `(tactic| ktr_room) => `(tactic| k_extra "kroom")
local macro_rules | `(tactic| ktr_units) => `(tactic| k_extra "kunits")
local macro_rules | `(tactic| k_all) => `(tactic| k_extra "kall")
local macro_rules | `(tactic| k_inst) => `(tactic| k_extra "kinst")
local macro_rules | `(tactic| walk_at "setAttr ref") => `(tactic| (k_here; k_dflt (refine' set_dictL ?k1 ?k2 ?k3 ?k4 ?k5 ?k6 (acc_mro _) ?k8 ?k9 ?k10 ?k11 ?k12 ?k13 ?_; (case k1 => k_asm); (case k2 => k_asm); (case k3 => k_asm); (case k4 => k_inst); (case k5 => exact rfl); (case k6 => k_is); (case k8 => k_is); (case k9 => k_is); (case k10 => k_get); (case k11 => k_put); (case k12 => k_upd); (case k13 => exact Nat.le_of_ble_eq_true rfl); k_whole; intro h' F' N')))
theorem ls0 {w : World} {loose : List Str} {mean : ExcName → Option Value} {mg mb : Str → Option Value} {g : Heap} (L : Addr) (fa : Addr) (cd : Value) (l : Addr) (vs : List Value) (ns : List Int) (C : LawCtx w loose mean mg mb g L l vs ns) (tot : Nat) (tt : Tok) (o1 : Obj) (e1 : o1.data = .cell (some (.int (tot : Int) tt))) (cl : List Nat) (Dr : Addr) (ur : List Value) (kr : Nat) (x : List Nat) (hr5 : x.length ≤ 5) (hf : List Nat) (Dd : Addr) (ud : List Value) (kd : Nat) (p : List Nat) (tc : Tok) (tu : Tok) (tw : Tok) (to : Tok) (x1 : Addr) (dx1 : Addr) (x2 : Addr) (dx2 : Addr) (nd1 : Nat) (nd2 : Nat) (ta1 : Tok) (tb1 : Tok) (ta2 : Tok) (tb2 : Tok) (hx12 : @Ne Nat x1 x2) (own1 : CbLed) (own2 : CbLed) (hTb : TbsM own1 own2 [(119, tabObj #[]), (126, tabObj #[])]) (tt1 : Tok) (i : Nat) (ti : Tok) (I : Addr) (oI : Obj) (hi : i < 2 * x.length) (hIc : oI.cls = .type "range_iterator") (la : List Pr) (lb : List Pr) (nA : Nat) (nB : Nat) (pz : Array Value) (sl : Tok) (sa : Tok) (sb : Tok) (hla : la.map ptx = sgt (x.take (x.length - i / 2))) (hoff : ∀ q ∈ (((119, tabObj #[]) :: (126, tabObj pz) :: (x1, lstObj 157 dx1 (refs la).toArray nA) :: (dx1, dictOf (isD w.params 0 ta1 tb1) nd1) :: (x2, lstObj 157 dx2 (refs lb).toArray nB) :: (dx2, dictOf (isD w.params (tot % 3) ta2 tb2) nd2) :: (Dr, listOf ur.toArray kr) :: (Dd, listOf ud.toArray kd) :: (L + 1, o1) :: (tups la ++ tups lb ++ (own1 ++ own2))) : CbLed), q.1 ≠ I) :
    Blk w g L fa cd (turnStmt 12 0) [("step", .int (i : Int) ti), ("behind", .int (((best x i).2.2) : Nat) sb), ("ahead", .int (((best x i).2.1) : Nat) sa), ("least", .int (((best x i).1) : Nat) sl), ("text", .str (tx (x.map sg)) tt1), ("right", .ref x2), ("left", .ref x1), ("other", .int ((kp x.reverse).2 : Nat) to), ("lower", .int ((kp x).2 : Nat) tw), ("upper", .int ((kp x).1 : Nat) tu), ("count", .int (x.length : Nat) tc), ("drawn", .ref Dd), ("row", .ref Dr)] ((119, tabObj #[]) :: (126, tabObj pz) :: (x1, lstObj 157 dx1 (refs la).toArray nA) :: (dx1, dictOf (isD w.params 0 ta1 tb1) nd1) :: (x2, lstObj 157 dx2 (refs lb).toArray nB) :: (dx2, dictOf (isD w.params (tot % 3) ta2 tb2) nd2) :: (Dr, listOf ur.toArray kr) :: (Dd, listOf ud.toArray kd) :: (L + 1, o1) :: (tups la ++ tups lb ++ ((own1 ++ own2) ++ [(I, oI)])))
      (fun R => ∀ (h : Heap) (q : Pr) (lc : List Pr) (nC : Nat), lc.map ptx = sgt (x.take (lefts x.length i)) → (i % 2 = 1 → ptx q = tx [sg (x.getD (lefts x.length i) 0)]) → Loc g L h [("piece", .ref q.a), ("step", .int (i : Int) ti), ("behind", .int (((best x i).2.2) : Nat) sb), ("ahead", .int (((best x i).2.1) : Nat) sa), ("least", .int (((best x i).1) : Nat) sl), ("text", .str (tx (x.map sg)) tt1), ("right", .ref x2), ("left", .ref x1), ("other", .int ((kp x.reverse).2 : Nat) to), ("lower", .int ((kp x).2 : Nat) tw), ("upper", .int ((kp x).1 : Nat) tu), ("count", .int (x.length : Nat) tc), ("drawn", .ref Dd), ("row", .ref Dr)] → News g L h ((q.a, { cls := .type "tuple", data := .seq #[.str q.b q.tb, .str q.s q.ts] }) :: (119, tabObj #[]) :: (126, tabObj pz) :: (x1, lstObj 157 dx1 (refs lc).toArray nC) :: (dx1, dictOf (isD w.params 0 ta1 tb1) nd1) :: (x2, lstObj 157 dx2 (refs lb).toArray nB) :: (dx2, dictOf (isD w.params (tot % 3) ta2 tb2) nd2) :: (Dr, listOf ur.toArray kr) :: (Dd, listOf ud.toArray kd) :: (L + 1, o1) :: (tups lc ++ tups lb ++ ((own1 ++ own2) ++ [(I, oI)]))) → R h) := by
  have X := C.X
  have T := C.T
  have B := C.B
  have k1 := C.k1
  have k2 := C.k2
  have k3 := C.k3
  have k4 := C.k4
  have hI := C.hI
  have lifted := C.lifted
  have hns := C.hns
  have l0 := C.l0
  have kcd : CdH g := ⟨k2, k1⟩
  clear C
  refine blk_mk (show turnStmt 12 0 = _ from (by conv => lhs; whnf)) ?_
  intro h0 gg dr tk oo Q G ⟨r, F⟩ N hN
  have k5 := G
  have hlal := pile_len hla
  rcases Nat.mod_two_eq_zero_or_one i with h2 | h2
  · have e0 : (i : Int).fmod 2 = 0 := fm2_0 h2
    repeat' ((fail_if_success (with_reducible show PySem.wpAny _ _ (truthy _) _ _ _)); k_extra "ks1"; try dsimp only)
    rw [e0]
    k_extra "kd"
    (with_reducible rename News _ _ _ _ => N7)
    exact hN _ _ _ _ G rfl _ ⟨_, Str.ofString "", tk + 1 + 1, Str.ofString "", tk + 1 + 1 + 1⟩ la nA (by rw [← lefts_ev h2]; exact hla) (fun h => absurd (h.symm.trans h2) (by decide)) (by k_extra "lo") (News.perm N7 (by k_extra "psub"))
  · have e1' : (i : Int).fmod 2 = 1 := fm2_1 h2
    rw [take_odd h2 hi] at hla
    have hx9 := pile_cut hla
    first | (k_extra "xe5"; clear hx9; intro l' q e2 hl' hq) | obtain ⟨l', q, e2, hl', hq⟩ := hx9
    subst e2
    repeat' ((fail_if_success (with_reducible show PySem.wpAny _ _ (truthy _) _ _ _)); k_extra "ks1"; try dsimp only)
    rw [e1']
    repeat' ((fail_if_success (with_reducible show PySem.wpAny _ _ (call (.ref 117) _) _ _ _)); k_extra "ks1"; try dsimp only)
    rw [List.append_nil]
    rw [refs_snoc, tups_snoc] at N
    have hll := pile_len hl'
    have hlen : (refs l').length ≤ 400 := by
      rw [refs, List.length_map, hll, List.length_take]
      k_extra "li"
    have hna : NoAcc x1 ((119, tabObj #[]) :: (126, tabObj pz) :: (x2, lstObj 157 dx2 (refs lb).toArray nB) :: (dx2, dictOf (isD w.params (tot % 3) ta2 tb2) nd2) :: (Dr, listOf ur.toArray kr) :: (Dd, listOf ud.toArray kd) :: (L + 1, o1) :: ((tups l' ++ [(q.a, { cls := .type "tuple", data := .seq #[.str q.b q.tb, .str q.s q.ts] })]) ++ tups lb ++ ((own1 ++ own2) ++ [(I, oI)]))) := na_i N (by k_mem) (by k_extra "psub") (by
      have a1 := hTb.1
      have a2 := hTb.2.1
      k_extra "na2")
    replace N := News.perm N (news' := (x1, lstObj 157 dx1 (refs l' ++ [Value.ref q.a]).toArray nA) :: (dx1, dictOf (isD w.params 0 ta1 tb1) nd1) :: (119, tabObj #[]) :: (126, tabObj pz) :: (x2, lstObj 157 dx2 (refs lb).toArray nB) :: (dx2, dictOf (isD w.params (tot % 3) ta2 tb2) nd2) :: (Dr, listOf ur.toArray kr) :: (Dd, listOf ud.toArray kd) :: (L + 1, o1) :: ((tups l' ++ [(q.a, { cls := .type "tuple", data := .seq #[.str q.b q.tb, .str q.s q.ts] })]) ++ tups lb ++ ((own1 ++ own2) ++ [(I, oI)]))) (by k_extra "psub")
    (k_dflt (refine' Cl.use (pop_c _ _ _ _ _ ((119, tabObj #[]) :: (126, tabObj pz) :: (x2, lstObj 157 dx2 (refs lb).toArray nB) :: (dx2, dictOf (isD w.params (tot % 3) ta2 tb2) nd2) :: (Dr, listOf ur.toArray kr) :: (Dd, listOf ud.toArray kd) :: (L + 1, o1) :: ((tups l' ++ [(q.a, { cls := .type "tuple", data := .seq #[.str q.b q.tb, .str q.s q.ts] })]) ++ tups lb ++ ((own1 ++ own2) ++ [(I, oI)]))) x1 dx1 (refs l') (Value.ref q.a) nA (isD w.params 0 ta1 tb1) nd1 ?q1 ?q2 ?q3) ?k1 ?k2 ?k3 ?k4 ?k5 ?kK ?kd ?ku ?_; k_extra "cl_use"))
    case q1 => exact hlen
    case q2 => exact hna
    case q3 => rfl
    intro r nx h5 tk5 F5 N5 hR
    first | (revert hR; intro hx9; k_extra "xe2"; clear hx9; intro e5 hx9; (first | (k_extra "xq2"; clear hx9; intro k5' e6) | obtain ⟨k5', e6⟩ := hx9)) | obtain ⟨e5, ⟨k5', e6⟩⟩ := hR
    subst e5
    subst e6
    dsimp only
    k_extra "kd"
    exact hN _ _ _ _ G rfl _ q l' k5' hl' (fun _ => hq) (by k_extra "lo") (News.perm (by assumption) (by k_extra "psub"))
end
section
local macro_rules | `(tactic| l_idx) => `(tactic| k_extra "lidx")
local macro_rules | `(tactic| k_ne) => `(tactic| k_extra "kne")
local macro_rules | `(tactic| ktr_room) => `(tactic| k_extra "kroom")
local macro_rules | `(tactic| ktr_units) => `(tactic| k_extra "kunits")
local macro_rules | `(tactic| k_all) => `(tactic| k_extra "kall")
local macro_rules | `(tactic| k_inst) => `(tactic| k_extra "kinst")
local macro_rules | `(tactic| walk_at "setAttr ref") => `(tactic| (k_here; k_dflt (refine' set_dictL ?k1 ?k2 ?k3 ?k4 ?k5 ?k6 (acc_mro _) ?k8 ?k9 ?k10 ?k11 ?k12 ?k13 ?_; (case k1 => k_asm); (case k2 => k_asm); (case k3 => k_asm); (case k4 => k_inst); (case k5 => exact rfl); (case k6 => k_is); (case k8 => k_is); (case k9 => k_is); (case k10 => k_get); (case k11 => k_put); (case k12 => k_upd); (case k13 => exact Nat.le_of_ble_eq_true rfl); k_whole; intro h' F' N')))
theorem ls1 {w : World} {loose : List Str} {mean : ExcName → Option Value} {mg mb : Str → Option Value} {g : Heap} (L : Addr) (fa : Addr) (cd : Value) (l : Addr) (vs : List Value) (ns : List Int) (C : LawCtx w loose mean mg mb g L l vs ns) (tot : Nat) (o1 : Obj) (cl : List Nat) (Dr : Addr) (ur : List Value) (kr : Nat) (x : List Nat) (hr5 : x.length ≤ 5) (hf : List Nat) (Dd : Addr) (ud : List Value) (kd : Nat) (p : List Nat) (tc : Tok) (tu : Tok) (tw : Tok) (to : Tok) (x1 : Addr) (dx1 : Addr) (x2 : Addr) (dx2 : Addr) (nd1 : Nat) (nd2 : Nat) (ta1 : Tok) (tb1 : Tok) (ta2 : Tok) (tb2 : Tok) (own1 : CbLed) (own2 : CbLed) (hTb : TbsM own1 own2 [(119, tabObj #[]), (126, tabObj #[])]) (tt1 : Tok) (i : Nat) (ti : Tok) (I : Addr) (oI : Obj) (hIc : oI.cls = .type "range_iterator") (lb : List Pr) (nB : Nat) (pz : Array Value) (sl : Tok) (sa : Tok) (sb : Tok) (hpz : TriplesOk pz.toList) (hlb : lb.map ptx = sgt (x.drop (x.length - i / 2)).reverse) (q : Pr) (lc : List Pr) (nC : Nat) (hlc : lc.map ptx = sgt (x.take (lefts x.length i))) :
    Blk w g L fa cd (turnStmt 12 1) [("piece", .ref q.a), ("step", .int (i : Int) ti), ("behind", .int (((best x i).2.2) : Nat) sb), ("ahead", .int (((best x i).2.1) : Nat) sa), ("least", .int (((best x i).1) : Nat) sl), ("text", .str (tx (x.map sg)) tt1), ("right", .ref x2), ("left", .ref x1), ("other", .int ((kp x.reverse).2 : Nat) to), ("lower", .int ((kp x).2 : Nat) tw), ("upper", .int ((kp x).1 : Nat) tu), ("count", .int (x.length : Nat) tc), ("drawn", .ref Dd), ("row", .ref Dr)] ((q.a, { cls := .type "tuple", data := .seq #[.str q.b q.tb, .str q.s q.ts] }) :: (119, tabObj #[]) :: (126, tabObj pz) :: (x1, lstObj 157 dx1 (refs lc).toArray nC) :: (dx1, dictOf (isD w.params 0 ta1 tb1) nd1) :: (x2, lstObj 157 dx2 (refs lb).toArray nB) :: (dx2, dictOf (isD w.params (tot % 3) ta2 tb2) nd2) :: (Dr, listOf ur.toArray kr) :: (Dd, listOf ud.toArray kd) :: (L + 1, o1) :: (tups lc ++ tups lb ++ ((own1 ++ own2) ++ [(I, oI)])))
      (fun R => ∀ (h : Heap) (pz3 : Array Value) (tf : Tok), TriplesOk pz3.toList → Loc g L h [("far", .int (pyLev ((x.take (lefts x.length i)).map sg) ((x.drop (x.length - i / 2)).reverse.map sg) ((best x i).1 : Nat)) tf), ("piece", .ref q.a), ("step", .int (i : Int) ti), ("behind", .int (((best x i).2.2) : Nat) sb), ("ahead", .int (((best x i).2.1) : Nat) sa), ("least", .int (((best x i).1) : Nat) sl), ("text", .str (tx (x.map sg)) tt1), ("right", .ref x2), ("left", .ref x1), ("other", .int ((kp x.reverse).2 : Nat) to), ("lower", .int ((kp x).2 : Nat) tw), ("upper", .int ((kp x).1 : Nat) tu), ("count", .int (x.length : Nat) tc), ("drawn", .ref Dd), ("row", .ref Dr)] → News g L h ((q.a, { cls := .type "tuple", data := .seq #[.str q.b q.tb, .str q.s q.ts] }) :: (119, tabObj #[]) :: (126, tabObj pz3) :: (x1, lstObj 157 dx1 (refs lc).toArray nC) :: (dx1, dictOf (isD w.params 0 ta1 tb1) nd1) :: (x2, lstObj 157 dx2 (refs lb).toArray nB) :: (dx2, dictOf (isD w.params (tot % 3) ta2 tb2) nd2) :: (Dr, listOf ur.toArray kr) :: (Dd, listOf ud.toArray kd) :: (L + 1, o1) :: (tups lc ++ tups lb ++ ((own1 ++ own2) ++ [(I, oI)]))) → R h) := by
  have X := C.X
  have T := C.T
  have B := C.B
  have k1 := C.k1
  have k2 := C.k2
  have k3 := C.k3
  have k4 := C.k4
  have hI := C.hI
  have lifted := C.lifted
  have hns := C.hns
  have l0 := C.l0
  have kcd : CdH g := ⟨k2, k1⟩
  clear C
  refine blk_mk (show turnStmt 12 1 = _ from (by conv => lhs; whnf)) ?_
  intro h0 gg dr tk oo Q G ⟨r, F⟩ N hN
  have k5 := G
  obtain ⟨z1, z2, z3, z4⟩ := l0
  have z5 : 126 < L + 1 := Nat.lt_succ_of_lt z4
  repeat' ((fail_if_success (with_reducible show PySem.wpAny _ _ (call (.ref 131) _) _ _ _)); k_extra "ks1"; try dsimp only)
  have hnta : NoTab 126 ((q.a, { cls := .type "tuple", data := .seq #[.str q.b q.tb, .str q.s q.ts] }) :: (119, tabObj #[]) :: (x2, lstObj 157 dx2 (refs lb).toArray nB) :: (dx2, dictOf (isD w.params (tot % 3) ta2 tb2) nd2) :: (Dr, listOf ur.toArray kr) :: (Dd, listOf ud.toArray kd) :: (L + 1, o1) :: (tups lb ++ ((own1 ++ own2) ++ [(I, oI)]))) := by k_extra "nt"
  (with_reducible rename News _ _ _ _ => N7)
  replace N7 := News.perm N7 (news' := (126, tabObj pz) :: (x1, lstObj 157 dx1 (refs lc).toArray nC) :: (dx1, dictOf (isD w.params 0 ta1 tb1) nd1) :: (tups lc ++ ((q.a, { cls := .type "tuple", data := .seq #[.str q.b q.tb, .str q.s q.ts] }) :: (119, tabObj #[]) :: (x2, lstObj 157 dx2 (refs lb).toArray nB) :: (dx2, dictOf (isD w.params (tot % 3) ta2 tb2) nd2) :: (Dr, listOf ur.toArray kr) :: (Dd, listOf ud.toArray kd) :: (L + 1, o1) :: (tups lb ++ ((own1 ++ own2) ++ [(I, oI)]))))) (by k_extra "psub")
  (k_dflt (refine' ClG.use (str_c _ _ _ _ _ ((q.a, { cls := .type "tuple", data := .seq #[.str q.b q.tb, .str q.s q.ts] }) :: (119, tabObj #[]) :: (x2, lstObj 157 dx2 (refs lb).toArray nB) :: (dx2, dictOf (isD w.params (tot % 3) ta2 tb2) nd2) :: (Dr, listOf ur.toArray kr) :: (Dd, listOf ud.toArray kd) :: (L + 1, o1) :: (tups lb ++ ((own1 ++ own2) ++ [(I, oI)]))) pz x1 dx1 lc nC _ nd1 ?q1 (pile_small hlc) (by assumption) hnta) ?k0 ?kg ?k1 ?k2 ?k3 ?k4 ?k5 ?kK ?kd ?ku ?_; k_extra "str_use"))
  case q1 => rw [pile_len hlc]; first | k_extra "li" | (simp only [List.length_take, List.length_drop, List.length_reverse]; k_extra "li")
  intro r nx6 s6 F6 N6 Ga osa hR
  first | (revert s6; intro hx9; k_extra "xe5"; clear hx9; intro h6 g6 d6 tk6 o6) | obtain ⟨h6, g6, d6, tk6, o6⟩ := s6
  first | (revert hR; intro hx9; k_extra "xe2"; clear hx9; intro hRa hx9; (first | (k_extra "xq3"; clear hx9; intro psa htra eR) | obtain ⟨psa, htra, eR⟩ := hx9)) | obtain ⟨hRa, ⟨psa, htra, eR⟩⟩ := hR
  first | (revert hRa; intro hx9; k_extra "xe2"; clear hx9; intro ta eRa) | obtain ⟨ta, eRa⟩ := hRa
  subst eRa
  subst eR
  try dsimp only at F6 N6 Ga osa
  rw [pile_str hlc]
  clear hnta
  replace N6 := News.perm N6 (news' := (q.a, { cls := .type "tuple", data := .seq #[.str q.b q.tb, .str q.s q.ts] }) :: (119, tabObj #[]) :: (126, tabObj psa) :: (x1, lstObj 157 dx1 (refs lc).toArray nC) :: (dx1, dictOf (isD w.params 0 ta1 tb1) nd1) :: (x2, lstObj 157 dx2 (refs lb).toArray nB) :: (dx2, dictOf (isD w.params (tot % 3) ta2 tb2) nd2) :: (Dr, listOf ur.toArray kr) :: (Dd, listOf ud.toArray kd) :: (L + 1, o1) :: (tups lc ++ tups lb ++ ((own1 ++ own2) ++ [(I, oI)]))) (by k_extra "psub")
  dsimp only [PySem.W.StrBack]
  repeat' ((fail_if_success (with_reducible show PySem.wpAny _ _ (call (.ref 131) _) _ _ _)); k_extra "ks1"; try dsimp only)
  have hntb : NoTab 126 ((q.a, { cls := .type "tuple", data := .seq #[.str q.b q.tb, .str q.s q.ts] }) :: (119, tabObj #[]) :: (x1, lstObj 157 dx1 (refs lc).toArray nC) :: (dx1, dictOf (isD w.params 0 ta1 tb1) nd1) :: (Dr, listOf ur.toArray kr) :: (Dd, listOf ud.toArray kd) :: (L + 1, o1) :: (tups lc ++ ((own1 ++ own2) ++ [(I, oI)]))) := by k_extra "nt"
  (with_reducible rename News _ _ _ _ => N7)
  replace N7 := News.perm N7 (news' := (126, tabObj psa) :: (x2, lstObj 157 dx2 (refs lb).toArray nB) :: (dx2, dictOf (isD w.params (tot % 3) ta2 tb2) nd2) :: (tups lb ++ ((q.a, { cls := .type "tuple", data := .seq #[.str q.b q.tb, .str q.s q.ts] }) :: (119, tabObj #[]) :: (x1, lstObj 157 dx1 (refs lc).toArray nC) :: (dx1, dictOf (isD w.params 0 ta1 tb1) nd1) :: (Dr, listOf ur.toArray kr) :: (Dd, listOf ud.toArray kd) :: (L + 1, o1) :: (tups lc ++ ((own1 ++ own2) ++ [(I, oI)]))))) (by k_extra "psub")
  (k_dflt (refine' ClG.use (str_c _ _ _ _ _ ((q.a, { cls := .type "tuple", data := .seq #[.str q.b q.tb, .str q.s q.ts] }) :: (119, tabObj #[]) :: (x1, lstObj 157 dx1 (refs lc).toArray nC) :: (dx1, dictOf (isD w.params 0 ta1 tb1) nd1) :: (Dr, listOf ur.toArray kr) :: (Dd, listOf ud.toArray kd) :: (L + 1, o1) :: (tups lc ++ ((own1 ++ own2) ++ [(I, oI)]))) psa x2 dx2 lb nB _ nd2 ?q1 (pile_small hlb) (by assumption) hntb) ?k0 ?kg ?k1 ?k2 ?k3 ?k4 ?k5 ?kK ?kd ?ku ?_; k_extra "str_use"))
  case q1 => rw [pile_len hlb]; first | k_extra "li" | (simp only [List.length_take, List.length_drop, List.length_reverse]; k_extra "li")
  intro r nx6 s6 F6 N6 Gb osb hR
  first | (revert s6; intro hx9; k_extra "xe5"; clear hx9; intro h6 g6 d6 tk6 o6) | obtain ⟨h6, g6, d6, tk6, o6⟩ := s6
  first | (revert hR; intro hx9; k_extra "xe2"; clear hx9; intro hRa hx9; (first | (k_extra "xq3"; clear hx9; intro psb htrb eR) | obtain ⟨psb, htrb, eR⟩ := hx9)) | obtain ⟨hRa, ⟨psb, htrb, eR⟩⟩ := hR
  first | (revert hRa; intro hx9; k_extra "xe2"; clear hx9; intro tb eRa) | obtain ⟨tb, eRa⟩ := hRa
  subst eRa
  subst eR
  try dsimp only at F6 N6 Gb osb
  rw [pile_str hlb]
  clear hntb
  replace N6 := News.perm N6 (news' := (q.a, { cls := .type "tuple", data := .seq #[.str q.b q.tb, .str q.s q.ts] }) :: (119, tabObj #[]) :: (126, tabObj psb) :: (x1, lstObj 157 dx1 (refs lc).toArray nC) :: (dx1, dictOf (isD w.params 0 ta1 tb1) nd1) :: (x2, lstObj 157 dx2 (refs lb).toArray nB) :: (dx2, dictOf (isD w.params (tot % 3) ta2 tb2) nd2) :: (Dr, listOf ur.toArray kr) :: (Dd, listOf ud.toArray kd) :: (L + 1, o1) :: (tups lc ++ tups lb ++ ((own1 ++ own2) ++ [(I, oI)]))) (by k_extra "psub")
  dsimp only [PySem.W.StrBack]
  repeat' ((fail_if_success (with_reducible show PySem.wpAny _ _ (call (.ref 35) _) _ _ _)); k_extra "ks1"; try dsimp only)
  (k_dflt (refine' Cl.use (lev_c _ _ _ _ _ ((q.a, { cls := .type "tuple", data := .seq #[.str q.b q.tb, .str q.s q.ts] }) :: (119, tabObj #[]) :: (126, tabObj psb) :: (x1, lstObj 157 dx1 (refs lc).toArray nC) :: (dx1, dictOf (isD w.params 0 ta1 tb1) nd1) :: (x2, lstObj 157 dx2 (refs lb).toArray nB) :: (dx2, dictOf (isD w.params (tot % 3) ta2 tb2) nd2) :: (Dr, listOf ur.toArray kr) :: (Dd, listOf ud.toArray kd) :: (L + 1, o1) :: (tups lc ++ tups lb ++ ((own1 ++ own2) ++ [(I, oI)]))) _ _ _ _ _ _ ?q1 ?q2) ?k1 ?k2 ?k3 ?k4 ?k5 ?kK ?kd ?ku ?_; k_extra "cl_use"))
  case q1 => rw [List.length_map, List.length_take]; k_extra "li"
  case q2 => rw [List.length_map, List.length_reverse, List.length_drop]; k_extra "li"
  intro r nx h8 tk8 F8 N8 hR
  first | (revert hR; intro hx9; k_extra "xe2"; clear hx9; intro e8 hx9; (first | (k_extra "xq2"; clear hx9; intro t8 e9) | obtain ⟨t8, e9⟩ := hx9)) | obtain ⟨e8, ⟨t8, e9⟩⟩ := hR
  subst e8
  subst e9
  dsimp only
  k_extra "kd"
  exact hN _ _ _ _ Gb (osb.trans osa) _ psb _ htrb (by k_extra "lo") (News.perm (by assumption) (by k_extra "psub"))
end
section
local macro_rules | `(tactic| l_idx) => `(tactic| k_extra "lidx")
local macro_rules | `(tactic| k_ne) => `(tactic| k_extra "kne")
local macro_rules | `(tactic| ktr_room) => `(tactic| k_extra "kroom")
local macro_rules | `(tactic| ktr_units) => `(tactic| k_extra "kunits")
local macro_rules | `(tactic| k_all) => `(tactic| k_extra "kall")
local macro_rules | `(tactic| k_inst) => `(tactic| k_extra "kinst")
local macro_rules | `(tactic| walk_at "setAttr ref") => `(tactic| (k_here; k_dflt (refine' set_dictL ?k1 ?k2 ?k3 ?k4 ?k5 ?k6 (acc_mro _) ?k8 ?k9 ?k10 ?k11 ?k12 ?k13 ?_; (case k1 => k_asm); (case k2 => k_asm); (case k3 => k_asm); (case k4 => k_inst); (case k5 => exact rfl); (case k6 => k_is); (case k8 => k_is); (case k9 => k_is); (case k10 => k_get); (case k11 => k_put); (case k12 => k_upd); (case k13 => exact Nat.le_of_ble_eq_true rfl); k_whole; intro h' F' N')))
theorem ls2 {w : World} {loose : List Str} {mean : ExcName → Option Value} {mg mb : Str → Option Value} {g : Heap} (L : Addr) (fa : Addr) (cd : Value) (l : Addr) (vs : List Value) (ns : List Int) (C : LawCtx w loose mean mg mb g L l vs ns) (tot : Nat) (o1 : Obj) (cl : List Nat) (Dr : Addr) (ur : List Value) (kr : Nat) (x : List Nat) (hrq : Qs x) (hr5 : x.length ≤ 5) (hf : List Nat) (Dd : Addr) (ud : List Value) (kd : Nat) (p : List Nat) (tc : Tok) (tu : Tok) (tw : Tok) (to : Tok) (x1 : Addr) (dx1 : Addr) (x2 : Addr) (dx2 : Addr) (nd1 : Nat) (nd2 : Nat) (ta1 : Tok) (tb1 : Tok) (ta2 : Tok) (tb2 : Tok) (own1 : CbLed) (own2 : CbLed) (tt1 : Tok) (i : Nat) (ti : Tok) (I : Addr) (oI : Obj) (hi : i < 2 * x.length) (lb : List Pr) (nB : Nat) (sl : Tok) (sa : Tok) (sb : Tok) (q : Pr) (lc : List Pr) (nC : Nat) (hlc : lc.map ptx = sgt (x.take (lefts x.length i))) (pz3 : Array Value) (tf : Tok) :
    Blk w g L fa cd (turnStmt 12 2) [("far", .int (pyLev ((x.take (lefts x.length i)).map sg) ((x.drop (x.length - i / 2)).reverse.map sg) ((best x i).1 : Nat)) tf), ("piece", .ref q.a), ("step", .int (i : Int) ti), ("behind", .int (((best x i).2.2) : Nat) sb), ("ahead", .int (((best x i).2.1) : Nat) sa), ("least", .int (((best x i).1) : Nat) sl), ("text", .str (tx (x.map sg)) tt1), ("right", .ref x2), ("left", .ref x1), ("other", .int ((kp x.reverse).2 : Nat) to), ("lower", .int ((kp x).2 : Nat) tw), ("upper", .int ((kp x).1 : Nat) tu), ("count", .int (x.length : Nat) tc), ("drawn", .ref Dd), ("row", .ref Dr)] ((q.a, { cls := .type "tuple", data := .seq #[.str q.b q.tb, .str q.s q.ts] }) :: (119, tabObj #[]) :: (126, tabObj pz3) :: (x1, lstObj 157 dx1 (refs lc).toArray nC) :: (dx1, dictOf (isD w.params 0 ta1 tb1) nd1) :: (x2, lstObj 157 dx2 (refs lb).toArray nB) :: (dx2, dictOf (isD w.params (tot % 3) ta2 tb2) nd2) :: (Dr, listOf ur.toArray kr) :: (Dd, listOf ud.toArray kd) :: (L + 1, o1) :: (tups lc ++ tups lb ++ ((own1 ++ own2) ++ [(I, oI)])))
      (fun R => ∀ (h : Heap) (ul : Tok) (va : Tok) (wb : Tok), Loc g L h [("piece", .ref q.a), ("step", .int (i : Int) ti), ("behind", .int (((best x (i + 1)).2.2) : Nat) wb), ("ahead", .int (((best x (i + 1)).2.1) : Nat) va), ("least", .int (((best x (i + 1)).1) : Nat) ul), ("text", .str (tx (x.map sg)) tt1), ("right", .ref x2), ("left", .ref x1), ("other", .int ((kp x.reverse).2 : Nat) to), ("lower", .int ((kp x).2 : Nat) tw), ("upper", .int ((kp x).1 : Nat) tu), ("count", .int (x.length : Nat) tc), ("drawn", .ref Dd), ("row", .ref Dr)] → News g L h ((q.a, { cls := .type "tuple", data := .seq #[.str q.b q.tb, .str q.s q.ts] }) :: (119, tabObj #[]) :: (126, tabObj pz3) :: (x1, lstObj 157 dx1 (refs lc).toArray nC) :: (dx1, dictOf (isD w.params 0 ta1 tb1) nd1) :: (x2, lstObj 157 dx2 (refs lb).toArray nB) :: (dx2, dictOf (isD w.params (tot % 3) ta2 tb2) nd2) :: (Dr, listOf ur.toArray kr) :: (Dd, listOf ud.toArray kd) :: (L + 1, o1) :: (tups lc ++ tups lb ++ ((own1 ++ own2) ++ [(I, oI)]))) → R h) := by
  have X := C.X
  have T := C.T
  have B := C.B
  have k1 := C.k1
  have k2 := C.k2
  have k3 := C.k3
  have k4 := C.k4
  have hI := C.hI
  have lifted := C.lifted
  have hns := C.hns
  have l0 := C.l0
  have kcd : CdH g := ⟨k2, k1⟩
  clear C
  refine blk_mk (show turnStmt 12 2 = _ from (by conv => lhs; whnf)) ?_
  intro h0 gg dr tk oo Q G ⟨r, F⟩ N hN
  have k5 := G
  have hst := lev_step hrq (by k_extra "li") i (best x i).1
  have hpc := pile_len hlc
  have hp2 : (refs lc).length = lefts x.length i := by rw [refs, List.length_map, hpc, len_lefts]
  have hhi := half_i hi
  generalize hpy : pyLev _ _ _ = far at *
  clear hpy
  first | (revert hst; intro hx9; k_extra "xe2"; clear hx9; intro ha hb) | obtain ⟨ha, hb⟩ := hst
  by_cases hlt : stpC x i < (best x i).1
  · have e1 := hb hlt
    subst e1
    rw [best_lt hlt] at hN
    have hlt' : ((stpC x i : Nat) : Int) < (((best x i).1 : Nat) : Int) := Int.ofNat_lt.mpr hlt
    repeat' ((fail_if_success (with_reducible show PySem.wpAny _ _ (call (.ref 154) _) _ _ _)); k_extra "ks1"; try dsimp only)
    (with_reducible rename News _ _ _ _ => N7)
    replace N7 := News.perm N7 (news' := (x1, lstObj 157 dx1 (refs lc).toArray nC) :: (dx1, dictOf (isD w.params 0 ta1 tb1) nd1) :: (q.a, { cls := .type "tuple", data := .seq #[.str q.b q.tb, .str q.s q.ts] }) :: (119, tabObj #[]) :: (126, tabObj pz3) :: (x2, lstObj 157 dx2 (refs lb).toArray nB) :: (dx2, dictOf (isD w.params (tot % 3) ta2 tb2) nd2) :: (Dr, listOf ur.toArray kr) :: (Dd, listOf ud.toArray kd) :: (L + 1, o1) :: ((tups lc ++ tups lb) ++ ((own1 ++ own2) ++ [(I, oI)]))) (by k_extra "psub")
    (k_dflt (refine' Cl.use (pc_c _ _ _ _ _ ((q.a, { cls := .type "tuple", data := .seq #[.str q.b q.tb, .str q.s q.ts] }) :: (119, tabObj #[]) :: (126, tabObj pz3) :: (x2, lstObj 157 dx2 (refs lb).toArray nB) :: (dx2, dictOf (isD w.params (tot % 3) ta2 tb2) nd2) :: (Dr, listOf ur.toArray kr) :: (Dd, listOf ud.toArray kd) :: (L + 1, o1) :: ((tups lc ++ tups lb) ++ ((own1 ++ own2) ++ [(I, oI)]))) x1 dx1 (refs lc) nC (isD w.params 0 ta1 tb1) nd1 ?q1) ?k1 ?k2 ?k3 ?k4 ?k5 ?kK ?kd ?ku ?_; k_extra "cl_use"))
    case q1 => rw [hp2]; unfold lefts; k_extra "li"
    intro r nx h5 tk5 F5 N5 hR
    first | (revert hR; intro hx9; k_extra "xe2"; clear hx9; intro hR1 e6) | obtain ⟨hR1, e6⟩ := hR
    first | (revert hR1; intro hx9; k_extra "xe2"; clear hx9; intro t5 e5) | obtain ⟨t5, e5⟩ := hR1
    subst e5
    subst e6
    rw [hp2]
    dsimp only
    k_extra "kd"
    (with_reducible rename Fr _ _ _ _ => F9)
    rw [hhi] at F9
    exact hN _ _ _ _ G rfl _ _ _ _ (by k_extra "lo") (News.perm (by assumption) (by k_extra "psub"))
  · rw [best_ge hlt] at hN
    have hge : ¬ far < (((best x i).1 : Nat) : Int) := fun h => hlt (ha.mp h)
    k_extra "kd"
    exact hN _ _ _ _ G rfl _ _ _ _ (by k_extra "lo") (News.perm (by assumption) (by k_extra "psub"))
end
section
local macro_rules | `(tactic| l_idx) => `(tactic| k_extra "lidx")
local macro_rules | `(tactic| k_ne) => `(tactic| k_extra "kne")
local macro_rules | `(tactic| ktr_room) => `(tactic| k_extra "kroom")
local macro_rules | `(tactic| ktr_units) => `(tactic| k_extra "kunits")
local macro_rules | `(tactic| k_all) => `(tactic| k_extra "kall")
local macro_rules | `(tactic| k_inst) => `(tactic| k_extra "kinst")
local macro_rules | `(tactic| walk_at "setAttr ref") => `(tactic| (k_here; k_dflt (refine' set_dictL ?k1 ?k2 ?k3 ?k4 ?k5 ?k6 (acc_mro _) ?k8 ?k9 ?k10 ?k11 ?k12 ?k13 ?_; (case k1 => k_asm); (case k2 => k_asm); (case k3 => k_asm); (case k4 => k_inst); (case k5 => exact rfl); (case k6 => k_is); (case k8 => k_is); (case k9 => k_is); (case k10 => k_get); (case k11 => k_put); (case k12 => k_upd); (case k13 => exact Nat.le_of_ble_eq_true rfl); k_whole; intro h' F' N')))
theorem ls3 {w : World} {loose : List Str} {mean : ExcName → Option Value} {mg mb : Str → Option Value} {g : Heap} (L : Addr) (fa : Addr) (cd : Value) (l : Addr) (vs : List Value) (ns : List Int) (C : LawCtx w loose mean mg mb g L l vs ns) (tot : Nat) (tt : Tok) (o1 : Obj) (e1 : o1.data = .cell (some (.int (tot : Int) tt))) (cl : List Nat) (Dr : Addr) (ur : List Value) (kr : Nat) (x : List Nat) (hr5 : x.length ≤ 5) (hf : List Nat) (Dd : Addr) (ud : List Value) (kd : Nat) (p : List Nat) (tc : Tok) (tu : Tok) (tw : Tok) (to : Tok) (x1 : Addr) (dx1 : Addr) (x2 : Addr) (dx2 : Addr) (nd1 : Nat) (nd2 : Nat) (ta1 : Tok) (tb1 : Tok) (ta2 : Tok) (tb2 : Tok) (hx12 : @Ne Nat x1 x2) (own1 : CbLed) (own2 : CbLed) (hTb : TbsM own1 own2 [(119, tabObj #[]), (126, tabObj #[])]) (tt1 : Tok) (i : Nat) (ti : Tok) (I : Addr) (oI : Obj) (hi : i < 2 * x.length) (hIc : oI.cls = .type "range_iterator") (lb : List Pr) (nB : Nat) (hlb : lb.map ptx = sgt (x.drop (x.length - i / 2)).reverse) (q : Pr) (lc : List Pr) (nC : Nat) (hqo : i % 2 = 1 → ptx q = tx [sg (x.getD (lefts x.length i) 0)]) (pz3 : Array Value) (ul : Tok) (va : Tok) (wb : Tok) :
    Blk w g L fa cd (turnStmt 12 3) [("piece", .ref q.a), ("step", .int (i : Int) ti), ("behind", .int (((best x (i + 1)).2.2) : Nat) wb), ("ahead", .int (((best x (i + 1)).2.1) : Nat) va), ("least", .int (((best x (i + 1)).1) : Nat) ul), ("text", .str (tx (x.map sg)) tt1), ("right", .ref x2), ("left", .ref x1), ("other", .int ((kp x.reverse).2 : Nat) to), ("lower", .int ((kp x).2 : Nat) tw), ("upper", .int ((kp x).1 : Nat) tu), ("count", .int (x.length : Nat) tc), ("drawn", .ref Dd), ("row", .ref Dr)] ((q.a, { cls := .type "tuple", data := .seq #[.str q.b q.tb, .str q.s q.ts] }) :: (119, tabObj #[]) :: (126, tabObj pz3) :: (x1, lstObj 157 dx1 (refs lc).toArray nC) :: (dx1, dictOf (isD w.params 0 ta1 tb1) nd1) :: (x2, lstObj 157 dx2 (refs lb).toArray nB) :: (dx2, dictOf (isD w.params (tot % 3) ta2 tb2) nd2) :: (Dr, listOf ur.toArray kr) :: (Dd, listOf ud.toArray kd) :: (L + 1, o1) :: (tups lc ++ tups lb ++ ((own1 ++ own2) ++ [(I, oI)])))
      (fun R => ∀ (h : Heap) (ld : List Pr) (nD : Nat), ld.map ptx = sgt (x.drop (x.length - (i + 1) / 2)).reverse → Loc g L h [("step", .int (i : Int) ti), ("behind", .int (((best x (i + 1)).2.2) : Nat) wb), ("ahead", .int (((best x (i + 1)).2.1) : Nat) va), ("least", .int (((best x (i + 1)).1) : Nat) ul), ("text", .str (tx (x.map sg)) tt1), ("right", .ref x2), ("left", .ref x1), ("other", .int ((kp x.reverse).2 : Nat) to), ("lower", .int ((kp x).2 : Nat) tw), ("upper", .int ((kp x).1 : Nat) tu), ("count", .int (x.length : Nat) tc), ("drawn", .ref Dd), ("row", .ref Dr)] → News g L h ((119, tabObj #[]) :: (126, tabObj pz3) :: (x1, lstObj 157 dx1 (refs lc).toArray nC) :: (dx1, dictOf (isD w.params 0 ta1 tb1) nd1) :: (x2, lstObj 157 dx2 (refs ld).toArray nD) :: (dx2, dictOf (isD w.params (tot % 3) ta2 tb2) nd2) :: (Dr, listOf ur.toArray kr) :: (Dd, listOf ud.toArray kd) :: (L + 1, o1) :: (tups lc ++ tups ld ++ ((own1 ++ own2) ++ [(I, oI)]))) → R h) := by
  have X := C.X
  have T := C.T
  have B := C.B
  have k1 := C.k1
  have k2 := C.k2
  have k3 := C.k3
  have k4 := C.k4
  have hI := C.hI
  have lifted := C.lifted
  have hns := C.hns
  have l0 := C.l0
  have kcd : CdH g := ⟨k2, k1⟩
  clear C
  refine blk_mk (show turnStmt 12 3 = _ from (by conv => lhs; whnf)) ?_
  intro h0 gg dr tk oo Q G ⟨r, F⟩ N hN
  have k5 := G
  have hlbl := pile_len hlb
  have hlen : (refs lb).length ≤ 500 := by
    rw [refs, List.length_map, hlbl, List.length_reverse, List.length_drop]
    k_extra "li"
  rcases Nat.mod_two_eq_zero_or_one i with h2 | h2
  · have e0 : (i : Int).fmod 2 = 0 := fm2_0 h2
    repeat' ((fail_if_success (with_reducible show PySem.wpAny _ _ (truthy _) _ _ _)); k_extra "ks1"; try dsimp only)
    rw [e0]
    k_extra "kd"
    exact hN _ _ _ _ G rfl _ lb nB (by rw [drop_ev h2]; exact hlb) (by k_extra "lo") (News.perm (by assumption) (by k_extra "psub"))
  · have e1' : (i : Int).fmod 2 = 1 := fm2_1 h2
    have hq := hqo h2
    repeat' ((fail_if_success (with_reducible show PySem.wpAny _ _ (truthy _) _ _ _)); k_extra "ks1"; try dsimp only)
    rw [e1']
    repeat' ((fail_if_success (with_reducible show PySem.wpAny _ _ (call (.ref 101) _) _ _ _)); k_extra "ks1"; try dsimp only)
    (with_reducible rename News _ _ _ _ => N7)
    have hna : NoAcc x2 ((q.a, { cls := .type "tuple", data := .seq #[.str q.b q.tb, .str q.s q.ts] }) :: (119, tabObj #[]) :: (126, tabObj pz3) :: (x1, lstObj 157 dx1 (refs lc).toArray nC) :: (dx1, dictOf (isD w.params 0 ta1 tb1) nd1) :: (Dr, listOf ur.toArray kr) :: (Dd, listOf ud.toArray kd) :: (L + 1, o1) :: ((tups lc ++ tups lb) ++ ((own1 ++ own2) ++ [(I, oI)]))) := na_i N7 (by k_mem) (by k_extra "psub") (by
      have a1 := hTb.1
      have a2 := hTb.2.1
      k_extra "na2")
    replace N7 := News.perm N7 (news' := (x2, lstObj 157 dx2 (refs lb).toArray nB) :: (dx2, dictOf (isD w.params (tot % 3) ta2 tb2) nd2) :: (q.a, { cls := .type "tuple", data := .seq #[.str q.b q.tb, .str q.s q.ts] }) :: (119, tabObj #[]) :: (126, tabObj pz3) :: (x1, lstObj 157 dx1 (refs lc).toArray nC) :: (dx1, dictOf (isD w.params 0 ta1 tb1) nd1) :: (Dr, listOf ur.toArray kr) :: (Dd, listOf ud.toArray kd) :: (L + 1, o1) :: ((tups lc ++ tups lb) ++ ((own1 ++ own2) ++ [(I, oI)]))) (by k_extra "psub")
    (k_dflt (refine' Cl.use (push_c _ _ _ _ _ ((q.a, { cls := .type "tuple", data := .seq #[.str q.b q.tb, .str q.s q.ts] }) :: (119, tabObj #[]) :: (126, tabObj pz3) :: (x1, lstObj 157 dx1 (refs lc).toArray nC) :: (dx1, dictOf (isD w.params 0 ta1 tb1) nd1) :: (Dr, listOf ur.toArray kr) :: (Dd, listOf ud.toArray kd) :: (L + 1, o1) :: ((tups lc ++ tups lb) ++ ((own1 ++ own2) ++ [(I, oI)]))) x2 dx2 (refs lb) nB (isD w.params (tot % 3) ta2 tb2) nd2 _ _ _ _ ?q1 ?q2 ?q3) ?k1 ?k2 ?k3 ?k4 ?k5 ?kK ?kd ?ku ?_; k_extra "cl_use"))
    case q1 => exact hlen
    case q2 => rfl
    case q3 => exact hna
    intro r nx h5 tk5 F5 N5 hR
    first | (revert hR; intro hx9; k_extra "xe2"; clear hx9; intro e5 hx9; (first | (k_extra "xq3"; clear hx9; intro T6 mm e6) | obtain ⟨T6, mm, e6⟩ := hx9)) | obtain ⟨e5, ⟨T6, mm, e6⟩⟩ := hR
    subst e5
    subst e6
    dsimp only
    k_extra "kd"
    refine hN _ _ _ _ G rfl _ (lb ++ [⟨T6, q.b, q.tb, q.s, q.ts⟩]) mm (by rw [drop_odd h2 hi]; exact pile_add hlb hq) (by k_extra "lo") ?_
    rw [tups_snoc, refs_snoc]
    exact News.perm (by assumption) (by k_extra "psub")
end
section
local macro_rules | `(tactic| l_idx) => `(tactic| k_extra "lidx")
local macro_rules | `(tactic| k_ne) => `(tactic| k_extra "kne")
local macro_rules | `(tactic| ktr_room) => `(tactic| k_extra "kroom")
local macro_rules | `(tactic| ktr_units) => `(tactic| k_extra "kunits")
local macro_rules | `(tactic| k_all) => `(tactic| k_extra "kall")
local macro_rules | `(tactic| k_inst) => `(tactic| k_extra "kinst")
local macro_rules | `(tactic| walk_at "setAttr ref") => `(tactic| (k_here; k_dflt (refine' set_dictL ?k1 ?k2 ?k3 ?k4 ?k5 ?k6 (acc_mro _) ?k8 ?k9 ?k10 ?k11 ?k12 ?k13 ?_; (case k1 => k_asm); (case k2 => k_asm); (case k3 => k_asm); (case k4 => k_inst); (case k5 => exact rfl); (case k6 => k_is); (case k8 => k_is); (case k9 => k_is); (case k10 => k_get); (case k11 => k_put); (case k12 => k_upd); (case k13 => exact Nat.le_of_ble_eq_true rfl); k_whole; intro h' F' N')))
theorem lb12 {w : World} {loose : List Str} {mean : ExcName → Option Value} {mg mb : Str → Option Value} {g : Heap} (L : Addr) (fa : Addr) (cd : Value) (l : Addr) (vs : List Value) (ns : List Int) (C : LawCtx w loose mean mg mb g L l vs ns) (c1 : Obj) (d1 : c1.data = .cell none) (tot : Nat) (tt : Tok) (o1 : Obj) (e1 : o1.data = .cell (some (.int (tot : Int) tt))) (D1 : Addr) (uc : List Value) (kc : Nat) (cl : List Nat) (hcI : IntsAre uc (nats cl)) (hcq : Qs cl) (hcl : cl.length = 8) (Dr : Addr) (ur : List Value) (kr : Nat) (x : List Nat) (hrI : IntsAre ur (nats x)) (hrq : Qs x) (hr4 : 4 ≤ x.length) (hr5 : x.length ≤ 5) (Dh : Addr) (uh : List Value) (kh : Nat) (hf : List Nat) (hhI : IntsAre uh (nats hf)) (hhq : Qs hf) (hh2 : 2 ≤ hf.length) (hh3 : hf.length ≤ 3) (Dd : Addr) (ud : List Value) (kd : Nat) (p : List Nat) (hdI : IntsAre ud (nats p)) (hdq : Qs p) (hdp : p.reverse = p) (hd6 : p.length ≤ 6) (tc : Tok) (tu : Tok) (tw : Tok) (to : Tok) (x1 : Addr) (dx1 : Addr) (x2 : Addr) (dx2 : Addr) (n1 : Nat) (n2 : Nat) (nd1 : Nat) (nd2 : Nat) (ta1 : Tok) (tb1 : Tok) (ta2 : Tok) (tb2 : Tok) (hx12 : @Ne Nat x1 x2) (l1 : List Pr) (n3 : Nat) (own1 : CbLed) (own2 : CbLed) (hl1 : l1.map ptx = sgt x) (hTb : TbsM own1 own2 [(119, tabObj #[]), (126, tabObj #[])]) (tt1 : Tok) (ps2 : Array Value) (hps2 : TriplesOk ps2.toList) (tl0 : Tok) (ta0 : Tok) (tb0 : Tok) :
    Blk w g L fa cd (lawStmt 12) [("behind", .int ((0) : Nat) tb0), ("ahead", .int ((0) : Nat) ta0), ("least", .int ((2 * x.length) : Nat) tl0), ("text", .str (tx (x.map sg)) tt1), ("right", .ref x2), ("left", .ref x1), ("other", .int ((kp x.reverse).2 : Nat) to), ("lower", .int ((kp x).2 : Nat) tw), ("upper", .int ((kp x).1 : Nat) tu), ("count", .int (x.length : Nat) tc), ("drawn", .ref Dd), ("row", .ref Dr)] ((119, tabObj #[]) :: (126, tabObj ps2) :: (x1, lstObj 157 dx1 (refs l1).toArray n3) :: (dx1, dictOf (isD w.params 0 ta1 tb1) nd1) :: (x2, lstObj 157 dx2 ([] : List Value).toArray n2) :: (dx2, dictOf (isD w.params (tot % 3) ta2 tb2) nd2) :: (Dr, listOf ur.toArray kr) :: (Dd, listOf ud.toArray kd) :: (L + 1, o1) :: (tups l1 ++ (own1 ++ own2)))
      (fun R => ∀ (h : Heap) (ls : Nat) (ah : Nat) (bh : Nat) (sl : Tok) (sa : Tok) (sb : Tok) (lb : List Pr) (nA : Nat) (nB : Nat) (pz : Array Value), Found x ls ah bh → TriplesOk pz.toList → lb.map ptx = sgt x.reverse → Loc g L h [("behind", .int ((bh) : Nat) sb), ("ahead", .int ((ah) : Nat) sa), ("least", .int ((ls) : Nat) sl), ("text", .str (tx (x.map sg)) tt1), ("right", .ref x2), ("left", .ref x1), ("other", .int ((kp x.reverse).2 : Nat) to), ("lower", .int ((kp x).2 : Nat) tw), ("upper", .int ((kp x).1 : Nat) tu), ("count", .int (x.length : Nat) tc), ("drawn", .ref Dd), ("row", .ref Dr)] → News g L h ((119, tabObj #[]) :: (126, tabObj pz) :: (x1, lstObj 157 dx1 ([] : List Value).toArray nA) :: (dx1, dictOf (isD w.params 0 ta1 tb1) nd1) :: (x2, lstObj 157 dx2 (refs lb).toArray nB) :: (dx2, dictOf (isD w.params (tot % 3) ta2 tb2) nd2) :: (Dr, listOf ur.toArray kr) :: (Dd, listOf ud.toArray kd) :: (L + 1, o1) :: (tups lb ++ (own1 ++ own2))) → R h) := by
  have X := C.X
  have T := C.T
  have B := C.B
  have k1 := C.k1
  have k2 := C.k2
  have k3 := C.k3
  have k4 := C.k4
  have hI := C.hI
  have lifted := C.lifted
  have hns := C.hns
  have l0 := C.l0
  have kcd : CdH g := ⟨k2, k1⟩
  refine blk_mk (show lawStmt 12 = _ from (by conv => lhs; whnf)) ?_
  intro h0 gg dr tk oo Q G ⟨r, F⟩ N hN
  have k5 := G
  refine forRG g (2 * x.length) (fun i m nx => ∃ (la lb : List Pr) (nA nB : Nat) (pz : Array Value) (sl sa sb : Tok) (uu : Unit), nx = (119, tabObj #[]) :: (126, tabObj pz) :: (x1, lstObj 157 dx1 (refs la).toArray nA) :: (dx1, dictOf (isD w.params 0 ta1 tb1) nd1) :: (x2, lstObj 157 dx2 (refs lb).toArray nB) :: (dx2, dictOf (isD w.params (tot % 3) ta2 tb2) nd2) :: (Dr, listOf ur.toArray kr) :: (Dd, listOf ud.toArray kd) :: (L + 1, o1) :: (tups la ++ tups lb ++ (own1 ++ own2)) ∧ TriplesOk pz.toList ∧ la.map ptx = sgt (x.take (x.length - i / 2)) ∧ lb.map ptx = sgt (x.drop (x.length - i / 2)).reverse ∧ Kn m [("behind", .int (((best x i).2.2) : Nat) sb), ("ahead", .int (((best x i).2.1) : Nat) sa), ("least", .int (((best x i).1) : Nat) sl), ("text", .str (tx (x.map sg)) tt1), ("right", .ref x2), ("left", .ref x1), ("other", .int ((kp x.reverse).2 : Nat) to), ("lower", .int ((kp x).2 : Nat) tw), ("upper", .int ((kp x).1 : Nat) tu), ("count", .int (x.length : Nat) tc), ("drawn", .ref Dd), ("row", .ref Dr)]) (by rfl) (by rfl) ?_ (by intro _; rfl)
  repeat' ((fail_if_success (show RGat ..)); k_extra "ks1"; try dsimp only)
  (with_reducible rename Fr _ _ _ _ => F12)
  (with_reducible rename News _ _ _ _ => N12)
  refine mx7 _ _ _ _ _ _ _ ⟨rfl, rfl, by assumption, by first | rfl | k_extra "li", by k_extra "li", F12, News.perm N12 (news' := (119, tabObj #[]) :: (126, tabObj ps2) :: (x1, lstObj 157 dx1 (refs l1).toArray n3) :: (dx1, dictOf (isD w.params 0 ta1 tb1) nd1) :: (x2, lstObj 157 dx2 (refs []).toArray n2) :: (dx2, dictOf (isD w.params (tot % 3) ta2 tb2) nd2) :: (Dr, listOf ur.toArray kr) :: (Dd, listOf ud.toArray kd) :: (L + 1, o1) :: (tups l1 ++ tups [] ++ (own1 ++ own2))) (by k_extra "psub"), G, mx9 l1 [] n3 n2 ps2 tl0 ta0 tb0 () ⟨rfl, hps2, ?_, ?_, ?_⟩, ?_, ?_⟩
  · rw [Nat.zero_div, Nat.sub_zero, List.take_length]; exact hl1
  · rw [Nat.zero_div, Nat.sub_zero, List.drop_length]; rfl
  · k_extra "kn_all"
  · intro i ti m₁ nx₁ hx9
    first | (k_extra "xq5"; clear hx9; intro h₂ gg2 dr2 tk0 oo2) | obtain ⟨h₂, gg2, dr2, tk0, oo2⟩ := hx9
    intro I oI hi hJ os2 G2 F2 N2 hIc hoff
    dsimp only at os2 G2 F2 N2
    first | (revert hJ; intro hx9; k_extra "xe14"; clear hx9; intro la lb nA nB pz sl sa sb uu e0 hpz hla hlb hm) | obtain ⟨la, lb, nA, nB, pz, sl, sa, sb, uu, e0, hpz, hla, hlb, hm⟩ := hJ
    subst e0
    replace F2 := locS F2 hm
    replace N2 : News g L h₂ ((119, tabObj #[]) :: (126, tabObj pz) :: (x1, lstObj 157 dx1 (refs la).toArray nA) :: (dx1, dictOf (isD w.params 0 ta1 tb1) nd1) :: (x2, lstObj 157 dx2 (refs lb).toArray nB) :: (dx2, dictOf (isD w.params (tot % 3) ta2 tb2) nd2) :: (Dr, listOf ur.toArray kr) :: (Dd, listOf ud.toArray kd) :: (L + 1, o1) :: (tups la ++ tups lb ++ ((own1 ++ own2) ++ [(I, oI)]))) := News.perm N2 (by k_extra "psub")
    clear F12 N12 hm
    refine blk_cons (ls0 L fa cd l vs ns C tot tt o1 e1 cl Dr ur kr x hr5 hf Dd ud kd p tc tu tw to x1 dx1 x2 dx2 nd1 nd2 ta1 tb1 ta2 tb2 hx12 own1 own2 hTb tt1 i ti I oI hi hIc la lb nA nB pz sl sa sb hla hoff) G2 F2 N2 ?_
    intro ggs0 dds0 tks0 Gs0 hhs0 q lc nC hlc hqo Fs0 Ns0
    clear F2 N2
    refine blk_cons (ls1 L fa cd l vs ns C tot o1 cl Dr ur kr x hr5 hf Dd ud kd p tc tu tw to x1 dx1 x2 dx2 nd1 nd2 ta1 tb1 ta2 tb2 own1 own2 hTb tt1 i ti I oI hIc lb nB pz sl sa sb hpz hlb q lc nC hlc) Gs0 Fs0 Ns0 ?_
    intro ggs1 dds1 tks1 Gs1 hhs1 pz3 tf hp3 Fs1 Ns1
    clear Fs0 Ns0
    refine blk_cons (ls2 L fa cd l vs ns C tot o1 cl Dr ur kr x hrq hr5 hf Dd ud kd p tc tu tw to x1 dx1 x2 dx2 nd1 nd2 ta1 tb1 ta2 tb2 own1 own2 tt1 i ti I oI hi lb nB sl sa sb q lc nC hlc pz3 tf) Gs1 Fs1 Ns1 ?_
    intro ggs2 dds2 tks2 Gs2 hhs2 ul va wb Fs2 Ns2
    clear Fs1 Ns1
    refine blk_cons (ls3 L fa cd l vs ns C tot tt o1 e1 cl Dr ur kr x hr5 hf Dd ud kd p tc tu tw to x1 dx1 x2 dx2 nd1 nd2 ta1 tb1 ta2 tb2 hx12 own1 own2 hTb tt1 i ti I oI hi hIc lb nB hlb q lc nC hqo pz3 ul va wb) Gs2 Fs2 Ns2 ?_
    intro ggs3 dds3 tks3 Gs3 hhs3 ld nD hld Fs3 Ns3
    clear Fs2 Ns2
    first | (revert Fs3; intro hx9; k_extra "xe2"; clear hx9; intro rs Fs3) | obtain ⟨rs, Fs3⟩ := Fs3
    have hofx1 : x1 ≠ I := hoff (x1, _) (by k_mem)
    have hofx2 : x2 ≠ I := hoff (x2, _) (by k_mem)
    have hof6 : @Ne Nat 126 I := hoff (126, _) (by k_mem)
    have hotu : ∀ l : List Pr, (∀ p ∈ tups l, p ∈ (119, tabObj #[]) :: (126, tabObj pz3) :: (x1, lstObj 157 dx1 (refs lc).toArray nC) :: (dx1, dictOf (isD w.params 0 ta1 tb1) nd1) :: (x2, lstObj 157 dx2 (refs ld).toArray nD) :: (dx2, dictOf (isD w.params (tot % 3) ta2 tb2) nd2) :: (Dr, listOf ur.toArray kr) :: (Dd, listOf ud.toArray kd) :: (L + 1, o1) :: (tups lc ++ tups ld ++ ((own1 ++ own2) ++ [(I, oI)]))) → ∀ p ∈ tups l, p.1 ≠ I := fun l hl => tups_neC Ns3 hl (b := I) (oc := oI) (by k_extra "sbm") (by rw [hIc]; exact fun e => absurd (Value.type.inj e) (by decide))
    refine wpAny_execs_nil ?_
    refine mx2 _ ((119, tabObj #[]) :: (126, tabObj pz3) :: (x1, lstObj 157 dx1 (refs lc).toArray nC) :: (dx1, dictOf (isD w.params 0 ta1 tb1) nd1) :: (x2, lstObj 157 dx2 (refs ld).toArray nD) :: (dx2, dictOf (isD w.params (tot % 3) ta2 tb2) nd2) :: (Dr, listOf ur.toArray kr) :: (Dd, listOf ud.toArray kd) :: (L + 1, o1) :: (tups lc ++ tups ld ++ (own1 ++ own2))) ⟨Fs3, News.perm Ns3 (by k_extra "psub"), ?_, Gs3, os2, mx9 lc ld nC nD pz3 ul va wb () ⟨rfl, hp3, hlc, hld, by k_extra "kn_all"⟩⟩
    repeat' (first | exact fa0 | refine faa ?_ ?_ | refine fac ?_ ?_)
    all_goals first | exact hofx1 | exact hofx2 | exact hof6 | exact hoff (_, _) (by k_mem) | exact hotu _ (by k_extra "psub") | exact fun q hq => hoff q (by k_extra "sbm")
  · intro m₁ nx₁ hx9
    first | (k_extra "xq5"; clear hx9; intro h₂ gg2 dr2 tk0 oo2) | obtain ⟨h₂, gg2, dr2, tk0, oo2⟩ := hx9
    intro hJ os2 G2 F2 N2
    first | (revert hJ; intro hx9; k_extra "xe14"; clear hx9; intro la lb nA nB pz sl sa sb uu e0 hpz hla hlb hm) | obtain ⟨la, lb, nA, nB, pz, sl, sa, sb, uu, e0, hpz, hla, hlb, hm⟩ := hJ
    subst e0
    dsimp only at os2 G2 F2 N2
    rw [show x.length - 2 * x.length / 2 = 0 from by k_extra "li", List.take_zero] at hla
    rw [show x.length - 2 * x.length / 2 = 0 from by k_extra "li", List.drop_zero] at hlb
    have hla0 := pile_len hla
    obtain rfl : la = [] := List.length_eq_zero_iff.mp hla0
    exact hN _ _ _ _ G2 os2 _ _ _ _ sl sa sb lb nA nB pz (found x (by k_extra "li")) hpz hlb ⟨m₁, kn F2 hm⟩ (News.perm N2 (by k_extra "psub"))
end
section
local macro_rules | `(tactic| l_idx) => `(tactic| k_extra "lidx")
local macro_rules | `(tactic| k_ne) => `(tactic| k_extra "kne")
local macro_rules | `(tactic| ktr_room) => `(tactic| k_extra "kroom")
local macro_rules | `(tactic| ktr_units) => `(tactic| k_extra "kunits")
local macro_rules | `(tactic| k_all) => `(tactic| k_extra "kall")
local macro_rules | `(tactic| k_inst) => `(tactic| k_extra "kinst")
local macro_rules | `(tactic| walk_at "setAttr ref") => `(tactic| (k_here; k_dflt (refine' set_dictL ?k1 ?k2 ?k3 ?k4 ?k5 ?k6 (acc_mro _) ?k8 ?k9 ?k10 ?k11 ?k12 ?k13 ?_; (case k1 => k_asm); (case k2 => k_asm); (case k3 => k_asm); (case k4 => k_inst); (case k5 => exact rfl); (case k6 => k_is); (case k8 => k_is); (case k9 => k_is); (case k10 => k_get); (case k11 => k_put); (case k12 => k_upd); (case k13 => exact Nat.le_of_ble_eq_true rfl); k_whole; intro h' F' N')))
theorem lb13 {w : World} {loose : List Str} {mean : ExcName → Option Value} {mg mb : Str → Option Value} {g : Heap} (L : Addr) (fa : Addr) (cd : Value) (l : Addr) (vs : List Value) (ns : List Int) (C : LawCtx w loose mean mg mb g L l vs ns) (tot : Nat) (o1 : Obj) (cl : List Nat) (Dr : Addr) (ur : List Value) (kr : Nat) (x : List Nat) (hr5 : x.length ≤ 5) (hf : List Nat) (Dd : Addr) (ud : List Value) (kd : Nat) (p : List Nat) (tc : Tok) (tu : Tok) (tw : Tok) (to : Tok) (x1 : Addr) (dx1 : Addr) (x2 : Addr) (dx2 : Addr) (nd1 : Nat) (nd2 : Nat) (ta1 : Tok) (tb1 : Tok) (ta2 : Tok) (tb2 : Tok) (own1 : CbLed) (own2 : CbLed) (hTb : TbsM own1 own2 [(119, tabObj #[]), (126, tabObj #[])]) (tt1 : Tok) (ls : Nat) (ah : Nat) (bh : Nat) (sl : Tok) (sa : Tok) (sb : Tok) (lb : List Pr) (nA : Nat) (nB : Nat) (pz : Array Value) (hpz : TriplesOk pz.toList) (hlb : lb.map ptx = sgt x.reverse) :
    Blk w g L fa cd (lawStmt 13) [("behind", .int ((bh) : Nat) sb), ("ahead", .int ((ah) : Nat) sa), ("least", .int ((ls) : Nat) sl), ("text", .str (tx (x.map sg)) tt1), ("right", .ref x2), ("left", .ref x1), ("other", .int ((kp x.reverse).2 : Nat) to), ("lower", .int ((kp x).2 : Nat) tw), ("upper", .int ((kp x).1 : Nat) tu), ("count", .int (x.length : Nat) tc), ("drawn", .ref Dd), ("row", .ref Dr)] ((119, tabObj #[]) :: (126, tabObj pz) :: (x1, lstObj 157 dx1 ([] : List Value).toArray nA) :: (dx1, dictOf (isD w.params 0 ta1 tb1) nd1) :: (x2, lstObj 157 dx2 (refs lb).toArray nB) :: (dx2, dictOf (isD w.params (tot % 3) ta2 tb2) nd2) :: (Dr, listOf ur.toArray kr) :: (Dd, listOf ud.toArray kd) :: (L + 1, o1) :: (tups lb ++ (own1 ++ own2)))
      (fun R => ∀ (h : Heap) (tm : Tok) (pm : Array Value), TriplesOk pm.toList → Loc g L h [("mirror", .str (tx (x.reverse.map sg)) tm), ("behind", .int ((bh) : Nat) sb), ("ahead", .int ((ah) : Nat) sa), ("least", .int ((ls) : Nat) sl), ("text", .str (tx (x.map sg)) tt1), ("right", .ref x2), ("left", .ref x1), ("other", .int ((kp x.reverse).2 : Nat) to), ("lower", .int ((kp x).2 : Nat) tw), ("upper", .int ((kp x).1 : Nat) tu), ("count", .int (x.length : Nat) tc), ("drawn", .ref Dd), ("row", .ref Dr)] → News g L h ((119, tabObj #[]) :: (126, tabObj pm) :: (x1, lstObj 157 dx1 ([] : List Value).toArray nA) :: (dx1, dictOf (isD w.params 0 ta1 tb1) nd1) :: (x2, lstObj 157 dx2 (refs lb).toArray nB) :: (dx2, dictOf (isD w.params (tot % 3) ta2 tb2) nd2) :: (Dr, listOf ur.toArray kr) :: (Dd, listOf ud.toArray kd) :: (L + 1, o1) :: (tups lb ++ (own1 ++ own2))) → R h) := by
  have X := C.X
  have T := C.T
  have B := C.B
  have k1 := C.k1
  have k2 := C.k2
  have k3 := C.k3
  have k4 := C.k4
  have hI := C.hI
  have lifted := C.lifted
  have hns := C.hns
  have l0 := C.l0
  have kcd : CdH g := ⟨k2, k1⟩
  clear C
  refine blk_mk (show lawStmt 13 = _ from (by conv => lhs; whnf)) ?_
  intro h0 gg dr tk oo Q G ⟨r, F⟩ N hN
  have k5 := G
  obtain ⟨z1, z2, z3, z4⟩ := l0
  have z5 : 126 < L + 1 := Nat.lt_succ_of_lt z4
  repeat' ((fail_if_success (with_reducible show PySem.wpAny _ _ (call (.ref 131) _) _ _ _)); k_extra "ks1"; try dsimp only)
  have hnta : NoTab 126 ((119, tabObj #[]) :: (x1, lstObj 157 dx1 ([] : List Value).toArray nA) :: (dx1, dictOf (isD w.params 0 ta1 tb1) nd1) :: (Dr, listOf ur.toArray kr) :: (Dd, listOf ud.toArray kd) :: (L + 1, o1) :: (own1 ++ own2)) := by k_extra "nt"
  (with_reducible rename News _ _ _ _ => N7)
  replace N7 := News.perm N7 (news' := (126, tabObj pz) :: (x2, lstObj 157 dx2 (refs lb).toArray nB) :: (dx2, dictOf (isD w.params (tot % 3) ta2 tb2) nd2) :: (tups lb ++ ((119, tabObj #[]) :: (x1, lstObj 157 dx1 ([] : List Value).toArray nA) :: (dx1, dictOf (isD w.params 0 ta1 tb1) nd1) :: (Dr, listOf ur.toArray kr) :: (Dd, listOf ud.toArray kd) :: (L + 1, o1) :: (own1 ++ own2)))) (by k_extra "psub")
  (k_dflt (refine' ClG.use (str_c _ _ _ _ _ ((119, tabObj #[]) :: (x1, lstObj 157 dx1 ([] : List Value).toArray nA) :: (dx1, dictOf (isD w.params 0 ta1 tb1) nd1) :: (Dr, listOf ur.toArray kr) :: (Dd, listOf ud.toArray kd) :: (L + 1, o1) :: (own1 ++ own2)) pz x2 dx2 lb nB _ nd2 ?q1 (pile_small hlb) (by assumption) hnta) ?k0 ?kg ?k1 ?k2 ?k3 ?k4 ?k5 ?kK ?kd ?ku ?_; k_extra "str_use"))
  case q1 => rw [pile_len hlb]; first | k_extra "li" | (simp only [List.length_take, List.length_drop, List.length_reverse]; k_extra "li")
  intro r nx6 s6 F6 N6 Ga osa hR
  first | (revert s6; intro hx9; k_extra "xe5"; clear hx9; intro h6 g6 d6 tk6 o6) | obtain ⟨h6, g6, d6, tk6, o6⟩ := s6
  first | (revert hR; intro hx9; k_extra "xe2"; clear hx9; intro hRa hx9; (first | (k_extra "xq3"; clear hx9; intro psa htra eR) | obtain ⟨psa, htra, eR⟩ := hx9)) | obtain ⟨hRa, ⟨psa, htra, eR⟩⟩ := hR
  first | (revert hRa; intro hx9; k_extra "xe2"; clear hx9; intro ta eRa) | obtain ⟨ta, eRa⟩ := hRa
  subst eRa
  subst eR
  try dsimp only at F6 N6 Ga osa
  rw [pile_str hlb]
  clear hnta
  replace N6 := News.perm N6 (news' := (119, tabObj #[]) :: (126, tabObj psa) :: (x1, lstObj 157 dx1 ([] : List Value).toArray nA) :: (dx1, dictOf (isD w.params 0 ta1 tb1) nd1) :: (x2, lstObj 157 dx2 (refs lb).toArray nB) :: (dx2, dictOf (isD w.params (tot % 3) ta2 tb2) nd2) :: (Dr, listOf ur.toArray kr) :: (Dd, listOf ud.toArray kd) :: (L + 1, o1) :: (tups lb ++ (own1 ++ own2))) (by k_extra "psub")
  dsimp only [PySem.W.StrBack]
  k_extra "kd"
  exact hN _ _ _ _ Ga osa _ _ psa htra (by k_extra "lo") (News.perm (by assumption) (by k_extra "psub"))
end
section
local macro_rules | `(tactic| l_idx) => `(tactic| k_extra "lidx")
local macro_rules | `(tactic| k_ne) => `(tactic| k_extra "kne")
local macro_rules | `(tactic| ktr_room) => `(tactic| k_extra "kroom")
local macro_rules | `(tactic| ktr_units) => `(tactic| k_extra "kunits")
local macro_rules | `(tactic| k_all) => `(tactic| k_extra "kall")
local macro_rules | `(tactic| k_inst) => `(tactic| k_extra "kinst")
local macro_rules | `(tactic| walk_at "setAttr ref") => `(tactic| (k_here; k_dflt (refine' set_dictL ?k1 ?k2 ?k3 ?k4 ?k5 ?k6 (acc_mro _) ?k8 ?k9 ?k10 ?k11 ?k12 ?k13 ?_; (case k1 => k_asm); (case k2 => k_asm); (case k3 => k_asm); (case k4 => k_inst); (case k5 => exact rfl); (case k6 => k_is); (case k8 => k_is); (case k9 => k_is); (case k10 => k_get); (case k11 => k_put); (case k12 => k_upd); (case k13 => exact Nat.le_of_ble_eq_true rfl); k_whole; intro h' F' N')))
theorem lb14 {w : World} {loose : List Str} {mean : ExcName → Option Value} {mg mb : Str → Option Value} {g : Heap} (L : Addr) (fa : Addr) (cd : Value) (l : Addr) (vs : List Value) (ns : List Int) (C : LawCtx w loose mean mg mb g L l vs ns) (tot : Nat) (tt : Tok) (o1 : Obj) (e1 : o1.data = .cell (some (.int (tot : Int) tt))) (cl : List Nat) (Dr : Addr) (ur : List Value) (kr : Nat) (x : List Nat) (hrI : IntsAre ur (nats x)) (hrq : Qs x) (hr4 : 4 ≤ x.length) (hr5 : x.length ≤ 5) (hf : List Nat) (Dd : Addr) (ud : List Value) (kd : Nat) (p : List Nat) (tc : Tok) (tu : Tok) (tw : Tok) (to : Tok) (x1 : Addr) (dx1 : Addr) (x2 : Addr) (dx2 : Addr) (nd1 : Nat) (nd2 : Nat) (ta1 : Tok) (tb1 : Tok) (ta2 : Tok) (tb2 : Tok) (own1 : CbLed) (own2 : CbLed) (hTb : TbsM own1 own2 [(119, tabObj #[]), (126, tabObj #[])]) (tt1 : Tok) (ls : Nat) (ah : Nat) (bh : Nat) (sl : Tok) (sa : Tok) (sb : Tok) (lb : List Pr) (nA : Nat) (nB : Nat) (tm : Tok) (pm : Array Value) :
    Blk w g L fa cd (lawStmt 14) [("mirror", .str (tx (x.reverse.map sg)) tm), ("behind", .int ((bh) : Nat) sb), ("ahead", .int ((ah) : Nat) sa), ("least", .int ((ls) : Nat) sl), ("text", .str (tx (x.map sg)) tt1), ("right", .ref x2), ("left", .ref x1), ("other", .int ((kp x.reverse).2 : Nat) to), ("lower", .int ((kp x).2 : Nat) tw), ("upper", .int ((kp x).1 : Nat) tu), ("count", .int (x.length : Nat) tc), ("drawn", .ref Dd), ("row", .ref Dr)] ((119, tabObj #[]) :: (126, tabObj pm) :: (x1, lstObj 157 dx1 ([] : List Value).toArray nA) :: (dx1, dictOf (isD w.params 0 ta1 tb1) nd1) :: (x2, lstObj 157 dx2 (refs lb).toArray nB) :: (dx2, dictOf (isD w.params (tot % 3) ta2 tb2) nd2) :: (Dr, listOf ur.toArray kr) :: (Dd, listOf ud.toArray kd) :: (L + 1, o1) :: (tups lb ++ (own1 ++ own2)))
      (fun R => ∀ (h : Heap), Loc g L h [("mirror", .str (tx (x.reverse.map sg)) tm), ("behind", .int ((bh) : Nat) sb), ("ahead", .int ((ah) : Nat) sa), ("least", .int ((ls) : Nat) sl), ("text", .str (tx (x.map sg)) tt1), ("right", .ref x2), ("left", .ref x1), ("other", .int ((kp x.reverse).2 : Nat) to), ("lower", .int ((kp x).2 : Nat) tw), ("upper", .int ((kp x).1 : Nat) tu), ("count", .int (x.length : Nat) tc), ("drawn", .ref Dd), ("row", .ref Dr)] → News g L h ((119, tabObj #[]) :: (126, tabObj pm) :: (x1, lstObj 157 dx1 ([] : List Value).toArray nA) :: (dx1, dictOf (isD w.params 0 ta1 tb1) nd1) :: (x2, lstObj 157 dx2 (refs lb).toArray nB) :: (dx2, dictOf (isD w.params (tot % 3) ta2 tb2) nd2) :: (Dr, listOf ur.toArray kr) :: (Dd, listOf ud.toArray kd) :: (L + 1, o1) :: (tups lb ++ (own1 ++ own2))) → R h) := by
  have X := C.X
  have T := C.T
  have B := C.B
  have k1 := C.k1
  have k2 := C.k2
  have k3 := C.k3
  have k4 := C.k4
  have hI := C.hI
  have lifted := C.lifted
  have hns := C.hns
  have l0 := C.l0
  have kcd : CdH g := ⟨k2, k1⟩
  clear C
  refine blk_mk (show lawStmt 14 = _ from (by conv => lhs; whnf)) ?_
  intro h0 gg dr tk oo Q G ⟨r, F⟩ N hN
  have k5 := G
  have hTr : TbsM own1 own2 ((119, tabObj #[]) :: (126, tabObj pm) :: (x1, lstObj 157 dx1 ([] : List Value).toArray nA) :: (dx1, dictOf (isD w.params 0 ta1 tb1) nd1) :: (x2, lstObj 157 dx2 (refs lb).toArray nB) :: (dx2, dictOf (isD w.params (tot % 3) ta2 tb2) nd2) :: (Dr, listOf ur.toArray kr) :: (Dd, listOf ud.toArray kd) :: (L + 1, o1) :: tups lb) := tbs_of hTb (News.perm N (by k_extra "psub")) (by k_mem) (by k_mem) (by k_extra "ntb")
  repeat' ((fail_if_success (with_reducible show PySem.wpAny _ _ (call (.ref 180) _) _ _ _)); k_extra "ks1"; try dsimp only)
  replace N := News.perm N (news' := (Dr, listOf (ur).toArray kr) :: (119, tabObj #[]) :: (126, tabObj pm) :: (x1, lstObj 157 dx1 ([] : List Value).toArray nA) :: (dx1, dictOf (isD w.params 0 ta1 tb1) nd1) :: (x2, lstObj 157 dx2 (refs lb).toArray nB) :: (dx2, dictOf (isD w.params (tot % 3) ta2 tb2) nd2) :: (Dd, listOf ud.toArray kd) :: (L + 1, o1) :: (tups lb ++ (own1 ++ own2))) (by k_extra "psub")
  (k_dflt (refine' Cl.use (signs_c _ _ _ _ _ ((119, tabObj #[]) :: (126, tabObj pm) :: (x1, lstObj 157 dx1 ([] : List Value).toArray nA) :: (dx1, dictOf (isD w.params 0 ta1 tb1) nd1) :: (x2, lstObj 157 dx2 (refs lb).toArray nB) :: (dx2, dictOf (isD w.params (tot % 3) ta2 tb2) nd2) :: (Dd, listOf ud.toArray kd) :: (L + 1, o1) :: (tups lb ++ (own1 ++ own2))) Dr ur kr x ?q1 ?q2 ?q3) ?k1 ?k2 ?k3 ?k4 ?k5 ?kK ?kd ?ku ?_; k_extra "cl_use"))
  case q1 => exact hrq
  case q2 => k_extra "li"
  case q3 => exact hrI
  intro r nx h5 tk5 Fa Na hR
  first | (revert hR; intro hx9; k_extra "xe2"; clear hx9; intro e5 hx9; (first | (k_extra "xq2"; clear hx9; intro tsa e6) | obtain ⟨tsa, e6⟩ := hx9)) | obtain ⟨e5, ⟨tsa, e6⟩⟩ := hR
  subst e5
  subst e6
  dsimp only
  repeat' ((fail_if_success (with_reducible show PySem.wpAny _ _ (compareOp _ _ _) _ _ _)); k_extra "ks1"; try dsimp only)
  k_extra "ks1"
  rw [bne_self_eq_false]
  repeat' ((fail_if_success (with_reducible show PySem.wpAny _ _ (call (.ref 175) _) _ _ _)); k_extra "ks1"; try dsimp only)
  replace Na := News.perm Na (news' := own1 ++ (own2 ++ ((119, tabObj #[]) :: (126, tabObj pm) :: (x1, lstObj 157 dx1 ([] : List Value).toArray nA) :: (dx1, dictOf (isD w.params 0 ta1 tb1) nd1) :: (x2, lstObj 157 dx2 (refs lb).toArray nB) :: (dx2, dictOf (isD w.params (tot % 3) ta2 tb2) nd2) :: (Dr, listOf ur.toArray kr) :: (Dd, listOf ud.toArray kd) :: (L + 1, o1) :: tups lb))) (by k_extra "psub")
  rw [← kp_rev_fst x]
  (k_dflt (refine' ClT.use (run_c _ _ _ _ _ own1 own2 ((119, tabObj #[]) :: (126, tabObj pm) :: (x1, lstObj 157 dx1 ([] : List Value).toArray nA) :: (dx1, dictOf (isD w.params 0 ta1 tb1) nd1) :: (x2, lstObj 157 dx2 (refs lb).toArray nB) :: (dx2, dictOf (isD w.params (tot % 3) ta2 tb2) nd2) :: (Dr, listOf ur.toArray kr) :: (Dd, listOf ud.toArray kd) :: (L + 1, o1) :: tups lb) x.reverse _ _ hrq.rev ?q1 ?q2 hTr.tbs) ?k0 ?kb ?kt ?k1 ?k2 ?k3 ?k4 ?k5 ?kK ?kd ?ku ?_; (case kb => k_asm); (case kt => k_asm); k_extra "clb_use"))
  case q1 => rw [List.length_reverse]; k_extra "li"
  case q2 => rw [List.length_reverse]; k_extra "li"
  intro r nx h2 tk2 F2 N2 hR
  first | (revert hR; intro hx9; k_extra "xe10"; clear hx9; intro D us kD p1 p2 e2 e3 hIu hTR hD) | obtain ⟨D, us, kD, p1, p2, e2, e3, hIu, hTR, hD⟩ := hR
  subst e2
  subst e3
  have e5 := (hTR.2.1 hTb.1).symm
  have e6 := (hTR.2.2 hTb.2.1).symm
  subst e5
  subst e6
  repeat' ((fail_if_success (with_reducible show PySem.wpAny _ _ (call (.ref 180) _) _ _ _)); k_extra "ks1"; try dsimp only)
  replace N2 := News.perm N2 (news' := (D, listOf (us).toArray kD) :: own1 ++ (own2 ++ ((119, tabObj #[]) :: (126, tabObj pm) :: (x1, lstObj 157 dx1 ([] : List Value).toArray nA) :: (dx1, dictOf (isD w.params 0 ta1 tb1) nd1) :: (x2, lstObj 157 dx2 (refs lb).toArray nB) :: (dx2, dictOf (isD w.params (tot % 3) ta2 tb2) nd2) :: (Dr, listOf ur.toArray kr) :: (Dd, listOf ud.toArray kd) :: (L + 1, o1) :: tups lb))) (by k_extra "psub")
  (k_dflt (refine' Cl.use (signs_c _ _ _ _ _ (own1 ++ (own2 ++ ((119, tabObj #[]) :: (126, tabObj pm) :: (x1, lstObj 157 dx1 ([] : List Value).toArray nA) :: (dx1, dictOf (isD w.params 0 ta1 tb1) nd1) :: (x2, lstObj 157 dx2 (refs lb).toArray nB) :: (dx2, dictOf (isD w.params (tot % 3) ta2 tb2) nd2) :: (Dr, listOf ur.toArray kr) :: (Dd, listOf ud.toArray kd) :: (L + 1, o1) :: tups lb))) D us kD x.reverse ?q1 ?q2 ?q3) ?k1 ?k2 ?k3 ?k4 ?k5 ?kK ?kd ?ku ?_; k_extra "cl_use"))
  case q1 => exact hrq.rev
  case q2 => rw [List.length_reverse]; k_extra "li"
  case q3 => exact hIu
  intro r nx h5 tk5 Fb Nb hR
  first | (revert hR; intro hx9; k_extra "xe2"; clear hx9; intro e5 hx9; (first | (k_extra "xq2"; clear hx9; intro tsb e6) | obtain ⟨tsb, e6⟩ := hx9)) | obtain ⟨e5, ⟨tsb, e6⟩⟩ := hR
  subst e5
  subst e6
  dsimp only
  repeat' ((fail_if_success (with_reducible show PySem.wpAny _ _ (compareOp _ _ _) _ _ _)); k_extra "ks1"; try dsimp only)
  k_extra "ks1"
  rw [bne_self_eq_false]
  k_extra "kd"
  exact hN _ _ _ _ G rfl _ (by k_extra "lo") (News.perm (by assumption) (by k_extra "psub"))
end
section
local macro_rules | `(tactic| l_idx) => `(tactic| k_extra "lidx")
local macro_rules | `(tactic| k_ne) => `(tactic| k_extra "kne")
local macro_rules | `(tactic| ktr_room) => `(tactic| k_extra "kroom")
local macro_rules | `(tactic| ktr_units) => `(tactic| k_extra "kunits")
local macro_rules | `(tactic| k_all) => `(tactic| k_extra "kall")
local macro_rules | `(tactic| k_inst) => `(tactic| k_extra "kinst")
local macro_rules | `(tactic| walk_at "setAttr ref") => `(tactic| (k_here; k_dflt (refine' set_dictL ?k1 ?k2 ?k3 ?k4 ?k5 ?k6 (acc_mro _) ?k8 ?k9 ?k10 ?k11 ?k12 ?k13 ?_; (case k1 => k_asm); (case k2 => k_asm); (case k3 => k_asm); (case k4 => k_inst); (case k5 => exact rfl); (case k6 => k_is); (case k8 => k_is); (case k9 => k_is); (case k10 => k_get); (case k11 => k_put); (case k12 => k_upd); (case k13 => exact Nat.le_of_ble_eq_true rfl); k_whole; intro h' F' N')))
theorem lb15 {w : World} {loose : List Str} {mean : ExcName → Option Value} {mg mb : Str → Option Value} {g : Heap} (L : Addr) (fa : Addr) (cd : Value) (l : Addr) (vs : List Value) (ns : List Int) (C : LawCtx w loose mean mg mb g L l vs ns) (tot : Nat) (tt : Tok) (o1 : Obj) (e1 : o1.data = .cell (some (.int (tot : Int) tt))) (cl : List Nat) (Dr : Addr) (ur : List Value) (kr : Nat) (x : List Nat) (hr4 : 4 ≤ x.length) (hr5 : x.length ≤ 5) (hf : List Nat) (Dd : Addr) (ud : List Value) (kd : Nat) (p : List Nat) (tc : Tok) (tu : Tok) (tw : Tok) (to : Tok) (x1 : Addr) (dx1 : Addr) (x2 : Addr) (dx2 : Addr) (nd1 : Nat) (nd2 : Nat) (ta1 : Tok) (tb1 : Tok) (ta2 : Tok) (tb2 : Tok) (hx12 : @Ne Nat x1 x2) (own1 : CbLed) (own2 : CbLed) (hTb : TbsM own1 own2 [(119, tabObj #[]), (126, tabObj #[])]) (tt1 : Tok) (ls : Nat) (ah : Nat) (bh : Nat) (sl : Tok) (sa : Tok) (sb : Tok) (lb : List Pr) (nA : Nat) (nB : Nat) (hlb : lb.map ptx = sgt x.reverse) (tm : Tok) (pm : Array Value) :
    Blk w g L fa cd (lawStmt 15) [("mirror", .str (tx (x.reverse.map sg)) tm), ("behind", .int ((bh) : Nat) sb), ("ahead", .int ((ah) : Nat) sa), ("least", .int ((ls) : Nat) sl), ("text", .str (tx (x.map sg)) tt1), ("right", .ref x2), ("left", .ref x1), ("other", .int ((kp x.reverse).2 : Nat) to), ("lower", .int ((kp x).2 : Nat) tw), ("upper", .int ((kp x).1 : Nat) tu), ("count", .int (x.length : Nat) tc), ("drawn", .ref Dd), ("row", .ref Dr)] ((119, tabObj #[]) :: (126, tabObj pm) :: (x1, lstObj 157 dx1 ([] : List Value).toArray nA) :: (dx1, dictOf (isD w.params 0 ta1 tb1) nd1) :: (x2, lstObj 157 dx2 (refs lb).toArray nB) :: (dx2, dictOf (isD w.params (tot % 3) ta2 tb2) nd2) :: (Dr, listOf ur.toArray kr) :: (Dd, listOf ud.toArray kd) :: (L + 1, o1) :: (tups lb ++ (own1 ++ own2)))
      (fun R => ∀ (h : Heap) (p9 : Array Value), TriplesOk p9.toList → Loc g L h [("mirror", .str (tx (x.reverse.map sg)) tm), ("behind", .int ((bh) : Nat) sb), ("ahead", .int ((ah) : Nat) sa), ("least", .int ((ls) : Nat) sl), ("text", .str (tx (x.map sg)) tt1), ("other", .int ((kp x.reverse).2 : Nat) to), ("lower", .int ((kp x).2 : Nat) tw), ("upper", .int ((kp x).1 : Nat) tu), ("count", .int (x.length : Nat) tc), ("drawn", .ref Dd), ("row", .ref Dr)] → News g L h ((119, tabObj p9) :: (126, tabObj pm) :: (Dr, listOf ur.toArray kr) :: (Dd, listOf ud.toArray kd) :: (L + 1, o1) :: (own1 ++ own2)) → R h) := by
  have X := C.X
  have T := C.T
  have B := C.B
  have k1 := C.k1
  have k2 := C.k2
  have k3 := C.k3
  have k4 := C.k4
  have hI := C.hI
  have lifted := C.lifted
  have hns := C.hns
  have l0 := C.l0
  have kcd : CdH g := ⟨k2, k1⟩
  clear C
  refine blk_mk (show lawStmt 15 = _ from (by conv => lhs; whnf)) ?_
  intro h0 gg dr tk oo Q G ⟨r, F⟩ N hN
  have k5 := G
  obtain ⟨z1, z2, z3, z4⟩ := l0
  have z6 : 119 < L + 1 := Nat.lt_succ_of_lt z3
  have htr0 : TriplesOk (#[] : Array Value).toList := trivial
  have hna : NoAcc x1 ((119, tabObj #[]) :: (126, tabObj pm) :: (x2, lstObj 157 dx2 (refs lb).toArray nB) :: (dx2, dictOf (isD w.params (tot % 3) ta2 tb2) nd2) :: (Dr, listOf ur.toArray kr) :: (Dd, listOf ud.toArray kd) :: (L + 1, o1) :: (tups lb ++ (own1 ++ own2))) := na_i N (by k_mem) (by k_extra "psub") (by
    have a1 := hTb.1
    have a2 := hTb.2.1
    k_extra "na2")
  repeat' ((fail_if_success (with_reducible show PySem.wpAny _ _ (call (.ref 117) _) _ _ _)); k_extra "ks1"; try dsimp only)
  rw [List.append_nil]
  replace N := News.perm N (news' := (x1, lstObj 157 dx1 ([] : List Value).toArray nA) :: (dx1, dictOf (isD w.params 0 ta1 tb1) nd1) :: (119, tabObj #[]) :: (126, tabObj pm) :: (x2, lstObj 157 dx2 (refs lb).toArray nB) :: (dx2, dictOf (isD w.params (tot % 3) ta2 tb2) nd2) :: (Dr, listOf ur.toArray kr) :: (Dd, listOf ud.toArray kd) :: (L + 1, o1) :: (tups lb ++ (own1 ++ own2))) (by k_extra "psub")
  (k_dflt (refine' Cl.use (pop0_c _ _ _ _ _ ((119, tabObj #[]) :: (126, tabObj pm) :: (x2, lstObj 157 dx2 (refs lb).toArray nB) :: (dx2, dictOf (isD w.params (tot % 3) ta2 tb2) nd2) :: (Dr, listOf ur.toArray kr) :: (Dd, listOf ud.toArray kd) :: (L + 1, o1) :: (tups lb ++ (own1 ++ own2))) x1 dx1 nA (isD w.params 0 ta1 tb1) nd1 ?q1 ?q3) ?k1 ?k2 ?k3 ?k4 ?k5 ?kK ?kd ?ku ?_; k_extra "cl_use"))
  case q1 => exact hna
  case q3 => rfl
  intro r nx5 h5 tk5 F5 N5 hR
  first | (revert hR; intro hx9; k_extra "xe5"; clear hx9; intro D5 u1 u2 e5 e6) | obtain ⟨D5, u1, u2, e5, e6⟩ := hR
  subst e5
  subst e6
  dsimp only
  repeat' ((fail_if_success (with_reducible show PySem.wpAny _ _ (compareOp _ _ _) _ _ _)); k_extra "ks1"; try dsimp only)
  (with_reducible rename News _ _ _ _ => N7)
  refine tup2_ne N7 (a := D5) (v1 := .str (Str.ofString "") u1) (v2 := .str (Str.ofString "") u2) (ka := 0) (by k_mem) (.head _) (.str _ _) (.str _ _) (.str _ _) (.str _ _) eqv_nils.1 eqv_nils.2 (by first | ktr_units | decide | k_extra "li") ?_
  replace N7 := News.perm N7 (news' := (119, tabObj #[]) :: (x2, lstObj 157 dx2 (refs lb).toArray nB) :: (dx2, dictOf (isD w.params (tot % 3) ta2 tb2) nd2) :: (tups lb ++ ((126, tabObj pm) :: (Dr, listOf ur.toArray kr) :: (Dd, listOf ud.toArray kd) :: (L + 1, o1) :: (own1 ++ own2)))) (by k_extra "psub")
  have hnt3 : NoTab 119 ((126, tabObj pm) :: (Dr, listOf ur.toArray kr) :: (Dd, listOf ud.toArray kd) :: (L + 1, o1) :: (own1 ++ own2)) := by k_extra "nt"
  repeat' ((fail_if_success (with_reducible show PySem.wpAny _ _ (call (.ref 124) _) _ _ _)); k_extra "ks1"; try dsimp only)
  (k_dflt (refine' ClG.use (len_c _ _ _ _ _ ((126, tabObj pm) :: (Dr, listOf ur.toArray kr) :: (Dd, listOf ud.toArray kd) :: (L + 1, o1) :: (own1 ++ own2)) #[] x2 dx2 lb nB (tot % 3) ta2 tb2 nd2 ?q1 (pile_small hlb) htr0 hnt3) ?k0 ?kg ?k1 ?k2 ?k3 ?k4 ?k5 ?kK ?kd ?ku ?_; k_extra "str_use"))
  case q1 => rw [pile_len hlb, List.length_reverse]; k_extra "li"
  intro r nx6 s6 F6 N6 Ga osa hR
  first | (revert s6; intro hx9; k_extra "xe5"; clear hx9; intro h6 g6 d6 tk6 o6) | obtain ⟨h6, g6, d6, tk6, o6⟩ := s6
  first | (revert hR; intro hx9; k_extra "xe2"; clear hx9; intro hRa hx9; (first | (k_extra "xq3"; clear hx9; intro p9 hp9 eR) | obtain ⟨p9, hp9, eR⟩ := hx9)) | obtain ⟨hRa, ⟨p9, hp9, eR⟩⟩ := hR
  first | (revert hRa; intro hx9; k_extra "xe2"; clear hx9; intro t8 eRa) | obtain ⟨t8, eRa⟩ := hRa
  subst eRa
  subst eR
  try dsimp only at F6 N6 Ga osa
  rw [pile_sum hlb, List.length_reverse]
  replace N6 := News.perm N6 (news' := (119, tabObj p9) :: (126, tabObj pm) :: (Dr, listOf ur.toArray kr) :: (Dd, listOf ud.toArray kd) :: (L + 1, o1) :: (own1 ++ own2)) (by k_extra "psub")
  dsimp only [PySem.W.LenBack]
  have e3 : ((tot % 3 + x.length : Nat) : Int) = (tot : Int).fmod 3 + (x.length : Int) := by rw [fmod3]; rfl
  repeat' ((fail_if_success (with_reducible show PySem.wpAny _ _ (compareOp _ _ _) _ _ _)); k_extra "ks1"; try dsimp only)
  rw [e3]
  k_extra "ks1"
  rw [bne_self_eq_false]
  k_extra "kd"
  exact hN _ _ _ _ Ga osa _ p9 hp9 (by k_extra "lo") (News.perm (by assumption) (by k_extra "psub"))
end
section
local macro_rules | `(tactic| l_idx) => `(tactic| k_extra "lidx")
local macro_rules | `(tactic| k_ne) => `(tactic| k_extra "kne")
local macro_rules | `(tactic| ktr_room) => `(tactic| k_extra "kroom")
local macro_rules | `(tactic| ktr_units) => `(tactic| k_extra "kunits")
local macro_rules | `(tactic| k_all) => `(tactic| k_extra "kall")
local macro_rules | `(tactic| k_inst) => `(tactic| k_extra "kinst")
local macro_rules | `(tactic| walk_at "setAttr ref") => `(tactic| (k_here; k_dflt (refine' set_dictL ?k1 ?k2 ?k3 ?k4 ?k5 ?k6 (acc_mro _) ?k8 ?k9 ?k10 ?k11 ?k12 ?k13 ?_; (case k1 => k_asm); (case k2 => k_asm); (case k3 => k_asm); (case k4 => k_inst); (case k5 => exact rfl); (case k6 => k_is); (case k8 => k_is); (case k9 => k_is); (case k10 => k_get); (case k11 => k_put); (case k12 => k_upd); (case k13 => exact Nat.le_of_ble_eq_true rfl); k_whole; intro h' F' N')))
theorem lb16 {w : World} {loose : List Str} {mean : ExcName → Option Value} {mg mb : Str → Option Value} {g : Heap} (L : Addr) (fa : Addr) (cd : Value) (l : Addr) (vs : List Value) (ns : List Int) (C : LawCtx w loose mean mg mb g L l vs ns) (tot : Nat) (tt : Tok) (o1 : Obj) (e1 : o1.data = .cell (some (.int (tot : Int) tt))) (cl : List Nat) (Dr : Addr) (ur : List Value) (kr : Nat) (x : List Nat) (hrI : IntsAre ur (nats x)) (hrq : Qs x) (hr4 : 4 ≤ x.length) (hr5 : x.length ≤ 5) (hf : List Nat) (Dd : Addr) (ud : List Value) (kd : Nat) (p : List Nat) (tc : Tok) (tu : Tok) (tw : Tok) (to : Tok) (own1 : CbLed) (own2 : CbLed) (hTb : TbsM own1 own2 [(119, tabObj #[]), (126, tabObj #[])]) (tt1 : Tok) (ls : Nat) (ah : Nat) (bh : Nat) (sl : Tok) (sa : Tok) (sb : Tok) (hF : Found x ls ah bh) (tm : Tok) (pm : Array Value) (p9 : Array Value) :
    Blk w g L fa cd (lawStmt 16) [("mirror", .str (tx (x.reverse.map sg)) tm), ("behind", .int ((bh) : Nat) sb), ("ahead", .int ((ah) : Nat) sa), ("least", .int ((ls) : Nat) sl), ("text", .str (tx (x.map sg)) tt1), ("other", .int ((kp x.reverse).2 : Nat) to), ("lower", .int ((kp x).2 : Nat) tw), ("upper", .int ((kp x).1 : Nat) tu), ("count", .int (x.length : Nat) tc), ("drawn", .ref Dd), ("row", .ref Dr)] ((119, tabObj p9) :: (126, tabObj pm) :: (Dr, listOf ur.toArray kr) :: (Dd, listOf ud.toArray kd) :: (L + 1, o1) :: (own1 ++ own2))
      (fun R => ∀ (h : Heap), Loc g L h [("mirror", .str (tx (x.reverse.map sg)) tm), ("behind", .int ((bh) : Nat) sb), ("ahead", .int ((ah) : Nat) sa), ("least", .int ((ls) : Nat) sl), ("text", .str (tx (x.map sg)) tt1), ("drawn", .ref Dd), ("row", .ref Dr)] → News g L h ((119, tabObj p9) :: (126, tabObj pm) :: (Dr, listOf ur.toArray kr) :: (Dd, listOf ud.toArray kd) :: (L + 1, o1) :: (own1 ++ own2)) → R h) := by
  have X := C.X
  have T := C.T
  have B := C.B
  have k1 := C.k1
  have k2 := C.k2
  have k3 := C.k3
  have k4 := C.k4
  have hI := C.hI
  have lifted := C.lifted
  have hns := C.hns
  have l0 := C.l0
  have kcd : CdH g := ⟨k2, k1⟩
  clear C
  refine blk_mk (show lawStmt 16 = _ from (by conv => lhs; whnf)) ?_
  intro h0 gg dr tk oo Q G ⟨r, F⟩ N hN
  have k5 := G
  have hTr : TbsM own1 own2 ((119, tabObj p9) :: (126, tabObj pm) :: (Dr, listOf ur.toArray kr) :: [(Dd, listOf ud.toArray kd), (L + 1, o1)]) := tbs_of hTb (News.perm N (by k_extra "psub")) (by k_mem) (by k_mem) (by k_extra "ntb")
  have hx9 := low_bnd hrq hr5
  first | (k_extra "xe4"; clear hx9; intro b1 b2 b3 b4) | obtain ⟨b1, b2, b3, b4⟩ := hx9
  have hab := low_abs x.length b3 b4
  repeat' ((fail_if_success (with_reducible show PySem.wpAny _ _ (binaryOp .Mult _ _) _ _ _)); k_extra "ks1"; try dsimp only)
  refine PyProof.Rows.mul_int ?_ (IntMulOk.of_left (by decide))
  repeat' ((fail_if_success (with_reducible show PySem.wpAny _ _ (binaryOp .Mult _ _) _ _ _)); k_extra "ks1"; try dsimp only)
  refine PyProof.Rows.mul_int ?_ (imo_nat (by k_extra "li"))
  repeat' ((fail_if_success (with_reducible show PySem.wpAny _ _ (binaryOp .Mult _ _) _ _ _)); k_extra "ks1"; try dsimp only)
  refine PyProof.Rows.mul_int ?_ (imo_nat (by k_extra "li"))
  repeat' ((fail_if_success (with_reducible show PySem.wpAny _ _ (call (.ref 77) _) _ _ _)); k_extra "ks1"; try dsimp only)
  replace N := News.perm N (news' := own1 ++ (own2 ++ ((119, tabObj p9) :: (126, tabObj pm) :: (Dr, listOf ur.toArray kr) :: [(Dd, listOf ud.toArray kd), (L + 1, o1)]))) (by k_extra "psub")
  (k_dflt (refine' ClB.use (idmP_c _ _ _ _ _ own1 own2 ((119, tabObj p9) :: (126, tabObj pm) :: (Dr, listOf ur.toArray kr) :: [(Dd, listOf ud.toArray kd), (L + 1, o1)]) _ _ _ _ ?q1 ?q2 ?q3 ?q4 ?q5) ?k0 ?k1 ?k2 ?k3 ?k4 ?k5 ?kK ?kd ?ku ?_; k_extra "clb_use"))
  case q1 => exact hab.1
  case q2 => exact hab.2
  case q3 => exact b1
  case q4 => k_extra "li"
  case q5 => exact hTr.tbs
  intro r nx h5 tk5 Fa Na hR
  first | (revert hR; intro hx9; k_extra "xe9"; clear hx9; intro Ta t1 t2 p1 p2 e2 e3 hT5 lT5) | obtain ⟨Ta, t1, t2, p1, p2, e2, e3, hT5, lT5⟩ := hR
  subst e2
  subst e3
  have e5 := (hT5.2.1 hTr.1).symm
  have e6 := (hT5.2.2 hTr.2.1).symm
  subst e5
  subst e6
  clear lT5
  rw [lows' hrq (by k_extra "li")] at Na
  repeat' ((fail_if_success (with_reducible show PySem.wpAny _ _ (compareOp _ _ _) _ _ _)); k_extra "ks1"; try dsimp only)
  k_extra "ks1"
  rw [bne_self_eq_false]
  repeat' ((fail_if_success (with_reducible show PySem.wpAny _ _ (call (.ref 187) _) _ _ _)); k_extra "ks1"; try dsimp only)
  (with_reducible rename News _ _ _ _ => N7)
  replace N7 := News.perm N7 (news' := (Dr, listOf ur.toArray kr) :: (119, tabObj p9) :: (126, tabObj pm) :: (Dd, listOf ud.toArray kd) :: (L + 1, o1) :: (own1 ++ own2)) (by k_extra "psub")
  (k_dflt (refine' Cl.use (least_c _ _ _ _ _ ((119, tabObj p9) :: (126, tabObj pm) :: (Dd, listOf ud.toArray kd) :: (L + 1, o1) :: (own1 ++ own2)) Dr ur kr x ?q1 ?q2 hrI) ?k1 ?k2 ?k3 ?k4 ?k5 ?kK ?kd ?ku ?_; k_extra "cl_use"))
  case q1 => k_extra "li"
  case q2 => k_extra "li"
  intro r nx h8 tk8 F8 N8 hR
  first | (revert hR; intro hx9; k_extra "xe2"; clear hx9; intro e7 hx9; (first | (k_extra "xq2"; clear hx9; intro t8 e8) | obtain ⟨t8, e8⟩ := hx9)) | obtain ⟨e7, ⟨t8, e8⟩⟩ := hR
  subst e7
  subst e8
  rw [hF.tab]
  dsimp only
  repeat' ((fail_if_success (with_reducible show PySem.wpAny _ _ (compareOp _ _ _) _ _ _)); k_extra "ks1"; try dsimp only)
  k_extra "ks1"
  rw [bne_self_eq_false]
  k_extra "kd"
  exact hN _ _ _ _ G rfl _ (by k_extra "lo") (News.perm (by assumption) (by k_extra "psub"))
end
section
local macro_rules | `(tactic| l_idx) => `(tactic| k_extra "lidx")
local macro_rules | `(tactic| k_ne) => `(tactic| k_extra "kne")
local macro_rules | `(tactic| ktr_room) => `(tactic| k_extra "kroom")
local macro_rules | `(tactic| ktr_units) => `(tactic| k_extra "kunits")
local macro_rules | `(tactic| k_all) => `(tactic| k_extra "kall")
local macro_rules | `(tactic| k_inst) => `(tactic| k_extra "kinst")
local macro_rules | `(tactic| walk_at "setAttr ref") => `(tactic| (k_here; k_dflt (refine' set_dictL ?k1 ?k2 ?k3 ?k4 ?k5 ?k6 (acc_mro _) ?k8 ?k9 ?k10 ?k11 ?k12 ?k13 ?_; (case k1 => k_asm); (case k2 => k_asm); (case k3 => k_asm); (case k4 => k_inst); (case k5 => exact rfl); (case k6 => k_is); (case k8 => k_is); (case k9 => k_is); (case k10 => k_get); (case k11 => k_put); (case k12 => k_upd); (case k13 => exact Nat.le_of_ble_eq_true rfl); k_whole; intro h' F' N')))
theorem lb17 {w : World} {loose : List Str} {mean : ExcName → Option Value} {mg mb : Str → Option Value} {g : Heap} (L : Addr) (fa : Addr) (cd : Value) (l : Addr) (vs : List Value) (ns : List Int) (C : LawCtx w loose mean mg mb g L l vs ns) (tot : Nat) (tt : Tok) (o1 : Obj) (e1 : o1.data = .cell (some (.int (tot : Int) tt))) (cl : List Nat) (Dr : Addr) (ur : List Value) (kr : Nat) (x : List Nat) (hrq : Qs x) (hr5 : x.length ≤ 5) (hf : List Nat) (Dd : Addr) (ud : List Value) (kd : Nat) (p : List Nat) (own1 : CbLed) (own2 : CbLed) (tt1 : Tok) (ls : Nat) (ah : Nat) (bh : Nat) (sl : Tok) (sa : Tok) (sb : Tok) (hF : Found x ls ah bh) (tm : Tok) (pm : Array Value) (p9 : Array Value) :
    Blk w g L fa cd (lawStmt 17) [("mirror", .str (tx (x.reverse.map sg)) tm), ("behind", .int ((bh) : Nat) sb), ("ahead", .int ((ah) : Nat) sa), ("least", .int ((ls) : Nat) sl), ("text", .str (tx (x.map sg)) tt1), ("drawn", .ref Dd), ("row", .ref Dr)] ((119, tabObj p9) :: (126, tabObj pm) :: (Dr, listOf ur.toArray kr) :: (Dd, listOf ud.toArray kd) :: (L + 1, o1) :: (own1 ++ own2))
      (fun R => ∀ (h : Heap), Loc g L h [("mirror", .str (tx (x.reverse.map sg)) tm), ("behind", .int ((bh) : Nat) sb), ("ahead", .int ((ah) : Nat) sa), ("least", .int ((ls) : Nat) sl), ("text", .str (tx (x.map sg)) tt1), ("drawn", .ref Dd), ("row", .ref Dr)] → News g L h ((119, tabObj p9) :: (126, tabObj pm) :: (Dr, listOf ur.toArray kr) :: (Dd, listOf ud.toArray kd) :: (L + 1, o1) :: (own1 ++ own2)) → R h) := by
  have X := C.X
  have T := C.T
  have B := C.B
  have k1 := C.k1
  have k2 := C.k2
  have k3 := C.k3
  have k4 := C.k4
  have hI := C.hI
  have lifted := C.lifted
  have hns := C.hns
  have l0 := C.l0
  have kcd : CdH g := ⟨k2, k1⟩
  clear C
  refine blk_mk (show lawStmt 17 = _ from (by conv => lhs; whnf)) ?_
  intro h0 gg dr tk oo Q G ⟨r, F⟩ N hN
  have k5 := G
  have hb := fbit_b tot 16
  repeat' ((fail_if_success (with_reducible show PySem.wpAny _ _ (call (.ref 35) _) _ _ _)); k_extra "ks1"; try dsimp only)
  (k_dflt (refine' Cl.use (lev_c _ _ _ _ _ ((119, tabObj p9) :: (126, tabObj pm) :: (Dr, listOf ur.toArray kr) :: (Dd, listOf ud.toArray kd) :: (L + 1, o1) :: (own1 ++ own2)) _ _ _ _ _ _ ?q1 ?q2) ?k1 ?k2 ?k3 ?k4 ?k5 ?kK ?kd ?ku ?_; k_extra "cl_use"))
  case q1 => rw [List.length_map]; k_extra "li"
  case q2 => rw [List.length_map, List.length_reverse]; k_extra "li"
  intro r nx h8 tk8 Fa Na hR
  first | (revert hR; intro hx9; k_extra "xe2"; clear hx9; intro e8 hx9; (first | (k_extra "xq2"; clear hx9; intro t8 e9) | obtain ⟨t8, e9⟩ := hx9)) | obtain ⟨e8, ⟨t8, e9⟩⟩ := hR
  subst e8
  subst e9
  dsimp only
  rw [chk_twice hF hrq (by k_extra "li") (by k_extra "li")]
  repeat' ((fail_if_success (with_reducible show PySem.wpAny _ _ (compareOp _ _ _) _ _ _)); k_extra "ks1"; try dsimp only)
  k_extra "ks1"
  rw [bne_self_eq_false]
  k_extra "kd"
  exact hN _ _ _ _ G rfl _ (by k_extra "lo") (News.perm (by assumption) (by k_extra "psub"))
end
section
local macro_rules | `(tactic| l_idx) => `(tactic| k_extra "lidx")
local macro_rules | `(tactic| k_ne) => `(tactic| k_extra "kne")
local macro_rules | `(tactic| ktr_room) => `(tactic| k_extra "kroom")
local macro_rules | `(tactic| ktr_units) => `(tactic| k_extra "kunits")
local macro_rules | `(tactic| k_all) => `(tactic| k_extra "kall")
local macro_rules | `(tactic| k_inst) => `(tactic| k_extra "kinst")
local macro_rules | `(tactic| walk_at "setAttr ref") => `(tactic| (k_here; k_dflt (refine' set_dictL ?k1 ?k2 ?k3 ?k4 ?k5 ?k6 (acc_mro _) ?k8 ?k9 ?k10 ?k11 ?k12 ?k13 ?_; (case k1 => k_asm); (case k2 => k_asm); (case k3 => k_asm); (case k4 => k_inst); (case k5 => exact rfl); (case k6 => k_is); (case k8 => k_is); (case k9 => k_is); (case k10 => k_get); (case k11 => k_put); (case k12 => k_upd); (case k13 => exact Nat.le_of_ble_eq_true rfl); k_whole; intro h' F' N')))
theorem lb18 {w : World} {loose : List Str} {mean : ExcName → Option Value} {mg mb : Str → Option Value} {g : Heap} (L : Addr) (fa : Addr) (cd : Value) (l : Addr) (vs : List Value) (ns : List Int) (C : LawCtx w loose mean mg mb g L l vs ns) (o1 : Obj) (cl : List Nat) (Dr : Addr) (ur : List Value) (kr : Nat) (x : List Nat) (hrq : Qs x) (hr5 : x.length ≤ 5) (hf : List Nat) (Dd : Addr) (ud : List Value) (kd : Nat) (p : List Nat) (own1 : CbLed) (own2 : CbLed) (tt1 : Tok) (ls : Nat) (ah : Nat) (bh : Nat) (sl : Tok) (sa : Tok) (sb : Tok) (hF : Found x ls ah bh) (tm : Tok) (pm : Array Value) (p9 : Array Value) :
    Blk w g L fa cd (lawStmt 18) [("mirror", .str (tx (x.reverse.map sg)) tm), ("behind", .int ((bh) : Nat) sb), ("ahead", .int ((ah) : Nat) sa), ("least", .int ((ls) : Nat) sl), ("text", .str (tx (x.map sg)) tt1), ("drawn", .ref Dd), ("row", .ref Dr)] ((119, tabObj p9) :: (126, tabObj pm) :: (Dr, listOf ur.toArray kr) :: (Dd, listOf ud.toArray kd) :: (L + 1, o1) :: (own1 ++ own2))
      (fun R => ∀ (h : Heap), Loc g L h [("mirror", .str (tx (x.reverse.map sg)) tm), ("behind", .int ((bh) : Nat) sb), ("ahead", .int ((ah) : Nat) sa), ("least", .int ((ls) : Nat) sl), ("text", .str (tx (x.map sg)) tt1), ("drawn", .ref Dd), ("row", .ref Dr)] → News g L h ((119, tabObj p9) :: (126, tabObj pm) :: (Dr, listOf ur.toArray kr) :: (Dd, listOf ud.toArray kd) :: (L + 1, o1) :: (own1 ++ own2)) → R h) := by
  have X := C.X
  have T := C.T
  have B := C.B
  have k1 := C.k1
  have k2 := C.k2
  have k3 := C.k3
  have k4 := C.k4
  have hI := C.hI
  have lifted := C.lifted
  have hns := C.hns
  have l0 := C.l0
  have kcd : CdH g := ⟨k2, k1⟩
  clear C
  refine blk_mk (show lawStmt 18 = _ from (by conv => lhs; whnf)) ?_
  intro h0 gg dr tk oo Q G ⟨r, F⟩ N hN
  have k5 := G
  repeat' ((fail_if_success (with_reducible show PySem.wpAny _ _ (call (.ref 35) _) _ _ _)); k_extra "ks1"; try dsimp only)
  (k_dflt (refine' Cl.use (lev_c _ _ _ _ _ ((119, tabObj p9) :: (126, tabObj pm) :: (Dr, listOf ur.toArray kr) :: (Dd, listOf ud.toArray kd) :: (L + 1, o1) :: (own1 ++ own2)) _ _ _ _ _ _ ?q1 ?q2) ?k1 ?k2 ?k3 ?k4 ?k5 ?kK ?kd ?ku ?_; k_extra "cl_use"))
  case q1 => rw [List.length_map]; k_extra "li"
  case q2 => rw [List.length_map, List.length_reverse]; k_extra "li"
  intro r nx h8 tk8 Fa Na hR
  first | (revert hR; intro hx9; k_extra "xe2"; clear hx9; intro e8 hx9; (first | (k_extra "xq2"; clear hx9; intro t8 e9) | obtain ⟨t8, e9⟩ := hx9)) | obtain ⟨e8, ⟨t8, e9⟩⟩ := hR
  subst e8
  subst e9
  dsimp only
  rw [chk_once hF hrq (by k_extra "li")]
  repeat' ((fail_if_success (with_reducible show PySem.wpAny _ _ (compareOp _ _ _) _ _ _)); k_extra "ks1"; try dsimp only)
  k_extra "ks1"
  rw [bne_self_eq_false]
  k_extra "kd"
  exact hN _ _ _ _ G rfl _ (by k_extra "lo") (News.perm (by assumption) (by k_extra "psub"))
end
section
local macro_rules | `(tactic| l_idx) => `(tactic| k_extra "lidx")
local macro_rules | `(tactic| k_ne) => `(tactic| k_extra "kne")
local macro_rules | `(tactic| ktr_room) => `(tactic| k_extra "kroom")
local macro_rules | `(tactic| ktr_units) => `(tactic| k_extra "kunits")
local macro_rules | `(tactic| k_all) => `(tactic| k_extra "kall")
local macro_rules | `(tactic| k_inst) => `(tactic| k_extra "kinst")
local macro_rules | `(tactic| walk_at "setAttr ref") => `(tactic| (k_here; k_dflt (refine' set_dictL ?k1 ?k2 ?k3 ?k4 ?k5 ?k6 (acc_mro _) ?k8 ?k9 ?k10 ?k11 ?k12 ?k13 ?_; (case k1 => k_asm); (case k2 => k_asm); (case k3 => k_asm); (case k4 => k_inst); (case k5 => exact rfl); (case k6 => k_is); (case k8 => k_is); (case k9 => k_is); (case k10 => k_get); (case k11 => k_put); (case k12 => k_upd); (case k13 => exact Nat.le_of_ble_eq_true rfl); k_whole; intro h' F' N')))
theorem ln0 {w : World} {loose : List Str} {mean : ExcName → Option Value} {mg mb : Str → Option Value} {g : Heap} (L : Addr) (fa : Addr) (cd : Value) (l : Addr) (vs : List Value) (ns : List Int) (C : LawCtx w loose mean mg mb g L l vs ns) (o1 : Obj) (cl : List Nat) (Dr : Addr) (ur : List Value) (kr : Nat) (x : List Nat) (hf : List Nat) (Dd : Addr) (ud : List Value) (kd : Nat) (p : List Nat) (own1 : CbLed) (own2 : CbLed) (tt1 : Tok) (ls : Nat) (ah : Nat) (bh : Nat) (sl : Tok) (sa : Tok) (sb : Tok) (tm : Tok) (pm : Array Value) (p9 : Array Value) (DN : Addr) (un : List Value) (nr : List Nat) (rest : CbLed) (hnI : IntsAre un (nats nr)) (hnr : NearOk x ls ah nr) :
    Blk w g L fa cd (turnStmt 19 0) [("near", .ref DN), ("mirror", .str (tx (x.reverse.map sg)) tm), ("behind", .int ((bh) : Nat) sb), ("ahead", .int ((ah) : Nat) sa), ("least", .int ((ls) : Nat) sl), ("text", .str (tx (x.map sg)) tt1), ("drawn", .ref Dd), ("row", .ref Dr)] ((DN, listOf un.toArray 0) :: (119, tabObj p9) :: (126, tabObj pm) :: (Dr, listOf ur.toArray kr) :: (Dd, listOf ud.toArray kd) :: (L + 1, o1) :: ((own1 ++ own2) ++ rest))
      (fun R => ∀ (h : Heap) (tg : Tok), Loc g L h [("signs", .str (tx (nr.map sg)) tg), ("near", .ref DN), ("mirror", .str (tx (x.reverse.map sg)) tm), ("behind", .int ((bh) : Nat) sb), ("ahead", .int ((ah) : Nat) sa), ("least", .int ((ls) : Nat) sl), ("text", .str (tx (x.map sg)) tt1), ("drawn", .ref Dd), ("row", .ref Dr)] → News g L h ((DN, listOf un.toArray 0) :: (119, tabObj p9) :: (126, tabObj pm) :: (Dr, listOf ur.toArray kr) :: (Dd, listOf ud.toArray kd) :: (L + 1, o1) :: ((own1 ++ own2) ++ rest)) → R h) := by
  have X := C.X
  have T := C.T
  have B := C.B
  have k1 := C.k1
  have k2 := C.k2
  have k3 := C.k3
  have k4 := C.k4
  have hI := C.hI
  have lifted := C.lifted
  have hns := C.hns
  have l0 := C.l0
  have kcd : CdH g := ⟨k2, k1⟩
  clear C
  refine blk_mk (show turnStmt 19 0 = _ from (by conv => lhs; whnf)) ?_
  intro h0 gg dr tk oo Q G ⟨r, F⟩ N hN
  have k5 := G
  have hq1 := hnr.l
  repeat' ((fail_if_success (with_reducible show PySem.wpAny _ _ (call (.ref 180) _) _ _ _)); k_extra "ks1"; try dsimp only)
  replace N := News.perm N (news' := (DN, listOf (un).toArray 0) :: ((119, tabObj p9) :: (126, tabObj pm) :: (Dr, listOf ur.toArray kr) :: (Dd, listOf ud.toArray kd) :: (L + 1, o1) :: ((own1 ++ own2) ++ rest))) (by k_extra "psub")
  (k_dflt (refine' Cl.use (signs_c _ _ _ _ _ (((119, tabObj p9) :: (126, tabObj pm) :: (Dr, listOf ur.toArray kr) :: (Dd, listOf ud.toArray kd) :: (L + 1, o1) :: ((own1 ++ own2) ++ rest))) DN un 0 nr ?q1 ?q2 ?q3) ?k1 ?k2 ?k3 ?k4 ?k5 ?kK ?kd ?ku ?_; k_extra "cl_use"))
  case q1 => exact hnr.q
  case q2 => k_extra "li"
  case q3 => exact hnI
  intro r nx h5 tk5 Fa Na hR
  first | (revert hR; intro hx9; k_extra "xe2"; clear hx9; intro e5 hx9; (first | (k_extra "xq2"; clear hx9; intro tsa e6) | obtain ⟨tsa, e6⟩ := hx9)) | obtain ⟨e5, ⟨tsa, e6⟩⟩ := hR
  subst e5
  subst e6
  dsimp only
  k_extra "kd"
  exact hN _ _ _ _ G rfl _ _ (by k_extra "lo") (News.perm (by assumption) (by k_extra "psub"))
end
section
local macro_rules | `(tactic| l_idx) => `(tactic| k_extra "lidx")
local macro_rules | `(tactic| k_ne) => `(tactic| k_extra "kne")
local macro_rules | `(tactic| ktr_room) => `(tactic| k_extra "kroom")
local macro_rules | `(tactic| ktr_units) => `(tactic| k_extra "kunits")
local macro_rules | `(tactic| k_all) => `(tactic| k_extra "kall")
local macro_rules | `(tactic| k_inst) => `(tactic| k_extra "kinst")
local macro_rules | `(tactic| walk_at "setAttr ref") => `(tactic| (k_here; k_dflt (refine' set_dictL ?k1 ?k2 ?k3 ?k4 ?k5 ?k6 (acc_mro _) ?k8 ?k9 ?k10 ?k11 ?k12 ?k13 ?_; (case k1 => k_asm); (case k2 => k_asm); (case k3 => k_asm); (case k4 => k_inst); (case k5 => exact rfl); (case k6 => k_is); (case k8 => k_is); (case k9 => k_is); (case k10 => k_get); (case k11 => k_put); (case k12 => k_upd); (case k13 => exact Nat.le_of_ble_eq_true rfl); k_whole; intro h' F' N')))
theorem ln1 {w : World} {loose : List Str} {mean : ExcName → Option Value} {mg mb : Str → Option Value} {g : Heap} (L : Addr) (fa : Addr) (cd : Value) (l : Addr) (vs : List Value) (ns : List Int) (C : LawCtx w loose mean mg mb g L l vs ns) (o1 : Obj) (cl : List Nat) (Dr : Addr) (ur : List Value) (kr : Nat) (x : List Nat) (hrq : Qs x) (hr5 : x.length ≤ 5) (hf : List Nat) (Dd : Addr) (ud : List Value) (kd : Nat) (p : List Nat) (own1 : CbLed) (own2 : CbLed) (tt1 : Tok) (ls : Nat) (ah : Nat) (bh : Nat) (sl : Tok) (sa : Tok) (sb : Tok) (tm : Tok) (pm : Array Value) (p9 : Array Value) (DN : Addr) (un : List Value) (nr : List Nat) (rest : CbLed) (hnr : NearOk x ls ah nr) (tg : Tok) :
    Blk w g L fa cd (turnStmt 19 1) [("signs", .str (tx (nr.map sg)) tg), ("near", .ref DN), ("mirror", .str (tx (x.reverse.map sg)) tm), ("behind", .int ((bh) : Nat) sb), ("ahead", .int ((ah) : Nat) sa), ("least", .int ((ls) : Nat) sl), ("text", .str (tx (x.map sg)) tt1), ("drawn", .ref Dd), ("row", .ref Dr)] ((DN, listOf un.toArray 0) :: (119, tabObj p9) :: (126, tabObj pm) :: (Dr, listOf ur.toArray kr) :: (Dd, listOf ud.toArray kd) :: (L + 1, o1) :: ((own1 ++ own2) ++ rest))
      (fun R => ∀ (h : Heap), Loc g L h [("near", .ref DN), ("mirror", .str (tx (x.reverse.map sg)) tm), ("behind", .int ((bh) : Nat) sb), ("ahead", .int ((ah) : Nat) sa), ("least", .int ((ls) : Nat) sl), ("text", .str (tx (x.map sg)) tt1), ("drawn", .ref Dd), ("row", .ref Dr)] → News g L h ((DN, listOf un.toArray 0) :: (119, tabObj p9) :: (126, tabObj pm) :: (Dr, listOf ur.toArray kr) :: (Dd, listOf ud.toArray kd) :: (L + 1, o1) :: ((own1 ++ own2) ++ rest)) → R h) := by
  have X := C.X
  have T := C.T
  have B := C.B
  have k1 := C.k1
  have k2 := C.k2
  have k3 := C.k3
  have k4 := C.k4
  have hI := C.hI
  have lifted := C.lifted
  have hns := C.hns
  have l0 := C.l0
  have kcd : CdH g := ⟨k2, k1⟩
  clear C
  refine blk_mk (show turnStmt 19 1 = _ from (by conv => lhs; whnf)) ?_
  intro h0 gg dr tk oo Q G ⟨r, F⟩ N hN
  have k5 := G
  have hq1 := hnr.l
  repeat' ((fail_if_success (with_reducible show PySem.wpAny _ _ (call (.ref 35) _) _ _ _)); k_extra "ks1"; try dsimp only)
  (k_dflt (refine' Cl.use (lev_c _ _ _ _ _ ((DN, listOf un.toArray 0) :: (119, tabObj p9) :: (126, tabObj pm) :: (Dr, listOf ur.toArray kr) :: (Dd, listOf ud.toArray kd) :: (L + 1, o1) :: ((own1 ++ own2) ++ rest)) _ _ _ _ _ _ ?q1 ?q2) ?k1 ?k2 ?k3 ?k4 ?k5 ?kK ?kd ?ku ?_; k_extra "cl_use"))
  case q1 => rw [List.length_map]; k_extra "li"
  case q2 => rw [List.length_map]; k_extra "li"
  intro r nx h8 tk8 Fa Na hR
  first | (revert hR; intro hx9; k_extra "xe2"; clear hx9; intro e8 hx9; (first | (k_extra "xq2"; clear hx9; intro t8 e9) | obtain ⟨t8, e9⟩ := hx9)) | obtain ⟨e8, ⟨t8, e9⟩⟩ := hR
  subst e8
  subst e9
  dsimp only
  rw [chk_near hrq hnr.q (by k_extra "li") (by k_extra "li") hnr.d]
  repeat' ((fail_if_success (with_reducible show PySem.wpAny _ _ (compareOp _ _ _) _ _ _)); k_extra "ks1"; try dsimp only)
  k_extra "ks1"
  rw [bne_self_eq_false]
  repeat' ((fail_if_success (with_reducible show PySem.wpAny _ _ (call (.ref 35) _) _ _ _)); k_extra "ks1"; try dsimp only)
  (k_dflt (refine' Cl.use (lev_c _ _ _ _ _ ((DN, listOf un.toArray 0) :: (119, tabObj p9) :: (126, tabObj pm) :: (Dr, listOf ur.toArray kr) :: (Dd, listOf ud.toArray kd) :: (L + 1, o1) :: ((own1 ++ own2) ++ rest)) _ _ _ _ _ _ ?q1 ?q2) ?k1 ?k2 ?k3 ?k4 ?k5 ?kK ?kd ?ku ?_; k_extra "cl_use"))
  case q1 => rw [List.length_map]; k_extra "li"
  case q2 => rw [List.length_map, List.length_reverse]; k_extra "li"
  intro r nx h8 tk8 Fb Nb hR
  first | (revert hR; intro hx9; k_extra "xe2"; clear hx9; intro e8 hx9; (first | (k_extra "xq2"; clear hx9; intro t8 e9) | obtain ⟨t8, e9⟩ := hx9)) | obtain ⟨e8, ⟨t8, e9⟩⟩ := hR
  subst e8
  subst e9
  dsimp only
  rw [chk_near' hrq hnr.q (by k_extra "li") (by k_extra "li") hnr.m hnr.d]
  repeat' ((fail_if_success (with_reducible show PySem.wpAny _ _ (compareOp _ _ _) _ _ _)); k_extra "ks1"; try dsimp only)
  k_extra "ks1"
  rw [bne_self_eq_false]
  k_extra "kd"
  exact hN _ _ _ _ G rfl _ (by k_extra "lo") (News.perm (by assumption) (by k_extra "psub"))
end
section
local macro_rules | `(tactic| l_idx) => `(tactic| k_extra "lidx")
local macro_rules | `(tactic| k_ne) => `(tactic| k_extra "kne")
local macro_rules | `(tactic| ktr_room) => `(tactic| k_extra "kroom")
local macro_rules | `(tactic| ktr_units) => `(tactic| k_extra "kunits")
local macro_rules | `(tactic| k_all) => `(tactic| k_extra "kall")
local macro_rules | `(tactic| k_inst) => `(tactic| k_extra "kinst")
local macro_rules | `(tactic| walk_at "setAttr ref") => `(tactic| (k_here; k_dflt (refine' set_dictL ?k1 ?k2 ?k3 ?k4 ?k5 ?k6 (acc_mro _) ?k8 ?k9 ?k10 ?k11 ?k12 ?k13 ?_; (case k1 => k_asm); (case k2 => k_asm); (case k3 => k_asm); (case k4 => k_inst); (case k5 => exact rfl); (case k6 => k_is); (case k8 => k_is); (case k9 => k_is); (case k10 => k_get); (case k11 => k_put); (case k12 => k_upd); (case k13 => exact Nat.le_of_ble_eq_true rfl); k_whole; intro h' F' N')))
theorem ln2 {w : World} {loose : List Str} {mean : ExcName → Option Value} {mg mb : Str → Option Value} {g : Heap} (L : Addr) (fa : Addr) (cd : Value) (l : Addr) (vs : List Value) (ns : List Int) (C : LawCtx w loose mean mg mb g L l vs ns) (o1 : Obj) (cl : List Nat) (Dr : Addr) (ur : List Value) (kr : Nat) (x : List Nat) (hf : List Nat) (Dd : Addr) (ud : List Value) (kd : Nat) (p : List Nat) (own1 : CbLed) (own2 : CbLed) (tt1 : Tok) (ls : Nat) (ah : Nat) (bh : Nat) (sl : Tok) (sa : Tok) (sb : Tok) (tm : Tok) (pm : Array Value) (p9 : Array Value) (DN : Addr) (un : List Value) (nr : List Nat) (rest : CbLed) (hnI : IntsAre un (nats nr)) (hnr : NearOk x ls ah nr) :
    Blk w g L fa cd (turnStmt 19 2) [("near", .ref DN), ("mirror", .str (tx (x.reverse.map sg)) tm), ("behind", .int ((bh) : Nat) sb), ("ahead", .int ((ah) : Nat) sa), ("least", .int ((ls) : Nat) sl), ("text", .str (tx (x.map sg)) tt1), ("drawn", .ref Dd), ("row", .ref Dr)] ((DN, listOf un.toArray 0) :: (119, tabObj p9) :: (126, tabObj pm) :: (Dr, listOf ur.toArray kr) :: (Dd, listOf ud.toArray kd) :: (L + 1, o1) :: ((own1 ++ own2) ++ rest))
      (fun R => ∀ (h : Heap) (tW : Tok) (tR : Tok), Loc g L h [("rest", .int ((kp nr).2 : Nat) tR), ("whole", .int ((kp nr).1 : Nat) tW), ("near", .ref DN), ("mirror", .str (tx (x.reverse.map sg)) tm), ("behind", .int ((bh) : Nat) sb), ("ahead", .int ((ah) : Nat) sa), ("least", .int ((ls) : Nat) sl), ("text", .str (tx (x.map sg)) tt1), ("drawn", .ref Dd), ("row", .ref Dr)] → News g L h ((DN, listOf un.toArray 0) :: (119, tabObj p9) :: (126, tabObj pm) :: (Dr, listOf ur.toArray kr) :: (Dd, listOf ud.toArray kd) :: (L + 1, o1) :: ((own1 ++ own2) ++ rest)) → R h) := by
  have X := C.X
  have T := C.T
  have B := C.B
  have k1 := C.k1
  have k2 := C.k2
  have k3 := C.k3
  have k4 := C.k4
  have hI := C.hI
  have lifted := C.lifted
  have hns := C.hns
  have l0 := C.l0
  have kcd : CdH g := ⟨k2, k1⟩
  clear C
  refine blk_mk (show turnStmt 19 2 = _ from (by conv => lhs; whnf)) ?_
  intro h0 gg dr tk oo Q G ⟨r, F⟩ N hN
  have k5 := G
  have hq1 := hnr.l
  repeat' ((fail_if_success (with_reducible show PySem.wpAny _ _ (call (.ref 168) _) _ _ _)); k_extra "ks1"; try dsimp only)
  (k_dflt (refine' Cl.use (pair_c _ _ _ _ _ ((119, tabObj p9) :: (126, tabObj pm) :: (Dr, listOf ur.toArray kr) :: (Dd, listOf ud.toArray kd) :: (L + 1, o1) :: ((own1 ++ own2) ++ rest)) DN un 0 nr hnr.q ?q1 hnI) ?k1 ?k2 ?k3 ?k4 ?k5 ?kK ?kd ?ku ?_; k_extra "cl_use"))
  case q1 => k_extra "li"
  intro r nx h2 tk2 F2 N2 hR
  first | (revert hR; intro hx9; k_extra "xe6"; clear hx9; intro T2 t1 t2 e2 e3 lT) | obtain ⟨T2, t1, t2, e2, e3, lT⟩ := hR
  subst e2
  subst e3
  k_extra "kd"
  exact hN _ _ _ _ G rfl _ _ _ (by k_extra "lo") (News.perm (by assumption) (by k_extra "psub"))
end
section
local macro_rules | `(tactic| l_idx) => `(tactic| k_extra "lidx")
local macro_rules | `(tactic| k_ne) => `(tactic| k_extra "kne")
local macro_rules | `(tactic| ktr_room) => `(tactic| k_extra "kroom")
local macro_rules | `(tactic| ktr_units) => `(tactic| k_extra "kunits")
local macro_rules | `(tactic| k_all) => `(tactic| k_extra "kall")
local macro_rules | `(tactic| k_inst) => `(tactic| k_extra "kinst")
local macro_rules | `(tactic| walk_at "setAttr ref") => `(tactic| (k_here; k_dflt (refine' set_dictL ?k1 ?k2 ?k3 ?k4 ?k5 ?k6 (acc_mro _) ?k8 ?k9 ?k10 ?k11 ?k12 ?k13 ?_; (case k1 => k_asm); (case k2 => k_asm); (case k3 => k_asm); (case k4 => k_inst); (case k5 => exact rfl); (case k6 => k_is); (case k8 => k_is); (case k9 => k_is); (case k10 => k_get); (case k11 => k_put); (case k12 => k_upd); (case k13 => exact Nat.le_of_ble_eq_true rfl); k_whole; intro h' F' N')))
theorem ln3 {w : World} {loose : List Str} {mean : ExcName → Option Value} {mg mb : Str → Option Value} {g : Heap} (L : Addr) (fa : Addr) (cd : Value) (l : Addr) (vs : List Value) (ns : List Int) (C : LawCtx w loose mean mg mb g L l vs ns) (o1 : Obj) (Dr : Addr) (ur : List Value) (kr : Nat) (x : List Nat) (Dd : Addr) (ud : List Value) (kd : Nat) (own1 : CbLed) (own2 : CbLed) (tt1 : Tok) (ls : Nat) (ah : Nat) (bh : Nat) (sl : Tok) (sa : Tok) (sb : Tok) (tm : Tok) (pm : Array Value) (p9 : Array Value) (DN : Addr) (un : List Value) (nr : List Nat) (rest : CbLed) (tW : Tok) (tR : Tok) :
    Blk w g L fa cd (turnStmt 19 3) [("rest", .int ((kp nr).2 : Nat) tR), ("whole", .int ((kp nr).1 : Nat) tW), ("near", .ref DN), ("mirror", .str (tx (x.reverse.map sg)) tm), ("behind", .int ((bh) : Nat) sb), ("ahead", .int ((ah) : Nat) sa), ("least", .int ((ls) : Nat) sl), ("text", .str (tx (x.map sg)) tt1), ("drawn", .ref Dd), ("row", .ref Dr)] ((DN, listOf un.toArray 0) :: (119, tabObj p9) :: (126, tabObj pm) :: (Dr, listOf ur.toArray kr) :: (Dd, listOf ud.toArray kd) :: (L + 1, o1) :: ((own1 ++ own2) ++ rest))
      (fun R => ∀ (h : Heap) (tB : Tok), Loc g L h [("big", .int ((kp nr).1 : Nat) tB), ("rest", .int ((kp nr).2 : Nat) tR), ("whole", .int ((kp nr).1 : Nat) tW), ("near", .ref DN), ("mirror", .str (tx (x.reverse.map sg)) tm), ("behind", .int ((bh) : Nat) sb), ("ahead", .int ((ah) : Nat) sa), ("least", .int ((ls) : Nat) sl), ("text", .str (tx (x.map sg)) tt1), ("drawn", .ref Dd), ("row", .ref Dr)] → News g L h ((DN, listOf un.toArray 0) :: (119, tabObj p9) :: (126, tabObj pm) :: (Dr, listOf ur.toArray kr) :: (Dd, listOf ud.toArray kd) :: (L + 1, o1) :: ((own1 ++ own2) ++ rest)) → R h) := by
  have X := C.X
  have T := C.T
  have B := C.B
  have k1 := C.k1
  have k2 := C.k2
  have k3 := C.k3
  have k4 := C.k4
  have hI := C.hI
  have lifted := C.lifted
  have hns := C.hns
  have l0 := C.l0
  have kcd : CdH g := ⟨k2, k1⟩
  clear C
  refine blk_mk (show turnStmt 19 3 = _ from (by conv => lhs; whnf)) ?_
  intro h0 gg dr tk oo Q G ⟨r, F⟩ N hN
  have k5 := G
  k_extra "kd"
  exact hN _ _ _ _ G rfl _ _ (by k_extra "lo") (News.perm (by assumption) (by k_extra "psub"))
end
section
local macro_rules | `(tactic| l_idx) => `(tactic| k_extra "lidx")
local macro_rules | `(tactic| k_ne) => `(tactic| k_extra "kne")
local macro_rules | `(tactic| ktr_room) => `(tactic| k_extra "kroom")
local macro_rules | `(tactic| ktr_units) => `(tactic| k_extra "kunits")
local macro_rules | `(tactic| k_all) => `(tactic| k_extra "kall")
local macro_rules | `(tactic| k_inst) => `(tactic| k_extra "kinst")
local macro_rules | `(tactic| walk_at "setAttr ref") => `(tactic| (k_here; k_dflt (refine' set_dictL ?k1 ?k2 ?k3 ?k4 ?k5 ?k6 (acc_mro _) ?k8 ?k9 ?k10 ?k11 ?k12 ?k13 ?_; (case k1 => k_asm); (case k2 => k_asm); (case k3 => k_asm); (case k4 => k_inst); (case k5 => exact rfl); (case k6 => k_is); (case k8 => k_is); (case k9 => k_is); (case k10 => k_get); (case k11 => k_put); (case k12 => k_upd); (case k13 => exact Nat.le_of_ble_eq_true rfl); k_whole; intro h' F' N')))
theorem ln4 {w : World} {loose : List Str} {mean : ExcName → Option Value} {mg mb : Str → Option Value} {g : Heap} (L : Addr) (fa : Addr) (cd : Value) (l : Addr) (vs : List Value) (ns : List Int) (C : LawCtx w loose mean mg mb g L l vs ns) (tot : Nat) (tt : Tok) (o1 : Obj) (e1 : o1.data = .cell (some (.int (tot : Int) tt))) (cl : List Nat) (Dr : Addr) (ur : List Value) (kr : Nat) (x : List Nat) (hf : List Nat) (Dd : Addr) (ud : List Value) (kd : Nat) (p : List Nat) (own1 : CbLed) (own2 : CbLed) (hTb : TbsM own1 own2 [(119, tabObj #[]), (126, tabObj #[])]) (tt1 : Tok) (ls : Nat) (ah : Nat) (bh : Nat) (sl : Tok) (sa : Tok) (sb : Tok) (tm : Tok) (pm : Array Value) (p9 : Array Value) (DN : Addr) (un : List Value) (nr : List Nat) (rest : CbLed) (hnI : IntsAre un (nats nr)) (hnr : NearOk x ls ah nr) (hro : ∀ p ∈ own1 ++ own2, ∀ q ∈ rest, q.1 ≠ p.1) (tW : Tok) (tR : Tok) (tB : Tok) :
    Blk w g L fa cd (turnStmt 19 4) [("big", .int ((kp nr).1 : Nat) tB), ("rest", .int ((kp nr).2 : Nat) tR), ("whole", .int ((kp nr).1 : Nat) tW), ("near", .ref DN), ("mirror", .str (tx (x.reverse.map sg)) tm), ("behind", .int ((bh) : Nat) sb), ("ahead", .int ((ah) : Nat) sa), ("least", .int ((ls) : Nat) sl), ("text", .str (tx (x.map sg)) tt1), ("drawn", .ref Dd), ("row", .ref Dr)] ((DN, listOf un.toArray 0) :: (119, tabObj p9) :: (126, tabObj pm) :: (Dr, listOf ur.toArray kr) :: (Dd, listOf ud.toArray kd) :: (L + 1, o1) :: ((own1 ++ own2) ++ rest))
      (fun R => ∀ (h : Heap) (tX : Tok) (tY : Tok), Loc g L h [("rest", .int ((kp (nr.drop (nr.length / 2))).2 : Nat) tY), ("whole", .int ((kp (nr.drop (nr.length / 2))).1 : Nat) tX), ("big", .int ((kp nr).1 : Nat) tB), ("near", .ref DN), ("mirror", .str (tx (x.reverse.map sg)) tm), ("behind", .int ((bh) : Nat) sb), ("ahead", .int ((ah) : Nat) sa), ("least", .int ((ls) : Nat) sl), ("text", .str (tx (x.map sg)) tt1), ("drawn", .ref Dd), ("row", .ref Dr)] → News g L h ((DN, listOf un.toArray 0) :: (119, tabObj p9) :: (126, tabObj pm) :: (Dr, listOf ur.toArray kr) :: (Dd, listOf ud.toArray kd) :: (L + 1, o1) :: ((own1 ++ own2) ++ rest)) → R h) := by
  have X := C.X
  have T := C.T
  have B := C.B
  have k1 := C.k1
  have k2 := C.k2
  have k3 := C.k3
  have k4 := C.k4
  have hI := C.hI
  have lifted := C.lifted
  have hns := C.hns
  have l0 := C.l0
  have kcd : CdH g := ⟨k2, k1⟩
  clear C
  refine blk_mk (show turnStmt 19 4 = _ from (by conv => lhs; whnf)) ?_
  intro h0 gg dr tk oo Q G ⟨r, F⟩ N hN
  have k5 := G
  have hT0 : TbsM own1 own2 ((DN, listOf un.toArray 0) :: (119, tabObj p9) :: (126, tabObj pm) :: (Dr, listOf ur.toArray kr) :: [(Dd, listOf ud.toArray kd), (L + 1, o1)]) := tbs_of hTb (News.perm N (by k_extra "psub")) (by k_mem) (by k_mem) (by k_extra "ntb")
  have hTr : TbsM own1 own2 ((DN, listOf un.toArray 0) :: (119, tabObj p9) :: (126, tabObj pm) :: (Dr, listOf ur.toArray kr) :: (Dd, listOf ud.toArray kd) :: (L + 1, o1) :: rest) := TbsM.more (news := (DN, listOf un.toArray 0) :: (119, tabObj p9) :: (126, tabObj pm) :: (Dr, listOf ur.toArray kr) :: [(Dd, listOf ud.toArray kd), (L + 1, o1)]) hT0 hro
  have hq1 := hnr.l
  have h62 : nr.length < 2 ^ 62 := Nat.lt_of_le_of_lt hq1 (by decide)
  have hnq := hnr.q
  have hnl := rowlen hnI
  have hln : (nats nr).length = nr.length := by rw [List.length_map]
  have hld : ((nr.length : Nat) : Int).fdiv 2 = ((nr.length / 2 : Nat) : Int) := by rw [Int.fdiv_eq_ediv_of_nonneg _ (by decide)]; rfl
  refine forRG g (nr.length / 2) (fun i m nx => ∃ (t1 t2 : Tok) (uu : Unit), nx = (DN, listOf un.toArray 0) :: (119, tabObj p9) :: (126, tabObj pm) :: (Dr, listOf ur.toArray kr) :: (Dd, listOf ud.toArray kd) :: (L + 1, o1) :: ((own1 ++ own2) ++ rest) ∧ Kn m [("rest", .int ((kp (nr.drop i)).2 : Nat) t2), ("whole", .int ((kp (nr.drop i)).1 : Nat) t1), ("big", .int ((kp nr).1 : Nat) tB), ("near", .ref DN), ("mirror", .str (tx (x.reverse.map sg)) tm), ("behind", .int ((bh) : Nat) sb), ("ahead", .int ((ah) : Nat) sa), ("least", .int ((ls) : Nat) sl), ("text", .str (tx (x.map sg)) tt1), ("drawn", .ref Dd), ("row", .ref Dr)]) (by rfl) (by rfl) ?_ (by intro _; rfl)
  repeat' ((fail_if_success (show RGat ..)); k_extra "ks1"; try dsimp only)
  (with_reducible rename Fr _ _ _ _ => F4)
  (with_reducible rename News _ _ _ _ => N4)
  refine mx7 _ _ _ _ _ _ _ ⟨rfl, rfl, by assumption, by rw [hln, hld], by k_extra "li", F4, News.perm N4 (news' := (DN, listOf un.toArray 0) :: (119, tabObj p9) :: (126, tabObj pm) :: (Dr, listOf ur.toArray kr) :: (Dd, listOf ud.toArray kd) :: (L + 1, o1) :: ((own1 ++ own2) ++ rest)) (by k_extra "psub"), G, mx3 tW tR () ⟨rfl, by k_extra "kn_all"⟩, ?_, ?_⟩
  · intro i ti m₁ nx₁ s₂ I3 oI3 hi hJ os2 G2 F2 N2 hIc hoff
    first | (revert s₂; intro hx9; k_extra "xe5"; clear hx9; intro h₂ gg2 dr2 tk0 oo2) | obtain ⟨h₂, gg2, dr2, tk0, oo2⟩ := s₂
    dsimp only at os2 G2 F2 N2
    first | (revert hJ; intro hx9; k_extra "xe5"; clear hx9; intro t1 t2 uu e0 hm) | obtain ⟨t1, t2, uu, e0, hm⟩ := hJ
    subst e0
    have hx9 := locS F2 hm
    first | (k_extra "xe2"; clear hx9; intro r2 F2') | obtain ⟨r2, F2'⟩ := hx9
    clear F2 F4 N4 hm
    have hx9 := kp_drop (i := i) hnq (by k_extra "li")
    first | (k_extra "xe3"; clear hx9; intro k1' k2' k3') | obtain ⟨k1', k2', k3'⟩ := hx9
    have hsm := kp_small (hnq.drop i) (by rw [List.length_drop]; exact Nat.le_trans (Nat.sub_le _ _) hq1)
    have hTi : TbsM own1 own2 (((DN, listOf un.toArray 0) :: (119, tabObj p9) :: (126, tabObj pm) :: (Dr, listOf ur.toArray kr) :: (Dd, listOf ud.toArray kd) :: (L + 1, o1) :: rest) ++ [(I3, oI3)]) := TbsM.more (news := (DN, listOf un.toArray 0) :: (119, tabObj p9) :: (126, tabObj pm) :: (Dr, listOf ur.toArray kr) :: (Dd, listOf ud.toArray kd) :: (L + 1, o1) :: rest) (add := [(I3, oI3)]) hTr (by
      intro p hp q hq
      rw [List.mem_singleton.mp hq]
      exact Ne.symm (hoff p (by k_extra "sbm")))
    generalize (kp (nr.drop i)).1 = w1 at *
    generalize (kp (nr.drop i)).2 = w2 at *
    repeat' ((fail_if_success (with_reducible show PySem.wpAny _ _ (call (.ref 77) _) _ _ _)); k_extra "ks1"; try dsimp only)
    (with_reducible rename News _ _ _ _ => N7)
    replace N7 := News.perm N7 (news' := own1 ++ (own2 ++ (((DN, listOf un.toArray 0) :: (119, tabObj p9) :: (126, tabObj pm) :: (Dr, listOf ur.toArray kr) :: (Dd, listOf ud.toArray kd) :: (L + 1, o1) :: rest) ++ [(I3, oI3)]))) (by k_extra "psub")
    (k_dflt (refine' ClB.use (idm0_c _ _ _ _ _ own1 own2 (((DN, listOf un.toArray 0) :: (119, tabObj p9) :: (126, tabObj pm) :: (Dr, listOf ur.toArray kr) :: (Dd, listOf ud.toArray kd) :: (L + 1, o1) :: rest) ++ [(I3, oI3)]) _ _ _ _ ?q1 ?q2 ?q3 ?q4) ?k0 ?k1 ?k2 ?k3 ?k4 ?k5 ?kK ?kd ?ku ?_; k_extra "clb_use"))
    case q1 => exact hsm.1
    case q2 => exact k3'
    case q3 => exact hsm.2
    case q4 => exact hTi.tbs
    intro r nx h5 tk5 Fd Nd hR
    first | (revert hR; intro hx9; k_extra "xe9"; clear hx9; intro Td t1 t2 p1 p2 e2 e3 hT5 lT5) | obtain ⟨Td, t1, t2, p1, p2, e2, e3, hT5, lT5⟩ := hR
    subst e2
    subst e3
    have e5 := (hT5.2.1 hTr.1).symm
    have e6 := (hT5.2.2 hTr.2.1).symm
    subst e5
    subst e6
    clear lT5
    k_extra "kd"
    exact mx2 _ ((DN, listOf un.toArray 0) :: (119, tabObj p9) :: (126, tabObj pm) :: (Dr, listOf ur.toArray kr) :: (Dd, listOf ud.toArray kd) :: (L + 1, o1) :: ((own1 ++ own2) ++ rest)) ⟨by assumption, News.perm (by assumption) (by k_extra "psub"), hoff, G2, os2, mx3 _ _ () ⟨rfl, by rw [k1', k2']; k_extra "kn_all"⟩⟩
  · intro m₁ nx₁ s₂ hJ os2 G2 F2 N2
    first | (revert s₂; intro hx9; k_extra "xe5"; clear hx9; intro h₂ gg2 dr2 tk0 oo2) | obtain ⟨h₂, gg2, dr2, tk0, oo2⟩ := s₂
    first | (revert hJ; intro hx9; k_extra "xe5"; clear hx9; intro t1 t2 uu e0 hm) | obtain ⟨t1, t2, uu, e0, hm⟩ := hJ
    subst e0
    dsimp only at os2 G2 F2 N2
    exact hN _ _ _ _ G2 os2 _ t1 t2 ⟨m₁, kn F2 hm⟩ (News.perm N2 (by k_extra "psub"))
end
section
local macro_rules | `(tactic| l_idx) => `(tactic| k_extra "lidx")
local macro_rules | `(tactic| k_ne) => `(tactic| k_extra "kne")
local macro_rules | `(tactic| ktr_room) => `(tactic| k_extra "kroom")
local macro_rules | `(tactic| ktr_units) => `(tactic| k_extra "kunits")
local macro_rules | `(tactic| k_all) => `(tactic| k_extra "kall")
local macro_rules | `(tactic| k_inst) => `(tactic| k_extra "kinst")
local macro_rules | `(tactic| walk_at "setAttr ref") => `(tactic| (k_here; k_dflt (refine' set_dictL ?k1 ?k2 ?k3 ?k4 ?k5 ?k6 (acc_mro _) ?k8 ?k9 ?k10 ?k11 ?k12 ?k13 ?_; (case k1 => k_asm); (case k2 => k_asm); (case k3 => k_asm); (case k4 => k_inst); (case k5 => exact rfl); (case k6 => k_is); (case k8 => k_is); (case k9 => k_is); (case k10 => k_get); (case k11 => k_put); (case k12 => k_upd); (case k13 => exact Nat.le_of_ble_eq_true rfl); k_whole; intro h' F' N')))
theorem ln5 {w : World} {loose : List Str} {mean : ExcName → Option Value} {mg mb : Str → Option Value} {g : Heap} (L : Addr) (fa : Addr) (cd : Value) (l : Addr) (vs : List Value) (ns : List Int) (C : LawCtx w loose mean mg mb g L l vs ns) (o1 : Obj) (cl : List Nat) (Dr : Addr) (ur : List Value) (kr : Nat) (x : List Nat) (hf : List Nat) (Dd : Addr) (ud : List Value) (kd : Nat) (p : List Nat) (own1 : CbLed) (own2 : CbLed) (tt1 : Tok) (ls : Nat) (ah : Nat) (bh : Nat) (sl : Tok) (sa : Tok) (sb : Tok) (tm : Tok) (pm : Array Value) (p9 : Array Value) (DN : Addr) (un : List Value) (nr : List Nat) (rest : CbLed) (hnI : IntsAre un (nats nr)) (hnr : NearOk x ls ah nr) (tB : Tok) (tX : Tok) (tY : Tok) :
    Blk w g L fa cd (turnStmt 19 5) [("rest", .int ((kp (nr.drop (nr.length / 2))).2 : Nat) tY), ("whole", .int ((kp (nr.drop (nr.length / 2))).1 : Nat) tX), ("big", .int ((kp nr).1 : Nat) tB), ("near", .ref DN), ("mirror", .str (tx (x.reverse.map sg)) tm), ("behind", .int ((bh) : Nat) sb), ("ahead", .int ((ah) : Nat) sa), ("least", .int ((ls) : Nat) sl), ("text", .str (tx (x.map sg)) tt1), ("drawn", .ref Dd), ("row", .ref Dr)] ((DN, listOf un.toArray 0) :: (119, tabObj p9) :: (126, tabObj pm) :: (Dr, listOf ur.toArray kr) :: (Dd, listOf ud.toArray kd) :: (L + 1, o1) :: ((own1 ++ own2) ++ rest))
      (fun R => ∀ (h : Heap), Loc g L h [("rest", .int ((kp (nr.drop (nr.length / 2))).2 : Nat) tY), ("whole", .int ((kp (nr.drop (nr.length / 2))).1 : Nat) tX), ("big", .int ((kp nr).1 : Nat) tB), ("near", .ref DN), ("mirror", .str (tx (x.reverse.map sg)) tm), ("behind", .int ((bh) : Nat) sb), ("ahead", .int ((ah) : Nat) sa), ("least", .int ((ls) : Nat) sl), ("text", .str (tx (x.map sg)) tt1), ("drawn", .ref Dd), ("row", .ref Dr)] → News g L h ((DN, listOf un.toArray 0) :: (119, tabObj p9) :: (126, tabObj pm) :: (Dr, listOf ur.toArray kr) :: (Dd, listOf ud.toArray kd) :: (L + 1, o1) :: ((own1 ++ own2) ++ rest)) → R h) := by
  have X := C.X
  have T := C.T
  have B := C.B
  have k1 := C.k1
  have k2 := C.k2
  have k3 := C.k3
  have k4 := C.k4
  have hI := C.hI
  have lifted := C.lifted
  have hns := C.hns
  have l0 := C.l0
  have kcd : CdH g := ⟨k2, k1⟩
  clear C
  refine blk_mk (show turnStmt 19 5 = _ from (by conv => lhs; whnf)) ?_
  intro h0 gg dr tk oo Q G ⟨r, F⟩ N hN
  have k5 := G
  have hq1 := hnr.l
  have h62 : nr.length < 2 ^ 62 := Nat.lt_of_le_of_lt hq1 (by decide)
  have hnl := rowlen hnI
  have hln : (nats nr).length = nr.length := by rw [List.length_map]
  have hsm := kp_small (hnr.q.drop (nr.length / 2)) (by rw [List.length_drop]; exact Nat.le_trans (Nat.sub_le _ _) hq1)
  have hev := hnr.h.even
  generalize (kp (nr.drop (nr.length / 2))).1 = w1 at *
  generalize (kp (nr.drop (nr.length / 2))).2 = w2 at *
  rcases Nat.mod_two_eq_zero_or_one nr.length with h2 | h2
  · have e0 := fm2_0 h2
    have e9 : ((w1 : Nat) : Int) * ((w1 : Nat) : Int) + ((w2 : Nat) : Int) * ((w2 : Nat) : Int) = (((kp nr).1 : Nat) : Int) := by
      rw [← hev h2]; simp
    repeat' ((fail_if_success (with_reducible show PySem.wpAny _ _ (compareOp _ _ _) _ _ _)); k_extra "ks1"; try dsimp only)
    rw [hln, e0]
    repeat' ((fail_if_success (with_reducible show PySem.wpAny _ _ (binaryOp .Mult _ _) _ _ _)); k_extra "ks1"; try dsimp only)
    refine PyProof.Rows.mul_int ?_ (imo_nat (Nat.lt_trans hsm.1 (by decide)))
    repeat' ((fail_if_success (with_reducible show PySem.wpAny _ _ (binaryOp .Mult _ _) _ _ _)); k_extra "ks1"; try dsimp only)
    refine PyProof.Rows.mul_int ?_ (imo_nat (Nat.lt_trans hsm.2 (by decide)))
    repeat' ((fail_if_success (with_reducible show PySem.wpAny _ _ (compareOp _ _ _) _ _ _)); k_extra "ks1"; try dsimp only)
    rw [e9]
    k_extra "ks1"
    rw [bne_self_eq_false]
    k_extra "kd"
    exact hN _ _ _ _ G rfl _ (by k_extra "lo") (News.perm (by assumption) (by k_extra "psub"))
  · have e0 := fm2_1 h2
    repeat' ((fail_if_success (with_reducible show PySem.wpAny _ _ (compareOp _ _ _) _ _ _)); k_extra "ks1"; try dsimp only)
    rw [hln, e0]
    k_extra "kd"
    exact hN _ _ _ _ G rfl _ (by k_extra "lo") (News.perm (by assumption) (by k_extra "psub"))
end
section
local macro_rules | `(tactic| l_idx) => `(tactic| k_extra "lidx")
local macro_rules | `(tactic| k_ne) => `(tactic| k_extra "kne")
local macro_rules | `(tactic| ktr_room) => `(tactic| k_extra "kroom")
local macro_rules | `(tactic| ktr_units) => `(tactic| k_extra "kunits")
local macro_rules | `(tactic| k_all) => `(tactic| k_extra "kall")
local macro_rules | `(tactic| k_inst) => `(tactic| k_extra "kinst")
local macro_rules | `(tactic| walk_at "setAttr ref") => `(tactic| (k_here; k_dflt (refine' set_dictL ?k1 ?k2 ?k3 ?k4 ?k5 ?k6 (acc_mro _) ?k8 ?k9 ?k10 ?k11 ?k12 ?k13 ?_; (case k1 => k_asm); (case k2 => k_asm); (case k3 => k_asm); (case k4 => k_inst); (case k5 => exact rfl); (case k6 => k_is); (case k8 => k_is); (case k9 => k_is); (case k10 => k_get); (case k11 => k_put); (case k12 => k_upd); (case k13 => exact Nat.le_of_ble_eq_true rfl); k_whole; intro h' F' N')))
theorem ln6 {w : World} {loose : List Str} {mean : ExcName → Option Value} {mg mb : Str → Option Value} {g : Heap} (L : Addr) (fa : Addr) (cd : Value) (l : Addr) (vs : List Value) (ns : List Int) (C : LawCtx w loose mean mg mb g L l vs ns) (tot : Nat) (tt : Tok) (o1 : Obj) (e1 : o1.data = .cell (some (.int (tot : Int) tt))) (cl : List Nat) (Dr : Addr) (ur : List Value) (kr : Nat) (x : List Nat) (hrI : IntsAre ur (nats x)) (hr5 : x.length ≤ 5) (hf : List Nat) (Dd : Addr) (ud : List Value) (kd : Nat) (p : List Nat) (own1 : CbLed) (own2 : CbLed) (hTb : TbsM own1 own2 [(119, tabObj #[]), (126, tabObj #[])]) (tt1 : Tok) (ls : Nat) (ah : Nat) (bh : Nat) (sl : Tok) (sa : Tok) (sb : Tok) (hF : Found x ls ah bh) (tm : Tok) (pm : Array Value) (p9 : Array Value) (DN : Addr) (un : List Value) (nr : List Nat) (rest : CbLed) (hnI : IntsAre un (nats nr)) (hnr : NearOk x ls ah nr) (hro : ∀ p ∈ own1 ++ own2, ∀ q ∈ rest, q.1 ≠ p.1) (tB : Tok) (tX : Tok) (tY : Tok) :
    Blk w g L fa cd (turnStmt 19 6) [("rest", .int ((kp (nr.drop (nr.length / 2))).2 : Nat) tY), ("whole", .int ((kp (nr.drop (nr.length / 2))).1 : Nat) tX), ("big", .int ((kp nr).1 : Nat) tB), ("near", .ref DN), ("mirror", .str (tx (x.reverse.map sg)) tm), ("behind", .int ((bh) : Nat) sb), ("ahead", .int ((ah) : Nat) sa), ("least", .int ((ls) : Nat) sl), ("text", .str (tx (x.map sg)) tt1), ("drawn", .ref Dd), ("row", .ref Dr)] ((DN, listOf un.toArray 0) :: (119, tabObj p9) :: (126, tabObj pm) :: (Dr, listOf ur.toArray kr) :: (Dd, listOf ud.toArray kd) :: (L + 1, o1) :: ((own1 ++ own2) ++ rest))
      (fun R => ∀ (h : Heap), Loc g L h [("mirror", .str (tx (x.reverse.map sg)) tm), ("behind", .int ((bh) : Nat) sb), ("ahead", .int ((ah) : Nat) sa), ("least", .int ((ls) : Nat) sl), ("text", .str (tx (x.map sg)) tt1), ("drawn", .ref Dd), ("row", .ref Dr)] → News g L h ((DN, listOf un.toArray 0) :: (119, tabObj p9) :: (126, tabObj pm) :: (Dr, listOf ur.toArray kr) :: (Dd, listOf ud.toArray kd) :: (L + 1, o1) :: ((own1 ++ own2) ++ rest)) → R h) := by
  have X := C.X
  have T := C.T
  have B := C.B
  have k1 := C.k1
  have k2 := C.k2
  have k3 := C.k3
  have k4 := C.k4
  have hI := C.hI
  have lifted := C.lifted
  have hns := C.hns
  have l0 := C.l0
  have kcd : CdH g := ⟨k2, k1⟩
  clear C
  refine blk_mk (show turnStmt 19 6 = _ from (by conv => lhs; whnf)) ?_
  intro h0 gg dr tk oo Q G ⟨r, F⟩ N hN
  have k5 := G
  have hT0 : TbsM own1 own2 ((DN, listOf un.toArray 0) :: (119, tabObj p9) :: (126, tabObj pm) :: (Dr, listOf ur.toArray kr) :: [(Dd, listOf ud.toArray kd), (L + 1, o1)]) := tbs_of hTb (News.perm N (by k_extra "psub")) (by k_mem) (by k_mem) (by k_extra "ntb")
  have hTr : TbsM own1 own2 ((DN, listOf un.toArray 0) :: (119, tabObj p9) :: (126, tabObj pm) :: (Dr, listOf ur.toArray kr) :: (Dd, listOf ud.toArray kd) :: (L + 1, o1) :: rest) := TbsM.more (news := (DN, listOf un.toArray 0) :: (119, tabObj p9) :: (126, tabObj pm) :: (Dr, listOf ur.toArray kr) :: [(Dd, listOf ud.toArray kd), (L + 1, o1)]) hT0 hro
  have hq1 := hnr.l
  have h62 : nr.length < 2 ^ 62 := Nat.lt_of_le_of_lt hq1 (by decide)
  have hnl := rowlen hnI
  have hln : (nats nr).length = nr.length := by rw [List.length_map]
  have hlx : (nats x).length = x.length := by rw [List.length_map]
  have han := hF.an
  have hsm := kp_small (hnr.q.drop (nr.length / 2)) (by rw [List.length_drop]; exact Nat.le_trans (Nat.sub_le _ _) hq1)
  have hbg := kp_small hnr.q hq1
  have hod := hnr.h.odd
  generalize (kp (nr.drop (nr.length / 2))).1 = w1 at *
  generalize (kp (nr.drop (nr.length / 2))).2 = w2 at *
  generalize (kp nr).1 = bg at *
  rcases Nat.mod_two_eq_zero_or_one nr.length with h2 | h2
  · have e0 := fm2_0 h2
    repeat' ((fail_if_success (with_reducible show PySem.wpAny _ _ (compareOp _ _ _) _ _ _)); k_extra "ks1"; try dsimp only)
    rw [hln, e0]
    k_extra "kd"
    exact hN _ _ _ _ G rfl _ (by k_extra "lo") (News.perm (by assumption) (by k_extra "psub"))
  · have e0 := fm2_1 h2
    have hx9 := hod h2
    first | (k_extra "xe3"; clear hx9; intro o1' o2' o3') | obtain ⟨o1', o2', o3'⟩ := hx9
    repeat' ((fail_if_success (with_reducible show PySem.wpAny _ _ (compareOp _ _ _) _ _ _)); k_extra "ks1"; try dsimp only)
    rw [hln, e0]
    repeat' ((fail_if_success (with_reducible show PySem.wpAny _ _ (call (.ref 77) _) _ _ _)); k_extra "ks1"; try dsimp only)
    replace N := News.perm N (news' := own1 ++ (own2 ++ ((DN, listOf un.toArray 0) :: (119, tabObj p9) :: (126, tabObj pm) :: (Dr, listOf ur.toArray kr) :: (Dd, listOf ud.toArray kd) :: (L + 1, o1) :: rest))) (by k_extra "psub")
    (k_dflt (refine' ClB.use (idmP_c _ _ _ _ _ own1 own2 ((DN, listOf un.toArray 0) :: (119, tabObj p9) :: (126, tabObj pm) :: (Dr, listOf ur.toArray kr) :: (Dd, listOf ud.toArray kd) :: (L + 1, o1) :: rest) _ _ _ _ ?q1 ?q2 ?q3 ?q4 ?q5) ?k0 ?k1 ?k2 ?k3 ?k4 ?k5 ?kK ?kd ?ku ?_; k_extra "clb_use"))
    case q1 => k_extra "li"
    case q2 => k_extra "li"
    case q3 => exact o1'
    case q4 => k_extra "li"
    case q5 => exact hTr.tbs
    intro r nx h5 tk5 Fa Na hR
    first | (revert hR; intro hx9; k_extra "xe9"; clear hx9; intro Ta t1 t2 p1 p2 e2 e3 hT5 lT5) | obtain ⟨Ta, t1, t2, p1, p2, e2, e3, hT5, lT5⟩ := hR
    subst e2
    subst e3
    have e5 := (hT5.2.1 hTr.1).symm
    have e6 := (hT5.2.2 hTr.2.1).symm
    subst e5
    subst e6
    clear lT5
    rw [o2', o3'] at Na
    repeat' ((fail_if_success (with_reducible show PySem.wpAny _ _ (subscriptTail _ _ _ _) _ _ _)); k_extra "ks1"; try dsimp only)
    replace Na := News.perm Na (news' := (Ta, tup2 (2 * (w1 : Int) - (x.getD ah 0 : Int) * (w2 : Int)) 0 t1 t2) :: (DN, listOf un.toArray 0) :: (119, tabObj p9) :: (126, tabObj pm) :: (Dr, listOf ur.toArray kr) :: (Dd, listOf ud.toArray kd) :: (L + 1, o1) :: ((own1 ++ own2) ++ rest)) (by k_extra "psub")
    refine it_ints (k := ah) Na (D := Dr) (kk := kr) (us := ur) (by k_extra "sbm") hrI (by rw [hlx]; exact han) (by rw [hlx]; k_extra "li") ?_ (by with_unfolding_all rfl)
    intro t9
    rw [nats_get]
    repeat' ((fail_if_success (with_reducible show PySem.wpAny _ _ (binaryOp .Mult _ _) _ _ _)); k_extra "ks1"; try dsimp only)
    refine PyProof.Rows.mul_int ?_ (imo_nat (Nat.lt_trans hsm.2 (by decide)))
    repeat' ((fail_if_success (with_reducible show PySem.wpAny _ _ (compareOp _ _ _) _ _ _)); k_extra "ks1"; try dsimp only)
    (with_reducible rename News _ _ _ _ => N8)
    refine tup2_ne N8 (a := Ta) (v1 := .int (2 * (w1 : Int) - (x.getD ah 0 : Int) * (w2 : Int)) t1) (v2 := .int 0 t2) (ka := 0) (by k_extra "sbm") (.head _) (.int _ _) (.int _ _) (.int _ _) (.int _ _) (eqv_ints _ _).1 (eqv_ints _ _).2 (by first | ktr_units | decide | k_extra "li") ?_
    k_extra "kd"
    exact hN _ _ _ _ G rfl _ (by k_extra "lo") (News.perm (by assumption) (by k_extra "psub"))
end
section
local macro_rules | `(tactic| l_idx) => `(tactic| k_extra "lidx")
local macro_rules | `(tactic| k_ne) => `(tactic| k_extra "kne")
local macro_rules | `(tactic| ktr_room) => `(tactic| k_extra "kroom")
local macro_rules | `(tactic| ktr_units) => `(tactic| k_extra "kunits")
local macro_rules | `(tactic| k_all) => `(tactic| k_extra "kall")
local macro_rules | `(tactic| k_inst) => `(tactic| k_extra "kinst")
local macro_rules | `(tactic| walk_at "setAttr ref") => `(tactic| (k_here; k_dflt (refine' set_dictL ?k1 ?k2 ?k3 ?k4 ?k5 ?k6 (acc_mro _) ?k8 ?k9 ?k10 ?k11 ?k12 ?k13 ?_; (case k1 => k_asm); (case k2 => k_asm); (case k3 => k_asm); (case k4 => k_inst); (case k5 => exact rfl); (case k6 => k_is); (case k8 => k_is); (case k9 => k_is); (case k10 => k_get); (case k11 => k_put); (case k12 => k_upd); (case k13 => exact Nat.le_of_ble_eq_true rfl); k_whole; intro h' F' N')))
theorem lb19 {w : World} {loose : List Str} {mean : ExcName → Option Value} {mg mb : Str → Option Value} {g : Heap} (L : Addr) (fa : Addr) (cd : Value) (l : Addr) (vs : List Value) (ns : List Int) (C : LawCtx w loose mean mg mb g L l vs ns) (c1 : Obj) (d1 : c1.data = .cell none) (tot : Nat) (tt : Tok) (o1 : Obj) (e1 : o1.data = .cell (some (.int (tot : Int) tt))) (D1 : Addr) (uc : List Value) (kc : Nat) (cl : List Nat) (hcI : IntsAre uc (nats cl)) (hcq : Qs cl) (hcl : cl.length = 8) (Dr : Addr) (ur : List Value) (kr : Nat) (x : List Nat) (hrI : IntsAre ur (nats x)) (hrq : Qs x) (hr4 : 4 ≤ x.length) (hr5 : x.length ≤ 5) (Dh : Addr) (uh : List Value) (kh : Nat) (hf : List Nat) (hhI : IntsAre uh (nats hf)) (hhq : Qs hf) (hh2 : 2 ≤ hf.length) (hh3 : hf.length ≤ 3) (Dd : Addr) (ud : List Value) (kd : Nat) (p : List Nat) (hdI : IntsAre ud (nats p)) (hdq : Qs p) (hdp : p.reverse = p) (hd6 : p.length ≤ 6) (tc : Tok) (tu : Tok) (tw : Tok) (to : Tok) (x1 : Addr) (dx1 : Addr) (x2 : Addr) (dx2 : Addr) (n1 : Nat) (n2 : Nat) (nd1 : Nat) (nd2 : Nat) (ta1 : Tok) (tb1 : Tok) (ta2 : Tok) (tb2 : Tok) (hx12 : @Ne Nat x1 x2) (l1 : List Pr) (n3 : Nat) (own1 : CbLed) (own2 : CbLed) (hl1 : l1.map ptx = sgt x) (hTb : TbsM own1 own2 [(119, tabObj #[]), (126, tabObj #[])]) (tt1 : Tok) (ps2 : Array Value) (hps2 : TriplesOk ps2.toList) (tl0 : Tok) (ta0 : Tok) (tb0 : Tok) (ls : Nat) (ah : Nat) (bh : Nat) (sl : Tok) (sa : Tok) (sb : Tok) (lb : List Pr) (nA : Nat) (nB : Nat) (pz : Array Value) (hF : Found x ls ah bh) (hpz : TriplesOk pz.toList) (hlb : lb.map ptx = sgt x.reverse) (tm : Tok) (pm : Array Value) (hpm : TriplesOk pm.toList) (p9 : Array Value) (hp9 : TriplesOk p9.toList) :
    Blk w g L fa cd (lawStmt 19) [("mirror", .str (tx (x.reverse.map sg)) tm), ("behind", .int ((bh) : Nat) sb), ("ahead", .int ((ah) : Nat) sa), ("least", .int ((ls) : Nat) sl), ("text", .str (tx (x.map sg)) tt1), ("drawn", .ref Dd), ("row", .ref Dr)] ((119, tabObj p9) :: (126, tabObj pm) :: (Dr, listOf ur.toArray kr) :: (Dd, listOf ud.toArray kd) :: (L + 1, o1) :: (own1 ++ own2))
      (fun R => ∀ (h : Heap), Loc g L h [("mirror", .str (tx (x.reverse.map sg)) tm), ("behind", .int ((bh) : Nat) sb), ("ahead", .int ((ah) : Nat) sa), ("least", .int ((ls) : Nat) sl), ("text", .str (tx (x.map sg)) tt1), ("drawn", .ref Dd), ("row", .ref Dr)] → News g L h ((119, tabObj p9) :: (126, tabObj pm) :: (Dr, listOf ur.toArray kr) :: (Dd, listOf ud.toArray kd) :: (L + 1, o1) :: (own1 ++ own2)) → R h) := by
  have X := C.X
  have T := C.T
  have B := C.B
  have k1 := C.k1
  have k2 := C.k2
  have k3 := C.k3
  have k4 := C.k4
  have hI := C.hI
  have lifted := C.lifted
  have hns := C.hns
  have l0 := C.l0
  have kcd : CdH g := ⟨k2, k1⟩
  refine blk_mk (show lawStmt 19 = _ from (by conv => lhs; whnf)) ?_
  intro h0 gg dr tk oo Q G ⟨r, F⟩ N hN
  have k5 := G
  have hlx : (nats x).length = x.length := by rw [List.length_map]
  have hxl := rowlen hrI
  refine forListN g (by rfl) (by rfl) ?_ (by intro _; rfl)
  repeat' ((fail_if_success (show Exists (α := Nat → (Str → Option Value) → List (Addr × Obj) → Prop) _)); k_extra "ks1"; try dsimp only)
  rename_i DA w1 hA hW1 lA _ _ _ _ _ _ _ _ _ _ _ _ _ _ _ _ _ _ _ _ DB w2 hB hW2 lB DL hL F5 N5 lL
  rw [Int.toNat_natCast, Int.toNat_natCast, nats_near1] at hW1
  rw [Int.toNat_natCast, Int.toNat_natCast, nats_near2] at hW2
  have hTL : TbsM own1 own2 [(DL, listOf ([.ref DA, .ref DB] : List Value).toArray 0), (DA, listOf w1.toArray 0), (DB, listOf w2.toArray 0)] := tbs_of hTb (News.perm N5 (by k_extra "psub")) (by k_mem) (by k_mem) (by k_extra "ntb")
  have hof := hTL.offs
  replace N5 := News.perm N5 (news' := ((DA, listOf w1.toArray 0) :: (DB, listOf w2.toArray 0) :: (119, tabObj p9) :: (126, tabObj pm) :: (Dr, listOf ur.toArray kr) :: (Dd, listOf ud.toArray kd) :: (L + 1, o1) :: (own1 ++ own2)) ++ [(DL, listOf ([.ref DA, .ref DB] : List Value).toArray 0)]) (by k_extra "psub")
  refine ⟨fun _ m nx => nx = (DA, listOf w1.toArray 0) :: (DB, listOf w2.toArray 0) :: (119, tabObj p9) :: (126, tabObj pm) :: (Dr, listOf ur.toArray kr) :: (Dd, listOf ud.toArray kd) :: (L + 1, o1) :: (own1 ++ own2) ∧ Kn m [("mirror", .str (tx (x.reverse.map sg)) tm), ("behind", .int ((bh) : Nat) sb), ("ahead", .int ((ah) : Nat) sa), ("least", .int ((ls) : Nat) sl), ("text", .str (tx (x.map sg)) tt1), ("drawn", .ref Dd), ("row", .ref Dr)], DL, [.ref DA, .ref DB], 0, _, _, rfl, rfl, F5, N5, G, ⟨rfl, by k_extra "kn_all"⟩, ?_, ?_⟩
  · intro i v m₁ nx₁ s₂ I oI hi hv hJ os2 G3 F3 N3 hIc hoff
    first | (revert s₂; intro hx9; k_extra "xe5"; clear hx9; intro h₂ gg2 dr2 tk0 oo2) | obtain ⟨h₂, gg2, dr2, tk0, oo2⟩ := s₂
    dsimp only at os2 G3 F3 N3
    first | (revert hJ; intro hx9; k_extra "xe2"; clear hx9; intro e0 hm) | obtain ⟨e0, hm⟩ := hJ
    subst e0
    have hnear : ∃ (DN : Addr) (un : List Value) (nr : List Nat), v = .ref DN ∧ ((DN, listOf un.toArray 0) : Addr × Obj) ∈ (DA, listOf w1.toArray 0) :: (DB, listOf w2.toArray 0) :: (119, tabObj p9) :: (126, tabObj pm) :: (Dr, listOf ur.toArray kr) :: (Dd, listOf ud.toArray kd) :: (L + 1, o1) :: (own1 ++ own2) ∧ IntsAre un (nats nr) ∧ NearOk x ls ah nr := by
      rcases i with _ | _ | i
      · exact ⟨DA, w1, near1 x ah bh, (Option.some.inj hv).symm, .head _, hW1, near_1 hF hrq hr5⟩
      · exact ⟨DB, w2, near2 x ah bh, (Option.some.inj hv).symm, .tail _ (.head _), hW2, near_2 hF hrq hr5⟩
      · exact absurd hi (by show ¬ i + 1 + 1 < 2; k_extra "li")
    first | (revert hnear; intro hx9; k_extra "xe7"; clear hx9; intro DN un nr ev hmem hnI hnr) | obtain ⟨DN, un, nr, ev, hmem, hnI, hnr⟩ := hnear
    subst ev
    have hrx : ∃ rest : CbLed, rest = [(I, oI), (DL, listOf ([.ref DA, .ref DB] : List Value).toArray 0), (DA, listOf w1.toArray 0), (DB, listOf w2.toArray 0)] ∧ ∀ p ∈ own1 ++ own2, ∀ q ∈ rest, q.1 ≠ p.1 := ⟨_, rfl, fun p hp q hq => by
      rcases List.mem_cons.mp hq with e | hq
      · rw [e]; exact Ne.symm (hoff p (by k_extra "sbm"))
      · exact hof p hp q hq⟩
    first | (revert hrx; intro hx9; k_extra "xe3"; clear hx9; intro rest hrest hro) | obtain ⟨rest, hrest, hro⟩ := hrx
    replace F3 := locS F3 hm
    replace N3 : News g L h₂ ((DN, listOf un.toArray 0) :: (119, tabObj p9) :: (126, tabObj pm) :: (Dr, listOf ur.toArray kr) :: (Dd, listOf ud.toArray kd) :: (L + 1, o1) :: ((own1 ++ own2) ++ rest)) := by rw [hrest]; exact News.perm N3 (by k_extra "psub")
    clear F5 N5 hm
    refine blk_cons (ln0 L fa cd l vs ns C o1 cl Dr ur kr x hf Dd ud kd p own1 own2 tt1 ls ah bh sl sa sb tm pm p9 DN un nr rest hnI hnr) G3 F3 N3 ?_
    intro ggn0 ddn0 tkn0 Gn0 hhn0 tg Fn0 Nn0
    clear F3 N3
    refine blk_cons (ln1 L fa cd l vs ns C o1 cl Dr ur kr x hrq hr5 hf Dd ud kd p own1 own2 tt1 ls ah bh sl sa sb tm pm p9 DN un nr rest hnr tg) Gn0 Fn0 Nn0 ?_
    intro ggn1 ddn1 tkn1 Gn1 hhn1 Fn1 Nn1
    clear Fn0 Nn0
    refine blk_cons (ln2 L fa cd l vs ns C o1 cl Dr ur kr x hf Dd ud kd p own1 own2 tt1 ls ah bh sl sa sb tm pm p9 DN un nr rest hnI hnr) Gn1 Fn1 Nn1 ?_
    intro ggn2 ddn2 tkn2 Gn2 hhn2 tW tR Fn2 Nn2
    clear Fn1 Nn1
    refine blk_cons (ln3 L fa cd l vs ns C o1 Dr ur kr x Dd ud kd own1 own2 tt1 ls ah bh sl sa sb tm pm p9 DN un nr rest tW tR) Gn2 Fn2 Nn2 ?_
    intro ggn3 ddn3 tkn3 Gn3 hhn3 tB Fn3 Nn3
    clear Fn2 Nn2
    refine blk_cons (ln4 L fa cd l vs ns C tot tt o1 e1 cl Dr ur kr x hf Dd ud kd p own1 own2 hTb tt1 ls ah bh sl sa sb tm pm p9 DN un nr rest hnI hnr hro tW tR tB) Gn3 Fn3 Nn3 ?_
    intro ggn4 ddn4 tkn4 Gn4 hhn4 tX tY Fn4 Nn4
    clear Fn3 Nn3
    refine blk_cons (ln5 L fa cd l vs ns C o1 cl Dr ur kr x hf Dd ud kd p own1 own2 tt1 ls ah bh sl sa sb tm pm p9 DN un nr rest hnI hnr tB tX tY) Gn4 Fn4 Nn4 ?_
    intro ggn5 ddn5 tkn5 Gn5 hhn5 Fn5 Nn5
    clear Fn4 Nn4
    refine blk_cons (ln6 L fa cd l vs ns C tot tt o1 e1 cl Dr ur kr x hrI hr5 hf Dd ud kd p own1 own2 hTb tt1 ls ah bh sl sa sb hF tm pm p9 DN un nr rest hnI hnr hro tB tX tY) Gn5 Fn5 Nn5 ?_
    intro ggn6 ddn6 tkn6 Gn6 hhn6 Fn6 Nn6
    clear Fn5 Nn5
    first | (revert Fn6; intro hx9; k_extra "xe2"; clear hx9; intro rn Fn6) | obtain ⟨rn, Fn6⟩ := Fn6
    refine wpAny_execs_nil ?_
    subst hrest
    refine mx2 _ ((DA, listOf w1.toArray 0) :: (DB, listOf w2.toArray 0) :: (119, tabObj p9) :: (126, tabObj pm) :: (Dr, listOf ur.toArray kr) :: (Dd, listOf ud.toArray kd) :: (L + 1, o1) :: (own1 ++ own2)) ⟨Fn6, News.perm Nn6 (by k_extra "psub"), fun q hq => hoff q (List.mem_append_left _ hq), Gn6, os2, rfl, by k_extra "kn_all"⟩
  · intro m₁ nx₁ s₂ hJ os2 G3 F3 N3
    first | (revert s₂; intro hx9; k_extra "xe5"; clear hx9; intro h₂ gg2 dr2 tk0 oo2) | obtain ⟨h₂, gg2, dr2, tk0, oo2⟩ := s₂
    first | (revert hJ; intro hx9; k_extra "xe2"; clear hx9; intro e0 hm) | obtain ⟨e0, hm⟩ := hJ
    subst e0
    dsimp only at os2 G3 F3 N3
    exact hN _ _ _ _ G3 os2 _ ⟨m₁, kn F3 hm⟩ (News.perm N3 (by k_extra "psub"))
end
section
theorem law_body {w : World} {loose : List Str} {mean : ExcName → Option Value} {mg mb : Str → Option Value} {g : Heap} (L : Addr) (fa : Addr) (cd : Value) (l : Addr) (vs : List Value) (ns : List Int) (C : LawCtx w loose mean mg mb g L l vs ns) (c1 : Obj) (d1 : c1.data = .cell none) (s : Shared) (G : AllBare s.gens) (F : Loc g L s.heap [("script", .ref l)]) (N : News g L s.heap [(L + 1, c1), (58, tabObj #[]), (51, tabObj #[]), (119, tabObj #[]), (126, tabObj #[])]) :
    wpAny (model PySem.Challenge.rw_sr0059_02.row.prog w) (callerA.deeper (LEnv L fa cd)) (execs lawBody (LEnv L fa cd)) (LawEnd g [(62, 58), (55, 51), (123, 119), (130, 126)] s.os) NoE s := by
  show wpAny _ _ (execs [lawStmt 0, lawStmt 1, lawStmt 2, lawStmt 3, lawStmt 4, lawStmt 5, lawStmt 6, lawStmt 7, lawStmt 8, lawStmt 9, lawStmt 10, lawStmt 11, lawStmt 12, lawStmt 13, lawStmt 14, lawStmt 15, lawStmt 16, lawStmt 17, lawStmt 18, lawStmt 19, lawStmt 20] _) _ _ _
  refine blk_cons (lb0 L fa cd l vs ns C c1 d1) G F N ?_
  clear G F N
  intro gg0 dd0 tk0 G hh0 tot tt o1 e1 F N
  refine blk_cons (lb1 L fa cd l vs ns C tot tt o1 e1) G F N ?_
  clear G F N
  intro gg1 dd1 tk1 G hh1 D1 uc kc cl hcI hcq hcl F N
  refine blk_cons (lb2 L fa cd l vs ns C tot tt o1 e1 D1 uc kc cl hcI hcq hcl) G F N ?_
  clear G F N
  intro gg2 dd2 tk2 G hh2 Dr ur kr x hrI hrq hr4 hr5 F N
  refine blk_cons (lb3 L fa cd l vs ns C tot tt o1 e1 D1 uc kc cl hcI hcq hcl Dr ur kr) G F N ?_
  clear G F N
  intro gg3 dd3 tk3 G hh3 Dh uh kh hf hhI hhq hh2 hh3 F N
  refine blk_cons (lb4 L fa cd l vs ns C tot tt o1 e1 cl Dr ur kr x Dh uh kh hf hhI hhq hh2 hh3) G F N ?_
  clear G F N
  intro gg4 dd4 tk4 G hh4 Dd ud kd p hdI hdq hdp hd6 F N
  refine blk_cons (lb5 L fa cd l vs ns C o1 cl Dr ur kr x hrI hr4 hr5 hf Dd ud kd p) G F N ?_
  clear G F N
  intro gg5 dd5 tk5 G hh5 tc F N
  refine blk_cons (lb6 L fa cd l vs ns C o1 cl Dr ur kr x hrI hrq hr5 hf Dd ud kd p tc) G F N ?_
  clear G F N
  intro gg6 dd6 tk6 G hh6 tu tw F N
  refine blk_cons (lb7 L fa cd l vs ns C o1 cl Dr ur kr x hrI hrq hr5 hf Dd ud kd p tc tu tw) G F N ?_
  clear G F N
  intro gg7 dd7 tk7 G hh7 to F N
  refine blk_cons (lb8 L fa cd l vs ns C tot tt o1 e1 cl Dr ur kr x hf Dd ud kd p tc tu tw to) G F N ?_
  clear G F N
  intro gg8 dd8 tk8 G hh8 x1 dx1 x2 dx2 n1 n2 nd1 nd2 ta1 tb1 ta2 tb2 hx12 F N
  refine blk_cons (lb9 L fa cd l vs ns C tot tt o1 e1 cl Dr ur kr x hrq hr4 hr5 hf Dd ud kd p tc tu tw to x1 dx1 x2 dx2 n1 n2 nd1 nd2 ta1 tb1 ta2 tb2 hx12) G F N ?_
  clear G F N
  intro gg9 dd9 tk9 G hh9 l1 n3 own1 own2 hl1 hTb F N
  refine blk_cons (lb10 L fa cd l vs ns C tot o1 cl Dr ur kr x hr5 hf Dd ud kd p tc tu tw to x1 dx1 x2 dx2 n2 nd1 nd2 ta1 tb1 ta2 tb2 l1 n3 own1 own2 hl1 hTb) G F N ?_
  clear G F N
  intro gg10 dd10 tk10 G hh10 tt1 ps2 hps2 F N
  refine blk_cons (lb11 L fa cd l vs ns C tot o1 cl Dr ur kr x hf Dd ud kd p tc tu tw to x1 dx1 x2 dx2 n2 nd1 nd2 ta1 tb1 ta2 tb2 l1 n3 own1 own2 tt1 ps2) G F N ?_
  clear G F N
  intro gg11 dd11 tk11 G hh11 tl0 ta0 tb0 F N
  refine blk_cons (lb12 L fa cd l vs ns C c1 d1 tot tt o1 e1 D1 uc kc cl hcI hcq hcl Dr ur kr x hrI hrq hr4 hr5 Dh uh kh hf hhI hhq hh2 hh3 Dd ud kd p hdI hdq hdp hd6 tc tu tw to x1 dx1 x2 dx2 n1 n2 nd1 nd2 ta1 tb1 ta2 tb2 hx12 l1 n3 own1 own2 hl1 hTb tt1 ps2 hps2 tl0 ta0 tb0) G F N ?_
  clear G F N
  intro gg12 dd12 tk12 G hh12 ls ah bh sl sa sb lb nA nB pz hF hpz hlb F N
  refine blk_cons (lb13 L fa cd l vs ns C tot o1 cl Dr ur kr x hr5 hf Dd ud kd p tc tu tw to x1 dx1 x2 dx2 nd1 nd2 ta1 tb1 ta2 tb2 own1 own2 hTb tt1 ls ah bh sl sa sb lb nA nB pz hpz hlb) G F N ?_
  clear G F N
  intro gg13 dd13 tk13 G hh13 tm pm hpm F N
  refine blk_cons (lb14 L fa cd l vs ns C tot tt o1 e1 cl Dr ur kr x hrI hrq hr4 hr5 hf Dd ud kd p tc tu tw to x1 dx1 x2 dx2 nd1 nd2 ta1 tb1 ta2 tb2 own1 own2 hTb tt1 ls ah bh sl sa sb lb nA nB tm pm) G F N ?_
  clear G F N
  intro gg14 dd14 tk14 G hh14 F N
  refine blk_cons (lb15 L fa cd l vs ns C tot tt o1 e1 cl Dr ur kr x hr4 hr5 hf Dd ud kd p tc tu tw to x1 dx1 x2 dx2 nd1 nd2 ta1 tb1 ta2 tb2 hx12 own1 own2 hTb tt1 ls ah bh sl sa sb lb nA nB hlb tm pm) G F N ?_
  clear G F N
  intro gg15 dd15 tk15 G hh15 p9 hp9 F N
  refine blk_cons (lb16 L fa cd l vs ns C tot tt o1 e1 cl Dr ur kr x hrI hrq hr4 hr5 hf Dd ud kd p tc tu tw to own1 own2 hTb tt1 ls ah bh sl sa sb hF tm pm p9) G F N ?_
  clear G F N
  intro gg16 dd16 tk16 G hh16 F N
  refine blk_cons (lb17 L fa cd l vs ns C tot tt o1 e1 cl Dr ur kr x hrq hr5 hf Dd ud kd p own1 own2 tt1 ls ah bh sl sa sb hF tm pm p9) G F N ?_
  clear G F N
  intro gg17 dd17 tk17 G hh17 F N
  refine blk_cons (lb18 L fa cd l vs ns C o1 cl Dr ur kr x hrq hr5 hf Dd ud kd p own1 own2 tt1 ls ah bh sl sa sb hF tm pm p9) G F N ?_
  clear G F N
  intro gg18 dd18 tk18 G hh18 F N
  refine blk_cons (lb19 L fa cd l vs ns C c1 d1 tot tt o1 e1 D1 uc kc cl hcI hcq hcl Dr ur kr x hrI hrq hr4 hr5 Dh uh kh hf hhI hhq hh2 hh3 Dd ud kd p hdI hdq hdp hd6 tc tu tw to x1 dx1 x2 dx2 n1 n2 nd1 nd2 ta1 tb1 ta2 tb2 hx12 l1 n3 own1 own2 hl1 hTb tt1 ps2 hps2 tl0 ta0 tb0 ls ah bh sl sa sb lb nA nB pz hF hpz hlb tm pm hpm p9 hp9) G F N ?_
  clear G F N
  intro gg19 dd19 tk19 G hh19 F N
  exact lbend L fa cd l vs ns C o1 cl Dr ur kr x hrq hr5 hf Dd ud kd p hdI hdq hdp hd6 own1 own2 hTb tt1 ls ah bh sl sa sb hF tm pm p9 () _ G F N
end
section
theorem kn_postG {M : Model} {A : Around} {cd : Code} {s s₁ : Shared} {cw : ClaimW} {cl : Str → Option Addr} {mean : ExcName → Option Value} {args : List WData} {tabs : List (Addr × Addr)} (hT : TabsAt tabs s₁.heap) (hr : ∀ a x, cw.raises a x = false)
    (h : codeAny M A cd (fun r s' => GoodW cw cl mean args { s₁ with heap := ghostOf s₁.heap tabs } r { s' with gens := #[] } ∧ GrownAll tabs s'.heap ∧ AllBare s'.gens) s) : codeAny M A cd (GoodWG cw cl mean args s₁) s :=
  codeAny_mono h fun r s' ⟨⟨hc, hk, hos, hg⟩, hgr, hbare⟩ => by
    have keep : ∀ b o, b ∉ tabs.map (·.2) → s₁.heap.get? b = some o → s'.heap.get? b = some o := fun b o hb e => hk b o (ghost_ne e hb)
    have grown : ∀ b o, b ∈ tabs.map (·.2) → s₁.heap.get? b = some o → isCodeTable s₁.heap b ∧ o = tabObj #[] ∧ ∃ ps, s'.heap.get? b = some (tabObj ps) := fun b o hb e => by
      have hx9 := List.mem_map.mp hb
      first | (k_extra "xe3"; clear hx9; intro q hq eq9; subst eq9) | obtain ⟨q, hq, rfl⟩ := hx9
      have e2 := (hT q hq).2
      rw [e] at e2
      exact ⟨((hT q hq).1.tab (hT q hq).2).isCodeTable, Option.some.inj e2, hgr.get q hq⟩
    refine ⟨?_, ⟨fun b o e => ?_, fun b o e => ?_⟩, hos, hbare⟩
    · rcases hc with ⟨v, d, as, r1, r2, r3, r4, r5⟩ | ⟨e, ob, x, _, _, _, r4, _⟩
      · refine .inl ⟨v, d, as, r1, r2, r3, r4, fun q => ⟨(r5 q).1, fun a ha => ?_⟩⟩
        cases q1 : s₁.heap.get? a with
        | none => rfl
        | some o =>
          by_cases hb : a ∈ tabs.map (·.2)
          · have hx9 := grown a o hb q1
            first | (k_extra "xe4"; clear hx9; intro _ _ ps hP) | obtain ⟨_, _, ps, hP⟩ := hx9
            exact absurd ha (readsW_apart hP rfl r3)
          · have e3 := (r5 q).2 a ha
            rw [show (ghostOf s₁.heap tabs).get? a = some o from ghost_ne q1 hb] at e3
            cases e3
      · rw [hr] at r4; cases r4
    · by_cases hb : b ∈ tabs.map (·.2)
      · have hx9 := grown b o hb e
        first | (k_extra "xe4"; clear hx9; intro ht eq9; subst eq9; intro ps hP) | obtain ⟨ht, rfl, ps, hP⟩ := hx9
        exact .inr (.inl ⟨ht, rfl, #[], ps, rfl, by rw [Array.empty_append]; exact hP⟩)
      · exact .inl (keep b o hb e)
    · by_cases hb : b ∈ tabs.map (·.2)
      · have hx9 := grown b o hb e
        first | (k_extra "xe4"; clear hx9; intro _ _ ps hP) | obtain ⟨_, _, ps, hP⟩ := hx9
        exact ⟨_, hP⟩
      · exact ⟨o, keep b o hb e⟩
theorem whole : PySem.Challenge.rw_sr0059_02.Holds := by
  w_on
  refine holds_law (show _ = true from by kernel_rfl) fun said => ?_
  refine holds_open (q := lawView) (loose := lawLoose) (Xt := fun s => xlAt lawView [] s && recOk (RowW.records PySem.Challenge.rw_sr0059_02.row.toRowW) s) (XP := XL lawView []) (Yf := Hook.obs (kmHook K39 lawAdr K_as [58, 51, 119, 126])) (Ya := Hook.val (kmHook K39 lawAdr K_as [58, 51, 119, 126])) (YP := Hook.says (kmHook K39 lawAdr K_as [58, 51, 119, 126])) (N := 2220) left (Hook.of _) (Hook.keeps _) (fun s e => xl_of s (Bool.and_eq_true_iff.mp e).1) XL.keeps (by rfl) (by rfl) (by rfl) (fun s e => recFacts_of (Bool.and_eq_true_iff.mp e).2) (by rfl) (by first | assumption | decide +kernel) (by decide +kernel) ⟨rfl, rfl, rfl, rfl, rfl, by decide +kernel⟩ ?hw ?hc
  case hw => w_witness2
  case hc =>
    k_fill
    intro w s₀ s₁ mg mb G Y fa o pm cd doc dV kV ho hdd hcd hD hmg hg args vals as hpre hlay hrd hwl hlo
    have KX := km_in_of Y
    km_tabs Y
    have X := (Ground.X G).1
    have V := (Ground.X G).2
    refine Ground.open G ?_
    intro T B D TE TW
    try (refine guard_noD D (by decide +kernel) ?_; clear D)
    have hT9 : TabsAt ([(62, 58), (55, 51), (123, 119), (130, 126)] : List (Addr × Addr)) s₁.heap :=
      List.forall_mem_cons.mpr ⟨⟨codeHd_of_K (c := 62) (P := 58) KX (by kernel_rfl), hT8 58 (by k_mem)⟩, List.forall_mem_cons.mpr ⟨⟨codeHd_of_K (c := 55) (P := 51) KX (by kernel_rfl), hT8 51 (by k_mem)⟩,
      List.forall_mem_cons.mpr ⟨⟨codeHd_of_K (c := 123) (P := 119) KX (by kernel_rfl), hT8 119 (by k_mem)⟩, List.forall_mem_cons.mpr ⟨⟨codeHd_of_K (c := 130) (P := 126) KX (by kernel_rfl), hT8 126 (by k_mem)⟩, List.forall_mem_nil _⟩⟩⟩⟩
    clear hmg
    wrow_args hpre hlay hrd hwl hlo
    first | refine callC_kw (enter_call ?_) | refine enter_call ?_
    w_top on
    refine kn_postG hT9 (fun _ _ => rfl) ?_
    w_call any ho hdd hcd hD T F
    clear hdd
    kn_ghosts F T
    k_drop
    (try k_fold)
    rename_i ns hs hlay0 hL0 hr0 hl2 as1 as2 l vs as3 hL ra w1 rr0 hI hr hcond hc2 h₁ tk₁ c1 d1 CA X T B F0 k1 k2 k3 N0 l0
    have k4 := codeHd
    have hns : ns.length ≤ 63 := by lia
    clear CA hs hlay0 hL0 hr0 hl2 ra w1 rr0 hr hcond hc2 hD codeHd hL
    have hx9 : Loc _ _ h₁ [("script", .ref l)] := loc F0 (by k_extra "kn_all")
    first | (k_extra "xe2"; clear hx9; intro r0 F) | obtain ⟨r0, F⟩ := hx9
    clear F0
    generalize hg2 : ghostOf s₁.heap [(62, 58), (55, 51), (123, 119), (130, 126)] = g at *
    generalize hLL : s₁.heap.objs.size = L at *
    replace d1 : c1.data = .cell none := d1
    dsimp only at k1 k2 k3 k4
    clear hT9 TE TW hT8 ho hcd
    (rename Top lawView _ _ _ _ _ => Tz); (rename Tables _ _ _ _ => Bz); (rename Flt.MathXP _ _ _ => Xz); (rename LooseAre _ _ _ => Vz)
    clear Tz Bz Xz Vz
    have k5 : AllBare s₁.gens := by rw [hg]; exact fun y hy => absurd hy (by simp)
    have hbare : s₁.gens = #[] := hg
    refine wpAny_mono (Q := LawEnd g [(62, 58), (55, 51), (123, 119), (130, 126)] s₁.os) (E := NoE) ?_ (fun f s' hf => ?_) (fun _ _ x => x.elim)
    rotate_left
    · first | (revert hf; intro hx9; k_extra "xe5"; clear hx9; intro eq9; subst eq9; intro e1 e2 e3 e4) | obtain ⟨rfl, e1, e2, e3, e4⟩ := hf
      refine ⟨?_, e3, e4⟩
      dsimp only
      refine ⟨.inl ⟨_, _, _, rfl, fun _ => rfl, by w_reads, ?_, ?_⟩, e1, e2, rfl⟩
      · exact postW_of (by wrow_shape) (by wtm_val) (by str_meet; first | done | w_fin)
      · first | exact unshared_nil | exact fun h => absurd h (by decide)
    have kcd : CdH g := ⟨k2, k1⟩

    exact law_body L fa cd l vs ns ⟨X, T, B, k1, k2, k3, k4, hI, lifted, hns, l0⟩ c1 d1 _ k5 ⟨r0, F⟩ N0
end
end Mine
theorem PySem.Challenge.cw_sr0059_02_holds : PySem.Challenge.rw_sr0059_02.Holds := by
  exact Mine.whole
