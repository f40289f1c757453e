import PyProof.Rows.All
import Wide.All
import OpenK.AllK
import Wide.FinOn
import PyProof.EnumMake
import PyProof.WalksPairs
import PyProof.Rows.StrRev
import KE.BitLaws
import OpenK.KMake
import KE.KNest
import KE.KNestM
import KE.KSuper
import PySem.Challenge.RW_sr0059_01
open PySem PySem.W PyProof.Rows PySem.Calls
set_option Elab.async false
set_option maxRecDepth 100000
set_option maxHeartbeats 8000000
set_option linter.all false
namespace Mine
local macro_rules | `(tactic| l_idx) => `(tactic| k_extra "lidx")
local macro_rules | `(tactic| k_ne) => `(tactic| k_extra "kne")
local macro_rules | `(tactic| ktr_room) => `(tactic| k_extra "kroom")
local macro_rules | `(tactic| ktr_units) => `(tactic| k_extra "kunits")
local macro_rules | `(tactic| k_all) => `(tactic| k_extra "kall")
local macro_rules | `(tactic| k_inst) => `(tactic| k_extra "kinst")
theorem setupAll : True := by
  k_with "li" => first | with_reducible assumption | lia
  k_with "lidx" => with_reducible first | assumption | exact Int.natCast_nonneg _ | exact nt_ilt (by assumption) | exact nt_63 (by assumption) | exact nt_64 (by assumption) | exact nt_m64
  k_with "kne" => (refine neN ?_; (try dsimp only); first
    | with_reducible assumption
    | exact Ne.symm (by with_reducible assumption)
    | decide
    | (first
        | ((first | refine Nat.ne_of_lt (ltup ?_) | refine Nat.ne_of_gt (ltup ?_)); (repeat first | exact Nat.le_refl _ | refine leup ?_); done)
        | ((first | refine neB (by with_reducible assumption) ?_ | refine neB' (by with_reducible assumption) ?_); (repeat first | exact Nat.le_refl _ | refine leup ?_); done))
    | k_extra "li")
  k_with "kroom" => ((try simp only [depth_under_make, depth_under_kw, depth_in1, depth_deeper, depth_caller]); first | decide | k_extra "li")
  k_with "kunits" => ((try simp only [units_in1, units_deeper, Around.mark_units, units_caller]); k_extra "li")
  k_with "kall" => first | exact al0 | exact kall_lt (by assumption) | assumption | (refine alc ?_ ?_; k_ne; k_extra "kall") | (refine ala ?_ ?_; k_all; k_all)
  k_with "kinst" => (refine' Mine.InstAt.of_newsL ?N ?h1 ?h2; (case N => k_asm); (case h1 => k_mem); (case h2 => k_mem))
  k_with "nat" => ((with_reducible show wpAny _ _ (binaryOp Operator.Add (Value.int (Nat.cast _) _) (Value.int (Nat.cast _) _)) _ _ _); refine add_nat ?_; intro _ _)
  k_with "nat" => ((with_reducible show wpAny _ _ (binaryOp Operator.Add (Value.int (Nat.cast _) _) (Value.int 1 _)) _ _ _); refine add_one ?_; intro _ _)
  k_with "nat" => ((with_reducible show wpAny _ _ (binaryOp Operator.Sub (Value.int (Nat.cast _) _) (Value.int (Nat.cast _) _)) _ _ _); refine sub_nat (by k_extra "li") ?_; intro _ _)
  k_with "nat" => ((with_reducible show wpAny _ _ (binaryOp Operator.Mult (Value.int (Nat.cast _) _) (Value.int (Nat.cast _) _)) _ _ _); refine mul_nat (by k_extra "li") ?_; intro _ _)
  k_with "nat" => ((with_reducible show wpAny _ _ (binaryOp Operator.RShift (Value.int (Nat.cast _) _) (Value.int 1 _)) _ _ _); refine rsh_one ?_; intro _ _)
  k_with "nat" => ((with_reducible show wpAny _ _ (binaryOp Operator.RShift (Value.int (Nat.cast _) _) (Value.int (Nat.cast _) _)) _ _ _); refine rsh_nat ?_; intro _ _)
  k_with "nat" => ((with_reducible show wpAny _ _ (binaryOp Operator.LShift (Value.int (Nat.cast _) _) (Value.int (Nat.cast _) _)) _ _ _); refine lsh_nat (by assumption) (by k_extra "li") ?_; intro _ _)
  k_with "nat" => ((with_reducible show wpAny _ _ (binaryOp Operator.BitXor (Value.int (Nat.cast _) _) (Value.int (Nat.cast _) _)) _ _ _); refine xor_nat ?_; intro _ _)
  k_with "nat" => ((with_reducible show wpAny _ _ (binaryOp Operator.Sub (Value.int (Nat.cast _) _) (Value.int 1 _)) _ _ _); refine sub_one (by k_extra "li") ?_; intro _ _)
  k_with "nat" => ((with_reducible show wpAny _ _ (binaryOp Operator.FloorDiv (Value.int (Nat.cast _) _) (Value.int (Nat.cast _) _)) _ _ _); refine div_nat (by assumption) (by assumption) ?_; intro _ _)
  k_with "pre" => (with_reducible show wpAny _ _ (binaryOp _ (Value.int (Nat.cast _) _) (Value.int _ _)) _ _ _); k_extra "nat"
  k_with "ks1" => first | (k_unfold; (try dsimp only)) | k_extra "pre" | walk1 | (dsimp only; first | k_extra "pre" | walk1)
  k_with "ks" => repeat' k_extra "ks1"
  k_with "kfor" => repeat' ((fail_if_success (with_reducible show PySem.wpAny _ _ (PySem.pyIter (PySem.Value.ref _)) _ _ _)); k_extra "ks1")
  k_with "noop" => skip
  k_with "kna" => (repeat' (first | exact kn0 | (refine knc (by first | rfl | (refine congrArg (fun z => some (Value.int z _)) ?_; k_extra "li")) ?_)))
  k_with "kn_all" => first | (refine knx ?_; k_extra "kna"; done) | (repeat' (first | exact List.forall_mem_nil _ | (refine List.forall_mem_cons.mpr ⟨by first | rfl | (refine congrArg (fun z => some (Value.int z _)) ?_; k_extra "li"), ?_⟩)))
  k_with "lo" => first | (refine locK (by assumption) ?_; k_extra "kna"; done) | (refine loc (by assumption) ?_; k_extra "kn_all")
  k_with "enter" => (
    refine' code_def (by assumption) (by assumption) (by assumption) (by assumption) (by assumption) ?kA ?kF' ?kK ?k6 ?k7 ?k8 ?k9 ?kB' ?_ ?c2 ?c3 ?c4 ?c5
    (case kA => exact rfl); (case kF' => exact rfl); (case kK => assumption); (case k6 => k_is); (case k7 => k_is); (case k8 => ktr_room); (case k9 => exact BindsTo.of_eq rfl); (case c5 => decide); (case kB' => exact locs rfl); (case c2 => exact rfl); (case c3 => exact rfl); (case c4 => exact rfl))
  k_with "enterC" => (
    refine' code_defC (by assumption) (by assumption) (by assumption) (by assumption) (by assumption) ?kA ?kF' ?kK ?k6 ?k7 ?k8 ?k9 ?kB' ?kD ?_ ?c2 ?c3 ?c4
    (case kA => exact rfl); (case kF' => exact rfl); (case kK => assumption); (case k6 => k_is); (case k7 => k_is); (case k8 => ktr_room); (case k9 => exact BindsTo.of_eq rfl); (case kB' => exact rfl); (case kD => decide +kernel); (case c2 => exact rfl); (case c3 => exact rfl); (case c4 => exact rfl))
  k_with "sbm" => first | with_reducible exact smh | (with_reducible refine smt ?_; k_extra "sbm") | (with_reducible refine sml ?_; k_extra "sbm") | (with_reducible refine smr ?_; k_extra "sbm") | with_reducible assumption
  k_with "sbat" => first | with_reducible exact sbr | (with_reducible refine sbt ?_; k_extra "sbat") | (with_reducible refine sbl ?_; k_extra "sbat") | (with_reducible refine sbR ?_; k_extra "sbat") | with_reducible assumption
  k_with "sbs" => first | with_reducible exact sbr | with_reducible exact sb0 | with_reducible refine sbb ?_ | with_reducible refine sbaa ?_ | ((fail_if_success (with_reducible refine sbq ?sh ?sk; (case sh => k_extra "sbm"))); with_reducible refine sbt ?_) | ((with_reducible refine sbcc ?_ ?_; k_extra "sbm")) | ((with_reducible refine sba ?_ ?_; k_extra "sbat")) | with_reducible refine sba ?_ ?_ | k_extra "sbat"
  k_with "psub" => first | (refine sbx ?_; (repeat' k_extra "sbs"); done) | (k_dflt (refine sbx ?_; (repeat' k_extra "sbs"); done)) | ((try simp only [List.append_assoc, List.forall_mem_cons, List.forall_mem_append, List.forall_mem_nil, and_true]); (repeat' apply And.intro) <;> first | exact List.forall_mem_nil _ | (intro p hp; (simp only [List.mem_cons, List.mem_append, hp, or_true, true_or]; done)) | (simp only [List.mem_cons, List.mem_append, or_true, true_or, eq_self]; done) | (k_dflt k_mem))
  k_with "enterN" => (
    refine' code_nest (by assumption) (by assumption) (by assumption) (by assumption) (by assumption) ?kA ?kF' ?kK ?k6 ?k7 ?k8 ?k9 ?kB' ?_ ?c2 ?c3 ?c4 ?c5
    (case kA => exact rfl); (case kF' => exact rfl); (case kK => assumption); (case k6 => k_mem); (case k8 => ktr_room); (case k9 => exact BindsTo.of_eq rfl); (case kB' => exact locs rfl); (case c2 => exact rfl); (case c3 => exact rfl); (case c4 => exact rfl); (case c5 => decide))
  k_with "cl_use" => (case k1 => k_asm); (case k2 => k_asm); (case k3 => k_asm); (case k4 => k_asm); (case k5 => k_asm); (case kK => first | exact rfl | assumption); (case kd => first | ktr_room | k_extra "li"); (case ku => first | ktr_units | k_extra "li")
  k_with "clb_use" => (case k1 => k_asm); (case k0 => assumption); (case k2 => k_asm); (case k3 => k_asm); (case k4 => k_asm); (case k5 => k_asm); (case kK => first | exact rfl | assumption); (case kd => first | ktr_room | k_extra "li"); (case ku => first | ktr_units | k_extra "li")
  k_with "enterS" => (
    refine' ks_code_super (by assumption) (by assumption) (by assumption) (by assumption) (by assumption) ?kA ?kF' ?kK ?k6 ?k7 ?k8 ?k9 ?kB' ?_ ?c1 ?c2 ?c3 ?c4
    (case kA => exact rfl); (case kF' => exact rfl); (case kK => assumption); (case k6 => k_is); (case k7 => k_is); (case k8 => ktr_room); (case k9 => exact BindsTo.of_eq rfl); (case kB' => exact locs rfl); (case c1 => decide); (case c2 => exact rfl); (case c3 => exact rfl); (case c4 => exact rfl))
  k_with "enterD" => (
    refine' code_def (by assumption) (by assumption) (by assumption) (by assumption) (by assumption) ?kA ?kF' ?kK ?k6 ?k7 ?k8 ?k9 ?kB' ?_ ?c2 ?c3 ?c4 ?c5
    (case kA => exact rfl); (case kF' => exact rfl); (case kK => assumption); (case k6 => k_is); (case k7 => k_is); (case k8 => ktr_room); (case k9 => exact binds_K (by k_in) rfl (by k_is) rfl rfl rfl); (case c5 => decide); (case kB' => exact locs rfl); (case c2 => exact rfl); (case c3 => exact rfl); (case c4 => exact rfl))
  k_with "enterSD" => (
    refine' ks_code_super (by assumption) (by assumption) (by assumption) (by assumption) (by assumption) ?kA ?kF' ?kK ?k6 ?k7 ?k8 ?k9 ?kB' ?_ ?c1 ?c2 ?c3 ?c4
    (case kA => exact rfl); (case kF' => exact rfl); (case kK => assumption); (case k6 => k_is); (case k7 => k_is); (case k8 => ktr_room); (case k9 => exact binds_K (by k_in) rfl (by k_is) rfl rfl rfl); (case kB' => exact locs rfl); (case c1 => decide); (case c2 => exact rfl); (case c3 => exact rfl); (case c4 => exact rfl))
  k_with "na_all" => (repeat' (first | exact List.forall_mem_nil _ | exact notAcc_tups _ | exact notAcc_tab (by assumption) | refine List.forall_mem_cons.mpr ⟨by first | exact .inl (fun e => by cases e) | exact notAcc_cell (by assumption) | exact notAcc_cls (by assumption) (fun e => by cases e), ?_⟩ | refine List.forall_mem_append.mpr ⟨?_, ?_⟩))
  k_with "truthy str" => ((with_reducible show wpAny _ _ (PySem.truthy (Value.str (tx _) _)) _ _ _); refine truthy_tx (by (try simp only [List.length_drop, List.length_take]); k_extra "li") ?_ ?_ <;> intro hlenq9 _ <;> (try simp only [List.length_drop, List.length_take] at hlenq9) <;> revert hlenq9 <;> intro _)
  k_with "call builtin:len" => ((with_reducible show wpAny _ _ (call (Value.builtin "len") [Value.str (tx _) _]) _ _ _); refine len_tx (by (try simp only [List.length_drop, List.length_take]); k_extra "li") ?_; intro _ _)
  k_with "eval Subscript" => ((with_reducible show wpAny _ _ (eval (Expr.Subscript (Expr.Name _ _) (Expr.Slice none (some (Expr.BoolOp _ [Expr.Name _ _, _] _)) none _) _) _) _ _ _); k_dflt (refine' cutEnd ?F ?N ?ha ?hp ?hq ?hl ?_ ?a1 ?a2 ?a3 ?a4 ?a5; (case F => k_asm); (case N => k_asm); (case ha => rfl); (case hp => rfl); (case hq => k_extra "li"); (case hl => k_extra "li"); (case a1 => rfl); (case a2 => rfl); (case a3 => rfl); (case a4 => decide); (case a5 => decide); intro _ _ _ _ _))
  k_with "subscriptTail Name Slice str ref" => ((with_reducible show wpAny _ _ (subscriptTail _ (Expr.Slice (some _) none none _) (Value.str (tx _) _) _) _ _ _); k_dflt (refine' sl_from (s := ⟨_, _, _, _, _⟩) ?F ?N ?hk ?hl ?_ ?hs ?ht; (case F => k_asm); (case N => k_asm); (case hk => k_extra "li"); (case hl => k_extra "li"); (case hs => with_unfolding_all rfl); (case ht => intro _; with_unfolding_all rfl); intro _ _ _ _ _))
  k_with "subscriptTail Name Slice str ref" => ((with_reducible show wpAny _ _ (subscriptTail _ (Expr.Slice none (some _) none _) (Value.str (tx _) _) _) _ _ _); k_dflt (refine' sl_to (s := ⟨_, _, _, _, _⟩) ?F ?N ?hk ?hl ?_ ?hs ?ht; (case F => k_asm); (case N => k_asm); (case hk => k_extra "li"); (case hl => k_extra "li"); (case hs => with_unfolding_all rfl); (case ht => intro _; with_unfolding_all rfl); intro _ _ _ _ _))
  k_with "subscriptTail Name Name str int" => ((with_reducible show wpAny _ _ (subscriptTail _ _ (Value.str (tx _) _) _) _ _ _); k_dflt (refine' it_at ?hk ?hl ?_ ?hs ?ht; (case hk => k_extra "li"); (case hl => k_extra "li"); (case hs => with_unfolding_all rfl); (case ht => intro _; with_unfolding_all rfl); intro _ _))
  k_with "subscriptTail Name BinOp str int" => ((with_reducible show wpAny _ _ (subscriptTail _ _ (Value.str (tx _) _) _) _ _ _); k_dflt (refine' it_neg1 ?hk ?hl ?_ ?hs ?ht; (case hk => k_extra "li"); (case hl => k_extra "li"); (case hs => with_unfolding_all rfl); (case ht => intro _; with_unfolding_all rfl); intro _ _))
  k_with "call type:list" => ((with_reducible show wpAny _ _ (call (Value.type _) [Value.ref _]) _ _ _); k_dflt (with_unfolding_all refine' lrange ?k0 ?k1 ?k2 ?k3 (range2 _ ?k4 ?k5).1 (range2 _ ?k4 ?k5).2 ?k6 ?_; (case k0 => rfl); (case k1 => k_asm); (case k2 => k_asm); (case k3 => assumption); (case k4 => first | k_extra "li" | (refine List.length_pos_iff.mpr ?_; assumption)); (case k5 => k_extra "li"); (case k6 => k_extra "li")); intro _ _ _ _ _ _ _ _ _)
  k_with "call builtin:list.append" => ((with_reducible show wpAny _ _ (call (Value.builtin _) [Value.ref _, _]) _ _ _); k_dflt (refine' app_list ?k1 ?k2 ?k3 ?z ?_; (case k1 => k_asm); (case k2 => k_asm); (case k3 => k_upd); (case z => k_extra "li")); intro _ _ _)
  k_with "call builtin:list.reverse" => ((with_reducible show wpAny _ _ (call (Value.builtin _) [Value.ref _]) _ _ _); k_dflt (refine' rev_list ?k1 ?k2 ?k3 ?z ?_; (case k1 => k_asm); (case k2 => k_asm); (case k3 => k_upd); (case z => k_extra "li")); intro _ _ _)
  k_with "call builtin:divmod" => ((with_reducible show wpAny _ _ (call _ [Value.int (Nat.cast _) _, Value.int (Nat.cast _) _]) _ _ _); k_dflt (refine' divmod_nat ?F ?N ?hy ?hb ?_; (case F => k_asm); (case N => k_asm); (case hy => assumption); (case hb => assumption)); intro _ _ _ _ _ _ _ _)
  k_with "binaryOp Mult ref int" => ((with_reducible show wpAny _ _ (binaryOp _ (Value.ref _) (Value.int (Nat.cast _) _)) _ _ _); k_dflt (refine' rep_nat ?F ?N ?hm ?hx ?_; (case F => k_asm); (case N => k_asm); (case hm => k_mem); (case hx => first | assumption | k_extra "li")); intro _ _ _ _ _ l1q9 _; (try k_lt l1q9); revert l1q9; intro _)
  k_with "call ref" => ((with_reducible show wpAny _ _ (call (Value.ref 154) _) _ _ _); (k_dflt (refine' Cl.use (scost_1 _ _ _ _ _ _ _ _ _ _) ?k1 ?k2 ?k3 ?k4 ?k5 ?kK ?kd ?ku ?_; k_extra "cl_use")); rintro _ _ _ _ _ _ ⟨rfl, _, rfl⟩)
  k_with "binaryOp Add str str" => ((with_reducible show wpAny _ _ (binaryOp _ (Value.str (tx _) _) (Value.str (tx _) _)) _ _ _); refine cat_tx (by (try simp only [List.length_append, List.length_cons, List.length_nil, List.length_drop, List.length_take]); k_extra "li") ?_; intro _ _)
  k_with "call builtin:str.swapcase" => ((with_reducible show wpAny _ _ (call (Value.builtin "str.swapcase") [Value.str (tx [_]) _]) _ _ _); refine swap_tx (by first | assumption | exact ltr_get (by assumption) (by k_extra "li")) ?_; intro _ _)
  k_with "call builtin:str.lower" => ((with_reducible show wpAny _ _ (call (Value.builtin "str.lower") [Value.str (tx _) _]) _ _ _); refine lower_c (by assumption) (by k_extra "li") ?_; intro _ _)
  k_with "subscriptTail" => ((with_reducible show wpAny _ _ (subscriptTail _ _ (Value.ref _) (Value.int (-1) _)) _ _ _); k_dflt (refine' it_last ?N ?hm ?hi ?h1 ?hz ?_ ?hs; (case N => k_asm); (case hm => k_mem); (case hi => assumption); (case h1 => k_extra "li"); (case hz => k_extra "li"); (case hs => with_unfolding_all rfl)); intro _)
  k_with "subscriptTail Name BinOp str int" => ((with_reducible show wpAny _ _ (subscriptTail _ _ (Value.str (tx _) _) (Value.int (Nat.cast _) _)) _ _ _); k_dflt (refine' it_at ?hk ?hl ?_ ?hs ?ht; (case hk => k_extra "li"); (case hl => k_extra "li"); (case hs => with_unfolding_all rfl); (case ht => intro _; with_unfolding_all rfl); intro _ _))
  k_with "subscriptTail Name Slice str ref" => ((with_reducible show wpAny _ _ (subscriptTail _ (Expr.Slice none (some (Expr.UnaryOp _ _ _)) none _) (Value.str (tx _) _) _) _ _ _); k_dflt (refine' sl_m1 (s := ⟨_, _, _, _, _⟩) ?F ?N ?hk ?hl ?_ ?hs ?ht; (case F => k_asm); (case N => k_asm); (case hk => k_extra "li"); (case hl => k_extra "li"); (case hs => with_unfolding_all rfl); (case ht => intro _; with_unfolding_all rfl); intro _ _ _ _ _))
  k_with "subscriptTail" => ((with_reducible show wpAny _ _ (subscriptTail _ _ (Value.str (tx _) _) (Value.int (-1) _)) _ _ _); k_dflt (refine' it_m1 ?hk ?hl ?_ ?hs ?ht; (case hk => k_extra "li"); (case hl => k_extra "li"); (case hs => with_unfolding_all rfl); (case ht => intro _; with_unfolding_all rfl); intro _ _))
  k_with "call builtin:str.index" => ((with_reducible show wpAny _ _ (call _ [Value.str (tx _) _, Value.str (tx _) _]) _ _ _); refine index_tx (by assumption) ?_; intro _ _)
  k_with "compareOp NotIn str str" => ((with_reducible show wpAny _ _ (compareOp _ (Value.str (tx [_]) _) (Value.str (tx _) _)) _ _ _); refine notin_tx ?_)
  k_with "call builtin:str.lower" => ((with_reducible show wpAny _ _ (call (Value.builtin "str.lower") [Value.str (tx [_]) _]) _ _ _); refine lower_1 (by first | assumption | exact ltr_get (by assumption) (by k_extra "li")) ?_; intro _ _)
  k_with "call builtin:str.lower" => ((with_reducible show wpAny _ _ (call (Value.builtin "str.lower") (_, [Value.str (tx _) _]).snd) _ _ _); dsimp only)
  k_with "getMethod ref" => (k_here; k_dflt (refine' method_acc ?k1 ?k2 ?k3 ?k4 ?k5 ?k6 ?k7 ?k8 ?k9 ?_; (case k1 => k_asm); (case k2 => k_asm); (case k3 => k_asm); (case k4 => k_mem); (case k5 => k_mem); (case k6 => first | exact acc_append _ | k_is); (case k7 => first | k_is | kernel_rfl); (case k8 => decide); (case k9 => first | assumption | k_get); k_whole))
  k_with "call builtin:list.append" => (k_here; (with_reducible show wpAny _ _ (call (Value.builtin _) [Value.ref _, _]) _ _ _); k_dflt (refine' append_LK ?k1 ?k2 ?k3 (acc_mro _) ?k5 ?k6 ?_; (case k1 => k_asm); (case k2 => k_asm); (case k3 => k_asm); (case k5 => k_mem); (case k6 => k_extra "li"); k_whole); intro _ _ _ hNq9; (refine' Mine.useU hNq9 ?u ?_; (case u => k_upd); clear hNq9; intro Nq9; (try dsimp only at Nq9); revert Nq9; intro _); (try k_sweep))
  k_with "getMethod ref" => (k_here; k_dflt (first
    | (refine' super_len ?k1 ?k2 ?k3 ?k4 ?k5 ?k6 ?_; (case k1 => k_asm); (case k2 => k_asm); (case k3 => k_asm); (case k4 => k_mem); (case k5 => k_mem); (case k6 => k_mem); k_whole)
    | (refine' super_pop ?k1 ?k2 ?k3 ?k4 ?k5 ?k6 ?_; (case k1 => k_asm); (case k2 => k_asm); (case k3 => k_asm); (case k4 => k_mem); (case k5 => k_mem); (case k6 => k_mem); k_whole)
    | (refine' super_init ?k1 ?k2 ?k3 ?k4 ?k5 ?k6 ?_; (case k1 => k_asm); (case k2 => k_asm); (case k3 => k_asm); (case k4 => k_mem); (case k5 => k_mem); (case k6 => k_mem); k_whole)); intro _ _ _ _ _ l1q9; (try k_lt l1q9); revert l1q9; intro _)
  k_with "callWith ref" => (k_here; k_dflt (refine callWith_bd (bd_of (by k_asm) (by k_mem) (by first | exact .inl rfl | exact .inr rfl)) ?_))
  k_with "call ref" => (k_here; k_dflt (first
    | (refine' cb_len ?k1 ?k2 ?k3 ?_; (case k1 => k_asm); (case k2 => k_mem); (case k3 => k_mem); k_whole; intro _ _)
    | (refine' cb_init ?k1 ?k2 ?k3 ?k4 ?_; (case k1 => k_asm); (case k2 => k_asm); (case k3 => k_mem); (case k4 => k_mem); k_whole; intro _ _ _ _ hNq9; (refine' Mine.useU hNq9 ?u ?_; (case u => k_upd); clear hNq9; intro Nq9; (try dsimp only at Nq9); revert Nq9; intro _); (try k_sweep))
    | (refine' cb_pop ?k1 ?k2 ?k3 ?k4 ?k5 ?k6 ?_; (case k1 => k_asm); (case k2 => k_asm); (case k3 => k_asm); (case k4 => k_mem); (case k5 => k_mem); (case k6 => k_extra "li"); k_whole; intro _ _ _ _ hNq9; (refine' Mine.useU hNq9 ?u ?_; (case u => k_upd); clear hNq9; intro Nq9; (try dsimp only at Nq9); revert Nq9; intro _); (try k_sweep))))
  k_with "subscriptTail" => (k_here; (with_reducible show wpAny _ _ (subscriptTail _ _ _ (Value.ref _)) _ _ _); k_dflt (refine' slice_acc ?k1 ?k2 ?k3 ?k4 ?k5 ?k6 ?k7 ?_ ?hsb; (case hsb => intro _; with_unfolding_all rfl); (case k1 => k_asm); (case k2 => k_asm); (case k3 => k_asm); (case k4 => k_mem); (case k5 => k_mem); (case k6 => first | assumption | k_extra "li"); (case k7 => k_extra "li"); k_whole; intro _ _ _ _ _ l1q9; (try k_lt l1q9); revert l1q9; intro _))
  k_with "setItem ref" => (k_here; k_dflt (refine' setslice_acc ?k1 ?k2 ?k3 ?k4 ?k5 ?k6 ?k7 ?k8 ?_; (case k1 => k_asm); (case k2 => k_asm); (case k3 => k_asm); (case k4 => k_mem); (case k5 => k_mem); (case k6 => k_mem); (case k7 => first | assumption | k_extra "li"); (case k8 => k_extra "li"); k_whole; intro _ _ _ _ hNq9; (refine' Mine.useU hNq9 ?u ?_; (case u => k_upd); clear hNq9; intro Nq9; (try dsimp only at Nq9); revert Nq9; intro _)))
  k_with "setAttr ref" => (k_here; k_dflt (refine' set_dictL ?k1 ?k2 ?k3 ?k4 ?k5 ?k6 (acc_mro _) ?k8 ?k9 ?k10 ?k11 ?k12 ?k13 ?_; (case k1 => k_asm); (case k2 => k_asm); (case k3 => k_asm); (case k4 => k_inst); (case k5 => exact rfl); (case k6 => k_is); (case k8 => k_is); (case k9 => k_is); (case k10 => k_get); (case k11 => k_put); (case k12 => k_upd); (case k13 => exact Nat.le_of_ble_eq_true rfl); k_whole; intro _ _ _))
  k_with "subscriptTail" => ((with_reducible show wpAny _ _ (subscriptTail _ (Expr.Slice none none (some _) _) (Value.str (tx _) _) _) _ _ _); k_dflt (refine' sl_rev (s := ⟨_, _, _, _, _⟩) ?F ?N ?hl ?_ ?hs ?ht; (case F => k_asm); (case N => k_asm); (case hl => (try simp only [List.length_reverse]); k_extra "li"); (case hs => with_unfolding_all rfl); (case ht => intro _; with_unfolding_all rfl)); intro _ _ _ _ _)
  k_with "subscriptTail Name Slice str ref" => ((with_reducible show wpAny _ _ (subscriptTail _ (Expr.Slice none none (some _) _) (Value.str (tx _) _) _) _ _ _); k_dflt (refine' sl_rev (s := ⟨_, _, _, _, _⟩) ?F ?N ?hl ?_ ?hs ?ht; (case F => k_asm); (case N => k_asm); (case hl => (try simp only [List.length_reverse]); k_extra "li"); (case hs => with_unfolding_all rfl); (case ht => intro _; with_unfolding_all rfl)); intro _ _ _ _ _)
  k_with "kd" => repeat' (k_extra "ks1"; try dsimp only)
  k_with "subscriptTail" => ((with_reducible show wpAny _ _ (subscriptTail _ (Expr.Slice _ _ none _) (Value.ref _) (Value.ref _)) _ _ _); k_dflt (refine' kmk_slice_ints (s := ⟨_, _, _, _, _⟩) ?w9F ?w9N ?w9l ?w9p ?w9q ?w9i ?w9m ?w9c ?_ ?w9s ?w9t ?w9z; (case w9F => k_asm); (case w9N => k_asm); (case w9l => kmk_list); (case w9p => kmk_part); (case w9q => kmk_part); (case w9i => l_ints); (case w9m => kmk_nums); (case w9c => kmk_len); (case w9s => with_unfolding_all rfl); (case w9t => kmk_pure); (case w9z => kmk_size)); intro _ _ _ _ _ _ _ _ _; dsimp only)
  k_with "subscriptTail" => ((with_reducible show wpAny _ _ (subscriptTail _ (Expr.Slice none none (some _) _) (Value.ref _) (Value.ref _)) _ _ _); k_dflt (refine' krv_ints (s := ⟨_, _, _, _, _⟩) ?w8F ?w8N ?w8l ?w8k ?w8i ?_ ?w8s ?w8t ?w8z; (case w8F => k_asm); (case w8N => k_asm); (case w8l => kmk_list); (case w8k => exact IsPart.int _ _); (case w8i => l_ints); (case w8s => with_unfolding_all rfl); (case w8t => kmk_pure); (case w8z => kmk_size)); intro _ _ _ _ _ _ _ _; dsimp only)
  k_with "xe2" => first | refine xe1_1 hx9 ?_ | refine xe0_2 hx9 ?_
  k_with "xq2" => first | k_extra "xe2" | refine xp2 hx9 ?_
  k_with "xe3" => first | refine xe2_1 hx9 ?_ | refine xe1_2 hx9 ?_ | refine xe0_3 hx9 ?_
  k_with "xq3" => first | k_extra "xe3" | refine xp3 hx9 ?_
  k_with "xe4" => first | refine xe3_1 hx9 ?_ | refine xe2_2 hx9 ?_ | refine xe1_3 hx9 ?_ | refine xe0_4 hx9 ?_
  k_with "xq4" => first | k_extra "xe4" | refine xp4 hx9 ?_
  k_with "xe5" => first | refine xe4_1 hx9 ?_ | refine xe3_2 hx9 ?_ | refine xe2_3 hx9 ?_ | refine xe1_4 hx9 ?_ | refine xe0_5 hx9 ?_
  k_with "xq5" => first | k_extra "xe5" | refine xp5 hx9 ?_
  k_with "xe6" => first | refine xe5_1 hx9 ?_ | refine xe4_2 hx9 ?_ | refine xe3_3 hx9 ?_ | refine xe2_4 hx9 ?_ | refine xe1_5 hx9 ?_ | refine xe0_6 hx9 ?_
  k_with "xq6" => first | k_extra "xe6" | refine xp6 hx9 ?_
  k_with "xe7" => first | refine xe6_1 hx9 ?_ | refine xe5_2 hx9 ?_ | refine xe4_3 hx9 ?_ | refine xe3_4 hx9 ?_ | refine xe2_5 hx9 ?_ | refine xe1_6 hx9 ?_ | refine xe0_7 hx9 ?_
  k_with "xq7" => first | k_extra "xe7"
  k_with "xe8" => first | refine xe7_1 hx9 ?_ | refine xe6_2 hx9 ?_ | refine xe5_3 hx9 ?_ | refine xe4_4 hx9 ?_ | refine xe3_5 hx9 ?_ | refine xe2_6 hx9 ?_ | refine xe1_7 hx9 ?_ | refine xe0_8 hx9 ?_
  k_with "xq8" => first | k_extra "xe8"
  k_with "xe9" => first | refine xe8_1 hx9 ?_ | refine xe7_2 hx9 ?_ | refine xe6_3 hx9 ?_ | refine xe5_4 hx9 ?_ | refine xe4_5 hx9 ?_ | refine xe3_6 hx9 ?_ | refine xe2_7 hx9 ?_ | refine xe1_8 hx9 ?_ | refine xe0_9 hx9 ?_
  k_with "xq9" => first | k_extra "xe9"
  k_with "xe10" => first | refine xe9_1 hx9 ?_ | refine xe8_2 hx9 ?_ | refine xe7_3 hx9 ?_ | refine xe6_4 hx9 ?_ | refine xe5_5 hx9 ?_ | refine xe4_6 hx9 ?_ | refine xe3_7 hx9 ?_ | refine xe2_8 hx9 ?_ | refine xe1_9 hx9 ?_ | refine xe0_10 hx9 ?_
  k_with "xq10" => first | k_extra "xe10"
  k_with "xe11" => first | refine xe9_2 hx9 ?_ | refine xe8_3 hx9 ?_ | refine xe7_4 hx9 ?_ | refine xe6_5 hx9 ?_ | refine xe5_6 hx9 ?_ | refine xe4_7 hx9 ?_ | refine xe3_8 hx9 ?_ | refine xe2_9 hx9 ?_ | refine xe1_10 hx9 ?_
  k_with "xq11" => first | k_extra "xe11"
  k_with "xe12" => first | refine xe9_3 hx9 ?_ | refine xe8_4 hx9 ?_ | refine xe7_5 hx9 ?_ | refine xe6_6 hx9 ?_ | refine xe5_7 hx9 ?_ | refine xe4_8 hx9 ?_ | refine xe3_9 hx9 ?_ | refine xe2_10 hx9 ?_
  k_with "xq12" => first | k_extra "xe12"
  k_with "xe13" => first | refine xe9_4 hx9 ?_ | refine xe8_5 hx9 ?_ | refine xe7_6 hx9 ?_ | refine xe6_7 hx9 ?_ | refine xe5_8 hx9 ?_ | refine xe4_9 hx9 ?_ | refine xe3_10 hx9 ?_
  k_with "xq13" => first | k_extra "xe13"
  k_with "xe14" => first | refine xe9_5 hx9 ?_ | refine xe8_6 hx9 ?_ | refine xe7_7 hx9 ?_ | refine xe6_8 hx9 ?_ | refine xe5_9 hx9 ?_ | refine xe4_10 hx9 ?_
  k_with "xq14" => first | k_extra "xe14"
  trivial
section
noncomputable def pwS (i : Nat) : Stmt := (PySem.Challenge.pw_sr0059_01.main.body[i]?).getD (.Pass ⟨0, 0, 0, 0⟩)
noncomputable def pwM (i j : Nat) : Stmt := match pwS i with | .ClassDef _ _ _ b .. => (b[j]?).getD (.Pass ⟨0, 0, 0, 0⟩) | _ => .Pass ⟨0, 0, 0, 0⟩
noncomputable def fdA : Stmt → Arguments | .FunctionDef _ a .. => a | _ => { posonlyargs := [], args := [], vararg := none, kwonlyargs := [], kw_defaults := [], kwarg := none, defaults := [] }
noncomputable def fdB : Stmt → List Stmt | .FunctionDef _ _ b .. => b | _ => []
noncomputable def fdS : Stmt → Scope | .FunctionDef _ _ _ _ _ _ sc .. => sc | _ => { kind := .function, names := [], isGenerator := false, isCoroutine := false }
@[reducible] noncomputable def mkFn (name qual : Str) {st : Stmt} {a : Arguments} {b : List Stmt} {c : Scope} (_ : fdA st = a) (_ : fdB st = b) (_ : fdS st = c) (cl : List (Str × Addr)) (dV pm cdv ct : Value) : Obj :=
  { cls := .type "function", data := .func { name := name, qualname := qual, params := a, body := .stmts b, scope := c, globals := 3, closure := cl, defaults := dV, kwdefaults := .none, pyModule := pm, code := cdv, closureTuple := ct } }
noncomputable def K39 : Params → Frag := fun P => (nat_lit 2, { cls := Value.none, data := Data.dict #[] }) ::
 (nat_lit 3, { cls := Value.type "dict", data := Data.dict #[{ hash := PyData.keyHash P (Str.ofString "__name__"), key := Value.str (Str.ofString "__name__") 165, val := Value.str (Str.ofString "law_sr0059_01") 412 }, { hash := PyData.keyHash P (Str.ofString "__doc__"), key := Value.str (Str.ofString "__doc__") 166, val := Value.none }, { hash := PyData.keyHash P (Str.ofString "__package__"), key := Value.str (Str.ofString "__package__") 167, val := Value.none }, { hash := PyData.keyHash P (Str.ofString "__loader__"), key := Value.str (Str.ofString "__loader__") 168, val := Value.builtin "__main__.__loader__#opaque" }, { hash := PyData.keyHash P (Str.ofString "__spec__"), key := Value.str (Str.ofString "__spec__") 169, val := Value.none }, { hash := PyData.keyHash P (Str.ofString "__annotations__"), key := Value.str (Str.ofString "__annotations__") 170, val := Value.ref 6 }, { hash := PyData.keyHash P (Str.ofString "__builtins__"), key := Value.str (Str.ofString "__builtins__") 171, val := Value.ref 4 }, { hash := PyData.keyHash P (Str.ofString "__file__"), key := Value.str (Str.ofString "__file__") 173, val := Value.str (Str.ofString "/claim/cut.py") 172 }, { hash := PyData.keyHash P (Str.ofString "__cached__"), key := Value.str (Str.ofString "__cached__") 174, val := Value.none }, { hash := PyData.keyHash P (Str.ofString "_wall"), key := Value.str (Str.ofString "_wall") 193, val := Value.ref 21 }, { hash := PyData.keyHash P (Str.ofString "EMPTYSTRING"), key := Value.str (Str.ofString "EMPTYSTRING") 197, val := Value.str (Str.ofString "") 196 }, { hash := PyData.keyHash P (Str.ofString "_Accumulator"), key := Value.str (Str.ofString "_Accumulator") 293, val := Value.ref 101 }, { hash := PyData.keyHash P (Str.ofString "_DIV_LIMIT"), key := Value.str (Str.ofString "_DIV_LIMIT") 297, val := Value.int 4000 296 }, { hash := PyData.keyHash P (Str.ofString "_div2n1n"), key := Value.str (Str.ofString "_div2n1n") 314, val := Value.ref 112 }, { hash := PyData.keyHash P (Str.ofString "_div3n2n"), key := Value.str (Str.ofString "_div3n2n") 328, val := Value.ref 119 }, { hash := PyData.keyHash P (Str.ofString "_int2digits"), key := Value.str (Str.ofString "_int2digits") 339, val := Value.ref 126 }, { hash := PyData.keyHash P (Str.ofString "_digits2int"), key := Value.str (Str.ofString "_digits2int") 350, val := Value.ref 133 }, { hash := PyData.keyHash P (Str.ofString "_divmod_pos"), key := Value.str (Str.ofString "_divmod_pos") 365, val := Value.ref 140 }, { hash := PyData.keyHash P (Str.ofString "int_divmod"), key := Value.str (Str.ofString "int_divmod") 375, val := Value.ref 147 }, { hash := PyData.keyHash P (Str.ofString "_MAX_STRING_SIZE"), key := Value.str (Str.ofString "_MAX_STRING_SIZE") 379, val := Value.int 40 378 }, { hash := PyData.keyHash P (Str.ofString "_MOVE_COST"), key := Value.str (Str.ofString "_MOVE_COST") 381, val := Value.int 2 380 }, { hash := PyData.keyHash P (Str.ofString "_CASE_COST"), key := Value.str (Str.ofString "_CASE_COST") 383, val := Value.int 1 382 }, { hash := PyData.keyHash P (Str.ofString "_substitution_cost"), key := Value.str (Str.ofString "_substitution_cost") 391, val := Value.ref 154 }, { hash := PyData.keyHash P (Str.ofString "_levenshtein_distance"), key := Value.str (Str.ofString "_levenshtein_distance") 411, val := Value.ref 161 }, { hash := PyData.keyHash P (Str.ofString "_law_told"), key := Value.str (Str.ofString "_law_told") 427, val := Value.ref 168 }, { hash := PyData.keyHash P (Str.ofString "_law_hour"), key := Value.str (Str.ofString "_law_hour") 442, val := Value.ref 175 }, { hash := PyData.keyHash P (Str.ofString "law"), key := Value.str (Str.ofString "law") 448, val := Value.ref 180 }] 27 }) ::
 (nat_lit 15, { cls := Value.type "tuple", data := Data.seq #[] }) ::
 (nat_lit 17, { cls := Value.type "tuple", data := Data.seq #[Value.str (Str.ofString "k") 190] }) ::
 (nat_lit 18, { cls := Value.type "tuple", data := Data.seq #[] }) ::
 (nat_lit 20, { cls := Value.type "code", data := Data.fields #[Value.str (Str.ofString "_wall") 187, Value.str (Str.ofString "_wall") 188, Value.str (Str.ofString "/claim/cut.py") 189, Value.int 1 0, Value.int 1 0, Value.int 0 0, Value.int 0 0, Value.int 3 0, Value.ref 15, Value.bool true, Value.int 181 0, Value.ref 16, Value.none, Value.ref 17, Value.ref 18, Value.ref 19, Value.int 191 0, Value.int 1 0, Value.str (Str.ofString "/claim/cut.py") 192] }) ::
 (nat_lit 21, mkFn (Str.ofString "_wall") (Str.ofString "_wall") (show fdA (pwS 0) = _ from by conv => lhs; whnf) (show fdB (pwS 0) = _ from by conv => lhs; whnf) (show fdS (pwS 0) = _ from by conv => lhs; whnf) [] (Value.none) (Value.str (Str.ofString "__main__") 164) (Value.ref 20) (Value.none)) ::
 (nat_lit 22, { cls := Value.type "tuple", data := Data.seq #[Value.type "list"] }) ::
 (nat_lit 25, { cls := Value.type "cell", data := Data.cell (some (Value.ref 101)) }) ::
 (nat_lit 30, { cls := Value.type "tuple", data := Data.seq #[Value.int 0 210] }) ::
 (nat_lit 31, { cls := Value.type "tuple", data := Data.seq #[Value.ref 25] }) ::
 (nat_lit 32, { cls := Value.type "tuple", data := Data.seq #[Value.str (Str.ofString "__class__") 214] }) ::
 (nat_lit 34, { cls := Value.type "tuple", data := Data.seq #[Value.str (Str.ofString "self") 215, Value.str (Str.ofString "initial_size") 216] }) ::
 (nat_lit 35, { cls := Value.type "tuple", data := Data.seq #[] }) ::
 (nat_lit 37, { cls := Value.type "code", data := Data.fields #[Value.str (Str.ofString "__init__") 211, Value.str (Str.ofString "_Accumulator.__init__") 212, Value.str (Str.ofString "/claim/cut.py") 213, Value.int 8 0, Value.int 2 0, Value.int 0 0, Value.int 0 0, Value.int 3 0, Value.ref 32, Value.bool true, Value.int 181 0, Value.ref 33, Value.none, Value.ref 34, Value.ref 35, Value.ref 36, Value.int 217 0, Value.int 8 0, Value.str (Str.ofString "/claim/cut.py") 218] }) ::
 (nat_lit 38, mkFn (Str.ofString "__init__") (Str.ofString "_Accumulator.__init__") (show fdA (pwM 3 0) = _ from by conv => lhs; whnf) (show fdB (pwM 3 0) = _ from by conv => lhs; whnf) (show fdS (pwM 3 0) = _ from by conv => lhs; whnf) [(Str.ofString "__class__", 25)] (Value.ref 30) (Value.str (Str.ofString "cpy313.email.header") 194) (Value.ref 37) (Value.ref 31)) ::
 (nat_lit 39, { cls := Value.type "tuple", data := Data.seq #[] }) ::
 (nat_lit 41, { cls := Value.type "tuple", data := Data.seq #[Value.str (Str.ofString "self") 223, Value.str (Str.ofString "fws") 224, Value.str (Str.ofString "string") 225] }) ::
 (nat_lit 42, { cls := Value.type "tuple", data := Data.seq #[] }) ::
 (nat_lit 44, { cls := Value.type "code", data := Data.fields #[Value.str (Str.ofString "push") 220, Value.str (Str.ofString "_Accumulator.push") 221, Value.str (Str.ofString "/claim/cut.py") 222, Value.int 12 0, Value.int 3 0, Value.int 0 0, Value.int 0 0, Value.int 3 0, Value.ref 39, Value.bool true, Value.int 181 0, Value.ref 40, Value.none, Value.ref 41, Value.ref 42, Value.ref 43, Value.int 226 0, Value.int 12 0, Value.str (Str.ofString "/claim/cut.py") 227] }) ::
 (nat_lit 45, mkFn (Str.ofString "push") (Str.ofString "_Accumulator.push") (show fdA (pwM 3 1) = _ from by conv => lhs; whnf) (show fdB (pwM 3 1) = _ from by conv => lhs; whnf) (show fdS (pwM 3 1) = _ from by conv => lhs; whnf) [] (Value.none) (Value.str (Str.ofString "cpy313.email.header") 194) (Value.ref 44) (Value.none)) ::
 (nat_lit 46, { cls := Value.type "tuple", data := Data.seq #[Value.int 0 229] }) ::
 (nat_lit 47, { cls := Value.type "tuple", data := Data.seq #[] }) ::
 (nat_lit 49, { cls := Value.type "tuple", data := Data.seq #[Value.str (Str.ofString "self") 233, Value.str (Str.ofString "i") 234, Value.str (Str.ofString "popped") 235] }) ::
 (nat_lit 50, { cls := Value.type "tuple", data := Data.seq #[] }) ::
 (nat_lit 52, { cls := Value.type "code", data := Data.fields #[Value.str (Str.ofString "pop_from") 230, Value.str (Str.ofString "_Accumulator.pop_from") 231, Value.str (Str.ofString "/claim/cut.py") 232, Value.int 15 0, Value.int 2 0, Value.int 0 0, Value.int 0 0, Value.int 3 0, Value.ref 47, Value.bool true, Value.int 181 0, Value.ref 48, Value.none, Value.ref 49, Value.ref 50, Value.ref 51, Value.int 236 0, Value.int 15 0, Value.str (Str.ofString "/claim/cut.py") 237] }) ::
 (nat_lit 53, mkFn (Str.ofString "pop_from") (Str.ofString "_Accumulator.pop_from") (show fdA (pwM 3 2) = _ from by conv => lhs; whnf) (show fdB (pwM 3 2) = _ from by conv => lhs; whnf) (show fdS (pwM 3 2) = _ from by conv => lhs; whnf) [] (Value.ref 46) (Value.str (Str.ofString "cpy313.email.header") 194) (Value.ref 52) (Value.none)) ::
 (nat_lit 54, { cls := Value.type "tuple", data := Data.seq #[Value.ref 25] }) ::
 (nat_lit 55, { cls := Value.type "tuple", data := Data.seq #[Value.str (Str.ofString "__class__") 242] }) ::
 (nat_lit 57, { cls := Value.type "tuple", data := Data.seq #[Value.str (Str.ofString "self") 243] }) ::
 (nat_lit 58, { cls := Value.type "tuple", data := Data.seq #[] }) ::
 (nat_lit 60, { cls := Value.type "code", data := Data.fields #[Value.str (Str.ofString "pop") 239, Value.str (Str.ofString "_Accumulator.pop") 240, Value.str (Str.ofString "/claim/cut.py") 241, Value.int 20 0, Value.int 1 0, Value.int 0 0, Value.int 0 0, Value.int 3 0, Value.ref 55, Value.bool true, Value.int 181 0, Value.ref 56, Value.none, Value.ref 57, Value.ref 58, Value.ref 59, Value.int 244 0, Value.int 20 0, Value.str (Str.ofString "/claim/cut.py") 245] }) ::
 (nat_lit 61, mkFn (Str.ofString "pop") (Str.ofString "_Accumulator.pop") (show fdA (pwM 3 3) = _ from by conv => lhs; whnf) (show fdB (pwM 3 3) = _ from by conv => lhs; whnf) (show fdS (pwM 3 3) = _ from by conv => lhs; whnf) [(Str.ofString "__class__", 25)] (Value.none) (Value.str (Str.ofString "cpy313.email.header") 194) (Value.ref 60) (Value.ref 54)) ::
 (nat_lit 62, { cls := Value.type "tuple", data := Data.seq #[] }) ::
 (nat_lit 64, { cls := Value.type "tuple", data := Data.seq #[Value.str (Str.ofString "self") 250] }) ::
 (nat_lit 65, { cls := Value.type "tuple", data := Data.seq #[] }) ::
 (nat_lit 67, { cls := Value.type "code", data := Data.fields #[Value.str (Str.ofString "__len__") 247, Value.str (Str.ofString "_Accumulator.__len__") 248, Value.str (Str.ofString "/claim/cut.py") 249, Value.int 25 0, Value.int 1 0, Value.int 0 0, Value.int 0 0, Value.int 3 0, Value.ref 62, Value.bool true, Value.int 181 0, Value.ref 63, Value.none, Value.ref 64, Value.ref 65, Value.ref 66, Value.int 251 0, Value.int 25 0, Value.str (Str.ofString "/claim/cut.py") 252] }) ::
 (nat_lit 68, mkFn (Str.ofString "__len__") (Str.ofString "_Accumulator.__len__") (show fdA (pwM 3 4) = _ from by conv => lhs; whnf) (show fdB (pwM 3 4) = _ from by conv => lhs; whnf) (show fdS (pwM 3 4) = _ from by conv => lhs; whnf) [] (Value.none) (Value.str (Str.ofString "cpy313.email.header") 194) (Value.ref 67) (Value.none)) ::
 (nat_lit 69, { cls := Value.type "tuple", data := Data.seq #[] }) ::
 (nat_lit 71, { cls := Value.type "tuple", data := Data.seq #[Value.str (Str.ofString "self") 257] }) ::
 (nat_lit 72, { cls := Value.type "tuple", data := Data.seq #[] }) ::
 (nat_lit 74, { cls := Value.type "code", data := Data.fields #[Value.str (Str.ofString "__str__") 254, Value.str (Str.ofString "_Accumulator.__str__") 255, Value.str (Str.ofString "/claim/cut.py") 256, Value.int 28 0, Value.int 1 0, Value.int 0 0, Value.int 0 0, Value.int 3 0, Value.ref 69, Value.bool true, Value.int 181 0, Value.ref 70, Value.none, Value.ref 71, Value.ref 72, Value.ref 73, Value.int 258 0, Value.int 28 0, Value.str (Str.ofString "/claim/cut.py") 259] }) ::
 (nat_lit 75, mkFn (Str.ofString "__str__") (Str.ofString "_Accumulator.__str__") (show fdA (pwM 3 5) = _ from by conv => lhs; whnf) (show fdB (pwM 3 5) = _ from by conv => lhs; whnf) (show fdS (pwM 3 5) = _ from by conv => lhs; whnf) [] (Value.none) (Value.str (Str.ofString "cpy313.email.header") 194) (Value.ref 74) (Value.none)) ::
 (nat_lit 76, { cls := Value.type "tuple", data := Data.seq #[Value.none] }) ::
 (nat_lit 77, { cls := Value.type "tuple", data := Data.seq #[] }) ::
 (nat_lit 79, { cls := Value.type "tuple", data := Data.seq #[Value.str (Str.ofString "self") 264, Value.str (Str.ofString "startval") 265] }) ::
 (nat_lit 80, { cls := Value.type "tuple", data := Data.seq #[] }) ::
 (nat_lit 82, { cls := Value.type "code", data := Data.fields #[Value.str (Str.ofString "reset") 261, Value.str (Str.ofString "_Accumulator.reset") 262, Value.str (Str.ofString "/claim/cut.py") 263, Value.int 31 0, Value.int 2 0, Value.int 0 0, Value.int 0 0, Value.int 3 0, Value.ref 77, Value.bool true, Value.int 181 0, Value.ref 78, Value.none, Value.ref 79, Value.ref 80, Value.ref 81, Value.int 266 0, Value.int 31 0, Value.str (Str.ofString "/claim/cut.py") 267] }) ::
 (nat_lit 83, mkFn (Str.ofString "reset") (Str.ofString "_Accumulator.reset") (show fdA (pwM 3 6) = _ from by conv => lhs; whnf) (show fdB (pwM 3 6) = _ from by conv => lhs; whnf) (show fdS (pwM 3 6) = _ from by conv => lhs; whnf) [] (Value.ref 76) (Value.str (Str.ofString "cpy313.email.header") 194) (Value.ref 82) (Value.none)) ::
 (nat_lit 84, { cls := Value.type "tuple", data := Data.seq #[] }) ::
 (nat_lit 86, { cls := Value.type "tuple", data := Data.seq #[Value.str (Str.ofString "self") 272] }) ::
 (nat_lit 87, { cls := Value.type "tuple", data := Data.seq #[] }) ::
 (nat_lit 89, { cls := Value.type "code", data := Data.fields #[Value.str (Str.ofString "is_onlyws") 269, Value.str (Str.ofString "_Accumulator.is_onlyws") 270, Value.str (Str.ofString "/claim/cut.py") 271, Value.int 34 0, Value.int 1 0, Value.int 0 0, Value.int 0 0, Value.int 3 0, Value.ref 84, Value.bool true, Value.int 181 0, Value.ref 85, Value.none, Value.ref 86, Value.ref 87, Value.ref 88, Value.int 273 0, Value.int 34 0, Value.str (Str.ofString "/claim/cut.py") 274] }) ::
 (nat_lit 90, mkFn (Str.ofString "is_onlyws") (Str.ofString "_Accumulator.is_onlyws") (show fdA (pwM 3 7) = _ from by conv => lhs; whnf) (show fdB (pwM 3 7) = _ from by conv => lhs; whnf) (show fdS (pwM 3 7) = _ from by conv => lhs; whnf) [] (Value.none) (Value.str (Str.ofString "cpy313.email.header") 194) (Value.ref 89) (Value.none)) ::
 (nat_lit 91, { cls := Value.type "tuple", data := Data.seq #[Value.ref 25] }) ::
 (nat_lit 92, { cls := Value.type "tuple", data := Data.seq #[Value.str (Str.ofString "__class__") 279] }) ::
 (nat_lit 94, { cls := Value.type "tuple", data := Data.seq #[Value.str (Str.ofString "self") 280] }) ::
 (nat_lit 95, { cls := Value.type "tuple", data := Data.seq #[] }) ::
 (nat_lit 97, { cls := Value.type "code", data := Data.fields #[Value.str (Str.ofString "part_count") 276, Value.str (Str.ofString "_Accumulator.part_count") 277, Value.str (Str.ofString "/claim/cut.py") 278, Value.int 37 0, Value.int 1 0, Value.int 0 0, Value.int 0 0, Value.int 3 0, Value.ref 92, Value.bool true, Value.int 181 0, Value.ref 93, Value.none, Value.ref 94, Value.ref 95, Value.ref 96, Value.int 281 0, Value.int 37 0, Value.str (Str.ofString "/claim/cut.py") 282] }) ::
 (nat_lit 98, mkFn (Str.ofString "part_count") (Str.ofString "_Accumulator.part_count") (show fdA (pwM 3 8) = _ from by conv => lhs; whnf) (show fdB (pwM 3 8) = _ from by conv => lhs; whnf) (show fdS (pwM 3 8) = _ from by conv => lhs; whnf) [(Str.ofString "__class__", 25)] (Value.none) (Value.str (Str.ofString "cpy313.email.header") 194) (Value.ref 97) (Value.ref 91)) ::
 (nat_lit 99, { cls := Value.type "tuple", data := Data.seq #[Value.str (Str.ofString "_initial_size") 284] }) ::
 (nat_lit 100, { cls := Value.type "dict", data := Data.dict #[{ hash := PyData.keyHash P (Str.ofString "__module__"), key := Value.str (Str.ofString "__module__") 205, val := Value.str (Str.ofString "cpy313.email.header") 194 }, { hash := PyData.keyHash P (Str.ofString "__firstlineno__"), key := Value.str (Str.ofString "__firstlineno__") 209, val := Value.int 6 208 }, { hash := PyData.keyHash P (Str.ofString "__init__"), key := Value.str (Str.ofString "__init__") 219, val := Value.ref 38 }, { hash := PyData.keyHash P (Str.ofString "push"), key := Value.str (Str.ofString "push") 228, val := Value.ref 45 }, { hash := PyData.keyHash P (Str.ofString "pop_from"), key := Value.str (Str.ofString "pop_from") 238, val := Value.ref 53 }, { hash := PyData.keyHash P (Str.ofString "pop"), key := Value.str (Str.ofString "pop") 246, val := Value.ref 61 }, { hash := PyData.keyHash P (Str.ofString "__len__"), key := Value.str (Str.ofString "__len__") 253, val := Value.ref 68 }, { hash := PyData.keyHash P (Str.ofString "__str__"), key := Value.str (Str.ofString "__str__") 260, val := Value.ref 75 }, { hash := PyData.keyHash P (Str.ofString "reset"), key := Value.str (Str.ofString "reset") 268, val := Value.ref 83 }, { hash := PyData.keyHash P (Str.ofString "is_onlyws"), key := Value.str (Str.ofString "is_onlyws") 275, val := Value.ref 90 }, { hash := PyData.keyHash P (Str.ofString "part_count"), key := Value.str (Str.ofString "part_count") 283, val := Value.ref 98 }, { hash := PyData.keyHash P (Str.ofString "__static_attributes__"), key := Value.str (Str.ofString "__static_attributes__") 285, val := Value.ref 99 }, { hash := PyData.keyHash P (Str.ofString "__dict__"), key := Value.str (Str.ofString "__dict__") 288, val := Value.ref 102 }, { hash := PyData.keyHash P (Str.ofString "__weakref__"), key := Value.str (Str.ofString "__weakref__") 290, val := Value.ref 103 }, { hash := PyData.keyHash P (Str.ofString "__doc__"), key := Value.str (Str.ofString "__doc__") 291, val := Value.none }] 5 }) ::
 (nat_lit 101, { cls := Value.type "type", data := Data.cls { name := Str.ofString "_Accumulator", bases := [Value.type "list"], mro := [Value.ref 101, Value.type "list", Value.type "object"], ns := 100, qualname := Str.ofString "_Accumulator" }, slots := #[some (Value.ref 22), none, some (Value.str (Str.ofString "_Accumulator") 198), some (Value.str (Str.ofString "_Accumulator") 206), some (Value.builtin "list.__new__"), some (Value.bool true)] }) ::
 (nat_lit 102, { cls := Value.type "getset_descriptor", data := Data.fields #[Value.str (Str.ofString "__dict__") 287, Value.ref 101, Value.builtin "function.__dict__", Value.builtin "function.__dict__#set"] }) ::
 (nat_lit 103, { cls := Value.type "getset_descriptor", data := Data.fields #[Value.str (Str.ofString "__weakref__") 289, Value.ref 101, Value.builtin "ExceptionGroup.__weakref__", Value.none] }) ::
 (nat_lit 106, { cls := Value.type "tuple", data := Data.seq #[] }) ::
 (nat_lit 108, { cls := Value.type "tuple", data := Data.seq #[Value.str (Str.ofString "a") 301, Value.str (Str.ofString "b") 302, Value.str (Str.ofString "n") 303, Value.str (Str.ofString "pad") 304, Value.str (Str.ofString "half_n") 305, Value.str (Str.ofString "mask") 306, Value.str (Str.ofString "b1") 307, Value.str (Str.ofString "b2") 308, Value.str (Str.ofString "q1") 309, Value.str (Str.ofString "r") 310, Value.str (Str.ofString "q2") 311] }) ::
 (nat_lit 109, { cls := Value.type "tuple", data := Data.seq #[] }) ::
 (nat_lit 111, { cls := Value.type "code", data := Data.fields #[Value.str (Str.ofString "_div2n1n") 298, Value.str (Str.ofString "_div2n1n") 299, Value.str (Str.ofString "/claim/cut.py") 300, Value.int 41 0, Value.int 3 0, Value.int 0 0, Value.int 0 0, Value.int 3 0, Value.ref 106, Value.bool true, Value.int 181 0, Value.ref 107, Value.none, Value.ref 108, Value.ref 109, Value.ref 110, Value.int 312 0, Value.int 41 0, Value.str (Str.ofString "/claim/cut.py") 313] }) ::
 (nat_lit 112, mkFn (Str.ofString "_div2n1n") (Str.ofString "_div2n1n") (show fdA (pwS 6) = _ from by conv => lhs; whnf) (show fdB (pwS 6) = _ from by conv => lhs; whnf) (show fdS (pwS 6) = _ from by conv => lhs; whnf) [] (Value.none) (Value.str (Str.ofString "cpy313._pylong") 294) (Value.ref 111) (Value.none)) ::
 (nat_lit 113, { cls := Value.type "tuple", data := Data.seq #[] }) ::
 (nat_lit 115, { cls := Value.type "tuple", data := Data.seq #[Value.str (Str.ofString "a12") 318, Value.str (Str.ofString "a3") 319, Value.str (Str.ofString "b") 320, Value.str (Str.ofString "b1") 321, Value.str (Str.ofString "b2") 322, Value.str (Str.ofString "n") 323, Value.str (Str.ofString "q") 324, Value.str (Str.ofString "r") 325] }) ::
 (nat_lit 116, { cls := Value.type "tuple", data := Data.seq #[] }) ::
 (nat_lit 118, { cls := Value.type "code", data := Data.fields #[Value.str (Str.ofString "_div3n2n") 315, Value.str (Str.ofString "_div3n2n") 316, Value.str (Str.ofString "/claim/cut.py") 317, Value.int 57 0, Value.int 6 0, Value.int 0 0, Value.int 0 0, Value.int 3 0, Value.ref 113, Value.bool true, Value.int 181 0, Value.ref 114, Value.none, Value.ref 115, Value.ref 116, Value.ref 117, Value.int 326 0, Value.int 57 0, Value.str (Str.ofString "/claim/cut.py") 327] }) ::
 (nat_lit 119, mkFn (Str.ofString "_div3n2n") (Str.ofString "_div3n2n") (show fdA (pwS 7) = _ from by conv => lhs; whnf) (show fdB (pwS 7) = _ from by conv => lhs; whnf) (show fdS (pwS 7) = _ from by conv => lhs; whnf) [] (Value.none) (Value.str (Str.ofString "cpy313._pylong") 294) (Value.ref 118) (Value.none)) ::
 (nat_lit 120, { cls := Value.type "tuple", data := Data.seq #[] }) ::
 (nat_lit 122, { cls := Value.type "tuple", data := Data.seq #[Value.str (Str.ofString "a") 332, Value.str (Str.ofString "n") 333] }) ::
 (nat_lit 123, { cls := Value.type "tuple", data := Data.seq #[Value.str (Str.ofString "n") 334, Value.str (Str.ofString "a_digits") 335, Value.str (Str.ofString "inner") 336] }) ::
 (nat_lit 125, { cls := Value.type "code", data := Data.fields #[Value.str (Str.ofString "_int2digits") 329, Value.str (Str.ofString "_int2digits") 330, Value.str (Str.ofString "/claim/cut.py") 331, Value.int 67 0, Value.int 2 0, Value.int 0 0, Value.int 0 0, Value.int 3 0, Value.ref 120, Value.bool true, Value.int 181 0, Value.ref 121, Value.none, Value.ref 122, Value.ref 123, Value.ref 124, Value.int 337 0, Value.int 67 0, Value.str (Str.ofString "/claim/cut.py") 338] }) ::
 (nat_lit 126, mkFn (Str.ofString "_int2digits") (Str.ofString "_int2digits") (show fdA (pwS 8) = _ from by conv => lhs; whnf) (show fdB (pwS 8) = _ from by conv => lhs; whnf) (show fdS (pwS 8) = _ from by conv => lhs; whnf) [] (Value.none) (Value.str (Str.ofString "cpy313._pylong") 294) (Value.ref 125) (Value.none)) ::
 (nat_lit 127, { cls := Value.type "tuple", data := Data.seq #[] }) ::
 (nat_lit 129, { cls := Value.type "tuple", data := Data.seq #[Value.str (Str.ofString "digits") 343, Value.str (Str.ofString "n") 344] }) ::
 (nat_lit 130, { cls := Value.type "tuple", data := Data.seq #[Value.str (Str.ofString "digits") 345, Value.str (Str.ofString "n") 346, Value.str (Str.ofString "inner") 347] }) ::
 (nat_lit 132, { cls := Value.type "code", data := Data.fields #[Value.str (Str.ofString "_digits2int") 340, Value.str (Str.ofString "_digits2int") 341, Value.str (Str.ofString "/claim/cut.py") 342, Value.int 83 0, Value.int 2 0, Value.int 0 0, Value.int 0 0, Value.int 3 0, Value.ref 127, Value.bool true, Value.int 181 0, Value.ref 128, Value.none, Value.ref 129, Value.ref 130, Value.ref 131, Value.int 348 0, Value.int 83 0, Value.str (Str.ofString "/claim/cut.py") 349] }) ::
 (nat_lit 133, mkFn (Str.ofString "_digits2int") (Str.ofString "_digits2int") (show fdA (pwS 9) = _ from by conv => lhs; whnf) (show fdB (pwS 9) = _ from by conv => lhs; whnf) (show fdS (pwS 9) = _ from by conv => lhs; whnf) [] (Value.none) (Value.str (Str.ofString "cpy313._pylong") 294) (Value.ref 132) (Value.none)) ::
 (nat_lit 134, { cls := Value.type "tuple", data := Data.seq #[] }) ::
 (nat_lit 136, { cls := Value.type "tuple", data := Data.seq #[Value.str (Str.ofString "a") 354, Value.str (Str.ofString "b") 355, Value.str (Str.ofString "n") 356, Value.str (Str.ofString "a_digits") 357, Value.str (Str.ofString "r") 358, Value.str (Str.ofString "q_digits") 359, Value.str (Str.ofString "a_digit") 360, Value.str (Str.ofString "q_digit") 361, Value.str (Str.ofString "q") 362] }) ::
 (nat_lit 137, { cls := Value.type "tuple", data := Data.seq #[] }) ::
 (nat_lit 139, { cls := Value.type "code", data := Data.fields #[Value.str (Str.ofString "_divmod_pos") 351, Value.str (Str.ofString "_divmod_pos") 352, Value.str (Str.ofString "/claim/cut.py") 353, Value.int 92 0, Value.int 2 0, Value.int 0 0, Value.int 0 0, Value.int 3 0, Value.ref 134, Value.bool true, Value.int 181 0, Value.ref 135, Value.none, Value.ref 136, Value.ref 137, Value.ref 138, Value.int 363 0, Value.int 92 0, Value.str (Str.ofString "/claim/cut.py") 364] }) ::
 (nat_lit 140, mkFn (Str.ofString "_divmod_pos") (Str.ofString "_divmod_pos") (show fdA (pwS 10) = _ from by conv => lhs; whnf) (show fdB (pwS 10) = _ from by conv => lhs; whnf) (show fdS (pwS 10) = _ from by conv => lhs; whnf) [] (Value.none) (Value.str (Str.ofString "cpy313._pylong") 294) (Value.ref 139) (Value.none)) ::
 (nat_lit 141, { cls := Value.type "tuple", data := Data.seq #[] }) ::
 (nat_lit 143, { cls := Value.type "tuple", data := Data.seq #[Value.str (Str.ofString "a") 369, Value.str (Str.ofString "b") 370, Value.str (Str.ofString "q") 371, Value.str (Str.ofString "r") 372] }) ::
 (nat_lit 144, { cls := Value.type "tuple", data := Data.seq #[] }) ::
 (nat_lit 146, { cls := Value.type "code", data := Data.fields #[Value.str (Str.ofString "int_divmod") 366, Value.str (Str.ofString "int_divmod") 367, Value.str (Str.ofString "/claim/cut.py") 368, Value.int 103 0, Value.int 2 0, Value.int 0 0, Value.int 0 0, Value.int 3 0, Value.ref 141, Value.bool true, Value.int 181 0, Value.ref 142, Value.none, Value.ref 143, Value.ref 144, Value.ref 145, Value.int 373 0, Value.int 103 0, Value.str (Str.ofString "/claim/cut.py") 374] }) ::
 (nat_lit 147, mkFn (Str.ofString "int_divmod") (Str.ofString "int_divmod") (show fdA (pwS 11) = _ from by conv => lhs; whnf) (show fdB (pwS 11) = _ from by conv => lhs; whnf) (show fdS (pwS 11) = _ from by conv => lhs; whnf) [] (Value.none) (Value.str (Str.ofString "cpy313._pylong") 294) (Value.ref 146) (Value.none)) ::
 (nat_lit 148, { cls := Value.type "tuple", data := Data.seq #[] }) ::
 (nat_lit 150, { cls := Value.type "tuple", data := Data.seq #[Value.str (Str.ofString "ch_a") 387, Value.str (Str.ofString "ch_b") 388] }) ::
 (nat_lit 151, { cls := Value.type "tuple", data := Data.seq #[] }) ::
 (nat_lit 153, { cls := Value.type "code", data := Data.fields #[Value.str (Str.ofString "_substitution_cost") 384, Value.str (Str.ofString "_substitution_cost") 385, Value.str (Str.ofString "/claim/cut.py") 386, Value.int 118 0, Value.int 2 0, Value.int 0 0, Value.int 0 0, Value.int 3 0, Value.ref 148, Value.bool true, Value.int 181 0, Value.ref 149, Value.none, Value.ref 150, Value.ref 151, Value.ref 152, Value.int 389 0, Value.int 118 0, Value.str (Str.ofString "/claim/cut.py") 390] }) ::
 (nat_lit 154, mkFn (Str.ofString "_substitution_cost") (Str.ofString "_substitution_cost") (show fdA (pwS 16) = _ from by conv => lhs; whnf) (show fdB (pwS 16) = _ from by conv => lhs; whnf) (show fdS (pwS 16) = _ from by conv => lhs; whnf) [] (Value.none) (Value.str (Str.ofString "cpy313.traceback") 376) (Value.ref 153) (Value.none)) ::
 (nat_lit 155, { cls := Value.type "tuple", data := Data.seq #[] }) ::
 (nat_lit 157, { cls := Value.type "tuple", data := Data.seq #[Value.str (Str.ofString "a") 395, Value.str (Str.ofString "b") 396, Value.str (Str.ofString "max_cost") 397, Value.str (Str.ofString "pre") 398, Value.str (Str.ofString "post") 399, Value.str (Str.ofString "row") 400, Value.str (Str.ofString "result") 401, Value.str (Str.ofString "bindex") 402, Value.str (Str.ofString "bchar") 403, Value.str (Str.ofString "distance") 404, Value.str (Str.ofString "minimum") 405, Value.str (Str.ofString "index") 406, Value.str (Str.ofString "substitute") 407, Value.str (Str.ofString "insert_delete") 408] }) ::
 (nat_lit 158, { cls := Value.type "tuple", data := Data.seq #[] }) ::
 (nat_lit 160, { cls := Value.type "code", data := Data.fields #[Value.str (Str.ofString "_levenshtein_distance") 392, Value.str (Str.ofString "_levenshtein_distance") 393, Value.str (Str.ofString "/claim/cut.py") 394, Value.int 124 0, Value.int 3 0, Value.int 0 0, Value.int 0 0, Value.int 3 0, Value.ref 155, Value.bool true, Value.int 181 0, Value.ref 156, Value.none, Value.ref 157, Value.ref 158, Value.ref 159, Value.int 409 0, Value.int 124 0, Value.str (Str.ofString "/claim/cut.py") 410] }) ::
 (nat_lit 161, mkFn (Str.ofString "_levenshtein_distance") (Str.ofString "_levenshtein_distance") (show fdA (pwS 17) = _ from by conv => lhs; whnf) (show fdB (pwS 17) = _ from by conv => lhs; whnf) (show fdS (pwS 17) = _ from by conv => lhs; whnf) [] (Value.none) (Value.str (Str.ofString "cpy313.traceback") 376) (Value.ref 160) (Value.none)) ::
 (nat_lit 162, { cls := Value.type "tuple", data := Data.seq #[] }) ::
 (nat_lit 164, { cls := Value.type "tuple", data := Data.seq #[Value.str (Str.ofString "hour") 417, Value.str (Str.ofString "first") 418, Value.str (Str.ofString "laps") 419, Value.str (Str.ofString "rest") 420, Value.str (Str.ofString "told") 421, Value.str (Str.ofString "k") 422, Value.str (Str.ofString "rounds") 423, Value.str (Str.ofString "_") 424] }) ::
 (nat_lit 165, { cls := Value.type "tuple", data := Data.seq #[] }) ::
 (nat_lit 167, { cls := Value.type "code", data := Data.fields #[Value.str (Str.ofString "_law_told") 414, Value.str (Str.ofString "_law_told") 415, Value.str (Str.ofString "/claim/cut.py") 416, Value.int 163 0, Value.int 3 0, Value.int 0 0, Value.int 0 0, Value.int 3 0, Value.ref 162, Value.bool true, Value.int 181 0, Value.ref 163, Value.none, Value.ref 164, Value.ref 165, Value.ref 166, Value.int 425 0, Value.int 163 0, Value.str (Str.ofString "/claim/cut.py") 426] }) ::
 (nat_lit 168, mkFn (Str.ofString "_law_told") (Str.ofString "_law_told") (show fdA (pwS 19) = _ from by conv => lhs; whnf) (show fdB (pwS 19) = _ from by conv => lhs; whnf) (show fdS (pwS 19) = _ from by conv => lhs; whnf) [] (Value.none) (Value.str (Str.ofString "law_sr0059_01") 412) (Value.ref 167) (Value.none)) ::
 (nat_lit 169, { cls := Value.type "tuple", data := Data.seq #[] }) ::
 (nat_lit 171, { cls := Value.type "tuple", data := Data.seq #[Value.str (Str.ofString "told") 431, Value.str (Str.ofString "first") 432, Value.str (Str.ofString "laps") 433, Value.str (Str.ofString "hour") 434, Value.str (Str.ofString "cakes") 435, Value.str (Str.ofString "k") 436, Value.str (Str.ofString "lowest") 437, Value.str (Str.ofString "rounds") 438, Value.str (Str.ofString "_") 439] }) ::
 (nat_lit 172, { cls := Value.type "tuple", data := Data.seq #[] }) ::
 (nat_lit 174, { cls := Value.type "code", data := Data.fields #[Value.str (Str.ofString "_law_hour") 428, Value.str (Str.ofString "_law_hour") 429, Value.str (Str.ofString "/claim/cut.py") 430, Value.int 171 0, Value.int 3 0, Value.int 0 0, Value.int 0 0, Value.int 3 0, Value.ref 169, Value.bool true, Value.int 181 0, Value.ref 170, Value.none, Value.ref 171, Value.ref 172, Value.ref 173, Value.int 440 0, Value.int 171 0, Value.str (Str.ofString "/claim/cut.py") 441] }) ::
 (nat_lit 175, mkFn (Str.ofString "_law_hour") (Str.ofString "_law_hour") (show fdA (pwS 20) = _ from by conv => lhs; whnf) (show fdB (pwS 20) = _ from by conv => lhs; whnf) (show fdS (pwS 20) = _ from by conv => lhs; whnf) [] (Value.none) (Value.str (Str.ofString "law_sr0059_01") 412) (Value.ref 174) (Value.none)) ::
 (nat_lit 176, { cls := Value.type "tuple", data := Data.seq #[] }) ::
 (nat_lit 179, { cls := Value.type "code", data := Data.fields #[Value.str (Str.ofString "law") 443, Value.str (Str.ofString "law") 444, Value.str (Str.ofString "/claim/cut.py") 445, Value.int 181 0, Value.int 1 0, Value.int 0 0, Value.int 0 0, Value.int 3 0, Value.ref 176, Value.bool true, Value.int 181 0, Value.ref 177, Value.none, Value.none, Value.none, Value.ref 178, Value.int 446 0, Value.int 181 0, Value.str (Str.ofString "/claim/cut.py") 447] }) ::
 (nat_lit 180, mkFn (Str.ofString "law") (Str.ofString "law") (show fdA (pwS 21) = _ from by conv => lhs; whnf) (show fdB (pwS 21) = _ from by conv => lhs; whnf) (show fdS (pwS 21) = _ from by conv => lhs; whnf) [] (Value.none) (Value.str (Str.ofString "law_sr0059_01") 412) (Value.ref 179) (Value.none)) :: []
end
section
noncomputable abbrev lawView : Program := view PySem.Challenge.pw_sr0059_01 [21]
noncomputable abbrev lawLoose : List Str := ["_wall", "EMPTYSTRING", "_Accumulator", "_DIV_LIMIT", "_div2n1n", "_div3n2n", "_int2digits", "_digits2int", "_divmod_pos", "int_divmod", "_MAX_STRING_SIZE", "_MOVE_COST", "_CASE_COST", "_substitution_cost", "_levenshtein_distance", "_law_told", "_law_hour"]
noncomputable abbrev lawAdr : List Addr := [2, 3, 15, 17, 18, 20, 21, 22, 25, 30, 31, 32, 34, 35, 37, 38, 39, 41, 42, 44, 45, 46, 47, 49, 50, 52, 53, 54, 55, 57, 58, 60, 61, 62, 64, 65, 67, 68, 69, 71, 72, 74, 75, 76, 77, 79, 80, 82, 83, 84, 86, 87, 89, 90, 91, 92, 94, 95, 97, 98, 99, 100, 101, 102, 103, 106, 108, 109, 111, 112, 113, 115, 116, 118, 119, 120, 122, 123, 125, 126, 127, 129, 130, 132, 133, 134, 136, 137, 139, 140, 141, 143, 144, 146, 147, 148, 150, 151, 153, 154, 155, 157, 158, 160, 161, 162, 164, 165, 167, 168, 169, 171, 172, 174, 175, 176, 179, 180]
theorem K_as : ∀ P, lawAdr = (K39 P).map (·.1) := fun _ => by kernel_rfl
theorem left : LeftO PySem.Challenge.rw_sr0059_01.row.prog lawView lawLoose (fun s => xlAt lawView [] s && recOk (RowW.records PySem.Challenge.rw_sr0059_01.row.toRowW) s) (Hook.obs (kmHook K39 lawAdr K_as [128, 121, 63, 70])) (Hook.val (kmHook K39 lawAdr K_as [128, 121, 63, 70])) 2220 := by
  intro w
  kernel_rfl
end
section
theorem nt_mid0 {lo hi : Nat} (h : lo < hi) : lo ≤ (lo + hi) / 2 := by omega
theorem nt_mid1 {lo hi : Nat} (h : lo < hi) (n : ((lo + 1 : Nat) : Int) ≠ (hi : Nat)) : lo < (lo + hi) / 2 := by omega
theorem nt_mid2 {lo hi : Nat} (h : lo < hi) : (lo + hi) / 2 < hi := Nat.div_lt_of_lt_mul (by rw [Nat.two_mul]; exact Nat.add_lt_add_right h hi)
theorem nt_half {lo hi n : Nat} (h : lo < hi) (k : hi ≤ n) : (lo + hi) / 2 ≤ n := Nat.le_trans (Nat.le_of_lt (nt_mid2 h)) k
theorem nt_m1 {lo mid hi f : Nat} (h : hi - lo ≤ f + 1) (a : lo < mid) (b : mid < hi) : mid - lo ≤ f := Nat.le_of_lt_succ (Nat.lt_of_lt_of_le (Nat.sub_lt_sub_right (Nat.le_of_lt a) b) h)
theorem nt_m2 {lo mid hi f : Nat} (h : hi - lo ≤ f + 1) (a : lo < mid) (b : mid < hi) : hi - mid ≤ f := Nat.le_of_lt_succ (Nat.lt_of_lt_of_le (Nat.sub_lt_sub_left (Nat.lt_trans a b) a) h)
theorem nt_m3 {lo mid hi : Nat} (a : lo ≤ mid) (b : mid ≤ hi) : mid - lo + (hi - mid) = hi - lo := by rw [Nat.add_comm]; exact Nat.sub_add_sub_cancel b a
theorem nt_m4 {lo mid : Nat} (a : lo ≤ mid) : lo + (mid - lo) = mid := Nat.add_sub_of_le a
theorem nt_m6 {lo mid hi : Nat} (a : lo ≤ mid) (b : mid ≤ hi) : lo + (mid - lo) + (hi - mid) = hi := by rw [nt_m4 a, nt_m4 b]
theorem nt_z {lo hi : Nat} (h : hi - lo ≤ 0) : ¬ lo < hi := Nat.not_lt.mpr (Nat.le_of_sub_eq_zero (Nat.le_zero.mp h))
theorem nt_suc {lo hi : Nat} (h : ((lo + 1 : Nat) : Int) = (hi : Nat)) : hi = lo + 1 := by omega
theorem nt_ib {b n : Nat} (h : b ≤ 40) (k : n ≤ 40) : b + n - 1 ≤ 80 := Nat.le_trans (Nat.sub_le _ _) (Nat.add_le_add h k)
theorem nt_pred {n i : Nat} (h : i < n) : n - i = n - i - 1 + 1 := (Nat.succ_pred_eq_of_pos (Nat.sub_pos_of_lt h)).symm
theorem nt_predlt {n i : Nat} (h : 0 < n) : n - i - 1 < n := Nat.lt_of_le_of_lt (Nat.sub_le_sub_right (Nat.sub_le _ _) _) (Nat.sub_lt h (by decide))
theorem nt_predle {n i : Nat} : n - i - 1 ≤ n := Nat.le_trans (Nat.sub_le _ _) (Nat.sub_le _ _)
theorem nt_dec {n i : Nat} (h : i < n) : n + 1 - (i + 1) < n + 1 - i := Nat.sub_lt_sub_left (Nat.lt_succ_of_lt h) (Nat.lt_succ_self i)
theorem nt_63 {x : Nat} (h : x ≤ 1000) : (x : Int) < 2 ^ 63 := by omega
theorem nt_64 {x : Nat} (h : x ≤ 1000) : (x : Int) < 2 ^ 64 := Int.lt_trans (nt_63 h) (by decide)
theorem nt_m64 {x : Nat} : -2 ^ 64 < (x : Int) := Int.lt_of_lt_of_le (by decide) (Int.natCast_nonneg x)
theorem nt_n64 {x : Nat} (h : x ≤ 1000) : x < 2 ^ 64 := Nat.lt_of_le_of_lt h (by decide)
theorem nt_ilt {x y : Nat} (h : x < y) : (x : Int) < (y : Int) := Int.ofNat_lt.mpr h
theorem nt_rot {n : Nat} (h : 0 < n) : 0 + 1 + min (n - 1) n = n := by rw [Nat.min_eq_left (Nat.sub_le _ _), Nat.zero_add, Nat.add_comm]; exact Nat.sub_add_cancel h
theorem nt_rnd {k n : Nat} (h : 0 < k) (h2 : k ≤ n) : 0 + 1 + min (k - 1) n + (n - k) = n := by rw [Nat.min_eq_left (Nat.le_trans (Nat.sub_le _ _) h2), Nat.zero_add, Nat.add_comm 1, Nat.sub_add_cancel h]; exact Nat.add_sub_of_le h2
theorem nt_sub {i k : Nat} (h : k ≤ i) : i - k + k = i := Nat.sub_add_cancel h
theorem nt_isub {x y : Nat} (h : y ≤ x) : (x : Int) - (y : Int) = ((x - y : Nat) : Int) := (Int.ofNat_sub h).symm
theorem nt_isub1 {x : Nat} (h : 1 ≤ x) : (x : Int) - 1 = ((x - 1 : Nat) : Int) := (Int.ofNat_sub h).symm
end
section
theorem xe0_2  {A1 A2 : Prop} {G : Prop} (h : A1 ∧ A2) (k : A1 → A2 → G) : G := k  h.1 h.2
theorem xe0_3  {A1 A2 A3 : Prop} {G : Prop} (h : A1 ∧ A2 ∧ A3) (k : A1 → A2 → A3 → G) : G := k  h.1 h.2.1 h.2.2
theorem xe0_4  {A1 A2 A3 A4 : Prop} {G : Prop} (h : A1 ∧ A2 ∧ A3 ∧ A4) (k : A1 → A2 → A3 → A4 → G) : G := k  h.1 h.2.1 h.2.2.1 h.2.2.2
theorem xe0_5  {A1 A2 A3 A4 A5 : Prop} {G : Prop} (h : A1 ∧ A2 ∧ A3 ∧ A4 ∧ A5) (k : A1 → A2 → A3 → A4 → A5 → G) : G := k  h.1 h.2.1 h.2.2.1 h.2.2.2.1 h.2.2.2.2
theorem xe0_6  {A1 A2 A3 A4 A5 A6 : Prop} {G : Prop} (h : A1 ∧ A2 ∧ A3 ∧ A4 ∧ A5 ∧ A6) (k : A1 → A2 → A3 → A4 → A5 → A6 → G) : G := k  h.1 h.2.1 h.2.2.1 h.2.2.2.1 h.2.2.2.2.1 h.2.2.2.2.2
theorem xe0_7  {A1 A2 A3 A4 A5 A6 A7 : Prop} {G : Prop} (h : A1 ∧ A2 ∧ A3 ∧ A4 ∧ A5 ∧ A6 ∧ A7) (k : A1 → A2 → A3 → A4 → A5 → A6 → A7 → G) : G := k  h.1 h.2.1 h.2.2.1 h.2.2.2.1 h.2.2.2.2.1 h.2.2.2.2.2.1 h.2.2.2.2.2.2
theorem xe0_8  {A1 A2 A3 A4 A5 A6 A7 A8 : Prop} {G : Prop} (h : A1 ∧ A2 ∧ A3 ∧ A4 ∧ A5 ∧ A6 ∧ A7 ∧ A8) (k : A1 → A2 → A3 → A4 → A5 → A6 → A7 → A8 → G) : G := k  h.1 h.2.1 h.2.2.1 h.2.2.2.1 h.2.2.2.2.1 h.2.2.2.2.2.1 h.2.2.2.2.2.2.1 h.2.2.2.2.2.2.2
theorem xe0_9  {A1 A2 A3 A4 A5 A6 A7 A8 A9 : Prop} {G : Prop} (h : A1 ∧ A2 ∧ A3 ∧ A4 ∧ A5 ∧ A6 ∧ A7 ∧ A8 ∧ A9) (k : A1 → A2 → A3 → A4 → A5 → A6 → A7 → A8 → A9 → G) : G := k  h.1 h.2.1 h.2.2.1 h.2.2.2.1 h.2.2.2.2.1 h.2.2.2.2.2.1 h.2.2.2.2.2.2.1 h.2.2.2.2.2.2.2.1 h.2.2.2.2.2.2.2.2
theorem xe0_10  {A1 A2 A3 A4 A5 A6 A7 A8 A9 A10 : Prop} {G : Prop} (h : A1 ∧ A2 ∧ A3 ∧ A4 ∧ A5 ∧ A6 ∧ A7 ∧ A8 ∧ A9 ∧ A10) (k : A1 → A2 → A3 → A4 → A5 → A6 → A7 → A8 → A9 → A10 → G) : G := k  h.1 h.2.1 h.2.2.1 h.2.2.2.1 h.2.2.2.2.1 h.2.2.2.2.2.1 h.2.2.2.2.2.2.1 h.2.2.2.2.2.2.2.1 h.2.2.2.2.2.2.2.2.1 h.2.2.2.2.2.2.2.2.2
theorem xe1_1.{u1} {α1 : Sort u1} {A1 : α1 → Prop} {G : Prop} (h : ∃ x1, A1 x1) (k : ∀ x1, A1 x1 → G) : G := h.elim fun x1 h => k x1 h
theorem xe1_2.{u1} {α1 : Sort u1} {A1 A2 : α1 → Prop} {G : Prop} (h : ∃ x1, A1 x1 ∧ A2 x1) (k : ∀ x1, A1 x1 → A2 x1 → G) : G := h.elim fun x1 h => k x1 h.1 h.2
theorem xe1_3.{u1} {α1 : Sort u1} {A1 A2 A3 : α1 → Prop} {G : Prop} (h : ∃ x1, A1 x1 ∧ A2 x1 ∧ A3 x1) (k : ∀ x1, A1 x1 → A2 x1 → A3 x1 → G) : G := h.elim fun x1 h => k x1 h.1 h.2.1 h.2.2
theorem xe1_4.{u1} {α1 : Sort u1} {A1 A2 A3 A4 : α1 → Prop} {G : Prop} (h : ∃ x1, A1 x1 ∧ A2 x1 ∧ A3 x1 ∧ A4 x1) (k : ∀ x1, A1 x1 → A2 x1 → A3 x1 → A4 x1 → G) : G := h.elim fun x1 h => k x1 h.1 h.2.1 h.2.2.1 h.2.2.2
theorem xe1_5.{u1} {α1 : Sort u1} {A1 A2 A3 A4 A5 : α1 → Prop} {G : Prop} (h : ∃ x1, A1 x1 ∧ A2 x1 ∧ A3 x1 ∧ A4 x1 ∧ A5 x1) (k : ∀ x1, A1 x1 → A2 x1 → A3 x1 → A4 x1 → A5 x1 → G) : G := h.elim fun x1 h => k x1 h.1 h.2.1 h.2.2.1 h.2.2.2.1 h.2.2.2.2
theorem xe1_6.{u1} {α1 : Sort u1} {A1 A2 A3 A4 A5 A6 : α1 → Prop} {G : Prop} (h : ∃ x1, A1 x1 ∧ A2 x1 ∧ A3 x1 ∧ A4 x1 ∧ A5 x1 ∧ A6 x1) (k : ∀ x1, A1 x1 → A2 x1 → A3 x1 → A4 x1 → A5 x1 → A6 x1 → G) : G := h.elim fun x1 h => k x1 h.1 h.2.1 h.2.2.1 h.2.2.2.1 h.2.2.2.2.1 h.2.2.2.2.2
theorem xe1_7.{u1} {α1 : Sort u1} {A1 A2 A3 A4 A5 A6 A7 : α1 → Prop} {G : Prop} (h : ∃ x1, A1 x1 ∧ A2 x1 ∧ A3 x1 ∧ A4 x1 ∧ A5 x1 ∧ A6 x1 ∧ A7 x1) (k : ∀ x1, A1 x1 → A2 x1 → A3 x1 → A4 x1 → A5 x1 → A6 x1 → A7 x1 → G) : G := h.elim fun x1 h => k x1 h.1 h.2.1 h.2.2.1 h.2.2.2.1 h.2.2.2.2.1 h.2.2.2.2.2.1 h.2.2.2.2.2.2
theorem xe1_8.{u1} {α1 : Sort u1} {A1 A2 A3 A4 A5 A6 A7 A8 : α1 → Prop} {G : Prop} (h : ∃ x1, A1 x1 ∧ A2 x1 ∧ A3 x1 ∧ A4 x1 ∧ A5 x1 ∧ A6 x1 ∧ A7 x1 ∧ A8 x1) (k : ∀ x1, A1 x1 → A2 x1 → A3 x1 → A4 x1 → A5 x1 → A6 x1 → A7 x1 → A8 x1 → G) : G := h.elim fun x1 h => k x1 h.1 h.2.1 h.2.2.1 h.2.2.2.1 h.2.2.2.2.1 h.2.2.2.2.2.1 h.2.2.2.2.2.2.1 h.2.2.2.2.2.2.2
theorem xe1_9.{u1} {α1 : Sort u1} {A1 A2 A3 A4 A5 A6 A7 A8 A9 : α1 → Prop} {G : Prop} (h : ∃ x1, A1 x1 ∧ A2 x1 ∧ A3 x1 ∧ A4 x1 ∧ A5 x1 ∧ A6 x1 ∧ A7 x1 ∧ A8 x1 ∧ A9 x1) (k : ∀ x1, A1 x1 → A2 x1 → A3 x1 → A4 x1 → A5 x1 → A6 x1 → A7 x1 → A8 x1 → A9 x1 → G) : G := h.elim fun x1 h => k x1 h.1 h.2.1 h.2.2.1 h.2.2.2.1 h.2.2.2.2.1 h.2.2.2.2.2.1 h.2.2.2.2.2.2.1 h.2.2.2.2.2.2.2.1 h.2.2.2.2.2.2.2.2
theorem xe1_10.{u1} {α1 : Sort u1} {A1 A2 A3 A4 A5 A6 A7 A8 A9 A10 : α1 → Prop} {G : Prop} (h : ∃ x1, A1 x1 ∧ A2 x1 ∧ A3 x1 ∧ A4 x1 ∧ A5 x1 ∧ A6 x1 ∧ A7 x1 ∧ A8 x1 ∧ A9 x1 ∧ A10 x1) (k : ∀ x1, A1 x1 → A2 x1 → A3 x1 → A4 x1 → A5 x1 → A6 x1 → A7 x1 → A8 x1 → A9 x1 → A10 x1 → G) : G := h.elim fun x1 h => k x1 h.1 h.2.1 h.2.2.1 h.2.2.2.1 h.2.2.2.2.1 h.2.2.2.2.2.1 h.2.2.2.2.2.2.1 h.2.2.2.2.2.2.2.1 h.2.2.2.2.2.2.2.2.1 h.2.2.2.2.2.2.2.2.2
theorem xe2_1.{u1, u2} {α1 : Sort u1} {α2 : Sort u2} {A1 : α1 → α2 → Prop} {G : Prop} (h : ∃ x1 x2, A1 x1 x2) (k : ∀ x1 x2, A1 x1 x2 → G) : G := h.elim fun x1 h => h.elim fun x2 h => k x1 x2 h
theorem xe2_2.{u1, u2} {α1 : Sort u1} {α2 : Sort u2} {A1 A2 : α1 → α2 → Prop} {G : Prop} (h : ∃ x1 x2, A1 x1 x2 ∧ A2 x1 x2) (k : ∀ x1 x2, A1 x1 x2 → A2 x1 x2 → G) : G := h.elim fun x1 h => h.elim fun x2 h => k x1 x2 h.1 h.2
theorem xe2_3.{u1, u2} {α1 : Sort u1} {α2 : Sort u2} {A1 A2 A3 : α1 → α2 → Prop} {G : Prop} (h : ∃ x1 x2, A1 x1 x2 ∧ A2 x1 x2 ∧ A3 x1 x2) (k : ∀ x1 x2, A1 x1 x2 → A2 x1 x2 → A3 x1 x2 → G) : G := h.elim fun x1 h => h.elim fun x2 h => k x1 x2 h.1 h.2.1 h.2.2
theorem xe2_4.{u1, u2} {α1 : Sort u1} {α2 : Sort u2} {A1 A2 A3 A4 : α1 → α2 → Prop} {G : Prop} (h : ∃ x1 x2, A1 x1 x2 ∧ A2 x1 x2 ∧ A3 x1 x2 ∧ A4 x1 x2) (k : ∀ x1 x2, A1 x1 x2 → A2 x1 x2 → A3 x1 x2 → A4 x1 x2 → G) : G := h.elim fun x1 h => h.elim fun x2 h => k x1 x2 h.1 h.2.1 h.2.2.1 h.2.2.2
theorem xe2_5.{u1, u2} {α1 : Sort u1} {α2 : Sort u2} {A1 A2 A3 A4 A5 : α1 → α2 → Prop} {G : Prop} (h : ∃ x1 x2, A1 x1 x2 ∧ A2 x1 x2 ∧ A3 x1 x2 ∧ A4 x1 x2 ∧ A5 x1 x2) (k : ∀ x1 x2, A1 x1 x2 → A2 x1 x2 → A3 x1 x2 → A4 x1 x2 → A5 x1 x2 → G) : G := h.elim fun x1 h => h.elim fun x2 h => k x1 x2 h.1 h.2.1 h.2.2.1 h.2.2.2.1 h.2.2.2.2
theorem xe2_6.{u1, u2} {α1 : Sort u1} {α2 : Sort u2} {A1 A2 A3 A4 A5 A6 : α1 → α2 → Prop} {G : Prop} (h : ∃ x1 x2, A1 x1 x2 ∧ A2 x1 x2 ∧ A3 x1 x2 ∧ A4 x1 x2 ∧ A5 x1 x2 ∧ A6 x1 x2) (k : ∀ x1 x2, A1 x1 x2 → A2 x1 x2 → A3 x1 x2 → A4 x1 x2 → A5 x1 x2 → A6 x1 x2 → G) : G := h.elim fun x1 h => h.elim fun x2 h => k x1 x2 h.1 h.2.1 h.2.2.1 h.2.2.2.1 h.2.2.2.2.1 h.2.2.2.2.2
theorem xe2_7.{u1, u2} {α1 : Sort u1} {α2 : Sort u2} {A1 A2 A3 A4 A5 A6 A7 : α1 → α2 → Prop} {G : Prop} (h : ∃ x1 x2, A1 x1 x2 ∧ A2 x1 x2 ∧ A3 x1 x2 ∧ A4 x1 x2 ∧ A5 x1 x2 ∧ A6 x1 x2 ∧ A7 x1 x2) (k : ∀ x1 x2, A1 x1 x2 → A2 x1 x2 → A3 x1 x2 → A4 x1 x2 → A5 x1 x2 → A6 x1 x2 → A7 x1 x2 → G) : G := h.elim fun x1 h => h.elim fun x2 h => k x1 x2 h.1 h.2.1 h.2.2.1 h.2.2.2.1 h.2.2.2.2.1 h.2.2.2.2.2.1 h.2.2.2.2.2.2
theorem xe2_8.{u1, u2} {α1 : Sort u1} {α2 : Sort u2} {A1 A2 A3 A4 A5 A6 A7 A8 : α1 → α2 → Prop} {G : Prop} (h : ∃ x1 x2, A1 x1 x2 ∧ A2 x1 x2 ∧ A3 x1 x2 ∧ A4 x1 x2 ∧ A5 x1 x2 ∧ A6 x1 x2 ∧ A7 x1 x2 ∧ A8 x1 x2) (k : ∀ x1 x2, A1 x1 x2 → A2 x1 x2 → A3 x1 x2 → A4 x1 x2 → A5 x1 x2 → A6 x1 x2 → A7 x1 x2 → A8 x1 x2 → G) : G := h.elim fun x1 h => h.elim fun x2 h => k x1 x2 h.1 h.2.1 h.2.2.1 h.2.2.2.1 h.2.2.2.2.1 h.2.2.2.2.2.1 h.2.2.2.2.2.2.1 h.2.2.2.2.2.2.2
theorem xe2_9.{u1, u2} {α1 : Sort u1} {α2 : Sort u2} {A1 A2 A3 A4 A5 A6 A7 A8 A9 : α1 → α2 → Prop} {G : Prop} (h : ∃ x1 x2, A1 x1 x2 ∧ A2 x1 x2 ∧ A3 x1 x2 ∧ A4 x1 x2 ∧ A5 x1 x2 ∧ A6 x1 x2 ∧ A7 x1 x2 ∧ A8 x1 x2 ∧ A9 x1 x2) (k : ∀ x1 x2, A1 x1 x2 → A2 x1 x2 → A3 x1 x2 → A4 x1 x2 → A5 x1 x2 → A6 x1 x2 → A7 x1 x2 → A8 x1 x2 → A9 x1 x2 → G) : G := h.elim fun x1 h => h.elim fun x2 h => k x1 x2 h.1 h.2.1 h.2.2.1 h.2.2.2.1 h.2.2.2.2.1 h.2.2.2.2.2.1 h.2.2.2.2.2.2.1 h.2.2.2.2.2.2.2.1 h.2.2.2.2.2.2.2.2
theorem xe2_10.{u1, u2} {α1 : Sort u1} {α2 : Sort u2} {A1 A2 A3 A4 A5 A6 A7 A8 A9 A10 : α1 → α2 → Prop} {G : Prop} (h : ∃ x1 x2, A1 x1 x2 ∧ A2 x1 x2 ∧ A3 x1 x2 ∧ A4 x1 x2 ∧ A5 x1 x2 ∧ A6 x1 x2 ∧ A7 x1 x2 ∧ A8 x1 x2 ∧ A9 x1 x2 ∧ A10 x1 x2) (k : ∀ x1 x2, A1 x1 x2 → A2 x1 x2 → A3 x1 x2 → A4 x1 x2 → A5 x1 x2 → A6 x1 x2 → A7 x1 x2 → A8 x1 x2 → A9 x1 x2 → A10 x1 x2 → G) : G := h.elim fun x1 h => h.elim fun x2 h => k x1 x2 h.1 h.2.1 h.2.2.1 h.2.2.2.1 h.2.2.2.2.1 h.2.2.2.2.2.1 h.2.2.2.2.2.2.1 h.2.2.2.2.2.2.2.1 h.2.2.2.2.2.2.2.2.1 h.2.2.2.2.2.2.2.2.2
theorem xe3_1.{u1, u2, u3} {α1 : Sort u1} {α2 : Sort u2} {α3 : Sort u3} {A1 : α1 → α2 → α3 → Prop} {G : Prop} (h : ∃ x1 x2 x3, A1 x1 x2 x3) (k : ∀ x1 x2 x3, A1 x1 x2 x3 → G) : G := h.elim fun x1 h => h.elim fun x2 h => h.elim fun x3 h => k x1 x2 x3 h
theorem xe3_2.{u1, u2, u3} {α1 : Sort u1} {α2 : Sort u2} {α3 : Sort u3} {A1 A2 : α1 → α2 → α3 → Prop} {G : Prop} (h : ∃ x1 x2 x3, A1 x1 x2 x3 ∧ A2 x1 x2 x3) (k : ∀ x1 x2 x3, A1 x1 x2 x3 → A2 x1 x2 x3 → G) : G := h.elim fun x1 h => h.elim fun x2 h => h.elim fun x3 h => k x1 x2 x3 h.1 h.2
theorem xe3_3.{u1, u2, u3} {α1 : Sort u1} {α2 : Sort u2} {α3 : Sort u3} {A1 A2 A3 : α1 → α2 → α3 → Prop} {G : Prop} (h : ∃ x1 x2 x3, A1 x1 x2 x3 ∧ A2 x1 x2 x3 ∧ A3 x1 x2 x3) (k : ∀ x1 x2 x3, A1 x1 x2 x3 → A2 x1 x2 x3 → A3 x1 x2 x3 → G) : G := h.elim fun x1 h => h.elim fun x2 h => h.elim fun x3 h => k x1 x2 x3 h.1 h.2.1 h.2.2
theorem xe3_4.{u1, u2, u3} {α1 : Sort u1} {α2 : Sort u2} {α3 : Sort u3} {A1 A2 A3 A4 : α1 → α2 → α3 → Prop} {G : Prop} (h : ∃ x1 x2 x3, A1 x1 x2 x3 ∧ A2 x1 x2 x3 ∧ A3 x1 x2 x3 ∧ A4 x1 x2 x3) (k : ∀ x1 x2 x3, A1 x1 x2 x3 → A2 x1 x2 x3 → A3 x1 x2 x3 → A4 x1 x2 x3 → G) : G := h.elim fun x1 h => h.elim fun x2 h => h.elim fun x3 h => k x1 x2 x3 h.1 h.2.1 h.2.2.1 h.2.2.2
theorem xe3_5.{u1, u2, u3} {α1 : Sort u1} {α2 : Sort u2} {α3 : Sort u3} {A1 A2 A3 A4 A5 : α1 → α2 → α3 → Prop} {G : Prop} (h : ∃ x1 x2 x3, A1 x1 x2 x3 ∧ A2 x1 x2 x3 ∧ A3 x1 x2 x3 ∧ A4 x1 x2 x3 ∧ A5 x1 x2 x3) (k : ∀ x1 x2 x3, A1 x1 x2 x3 → A2 x1 x2 x3 → A3 x1 x2 x3 → A4 x1 x2 x3 → A5 x1 x2 x3 → G) : G := h.elim fun x1 h => h.elim fun x2 h => h.elim fun x3 h => k x1 x2 x3 h.1 h.2.1 h.2.2.1 h.2.2.2.1 h.2.2.2.2
theorem xe3_6.{u1, u2, u3} {α1 : Sort u1} {α2 : Sort u2} {α3 : Sort u3} {A1 A2 A3 A4 A5 A6 : α1 → α2 → α3 → Prop} {G : Prop} (h : ∃ x1 x2 x3, A1 x1 x2 x3 ∧ A2 x1 x2 x3 ∧ A3 x1 x2 x3 ∧ A4 x1 x2 x3 ∧ A5 x1 x2 x3 ∧ A6 x1 x2 x3) (k : ∀ x1 x2 x3, A1 x1 x2 x3 → A2 x1 x2 x3 → A3 x1 x2 x3 → A4 x1 x2 x3 → A5 x1 x2 x3 → A6 x1 x2 x3 → G) : G := h.elim fun x1 h => h.elim fun x2 h => h.elim fun x3 h => k x1 x2 x3 h.1 h.2.1 h.2.2.1 h.2.2.2.1 h.2.2.2.2.1 h.2.2.2.2.2
theorem xe3_7.{u1, u2, u3} {α1 : Sort u1} {α2 : Sort u2} {α3 : Sort u3} {A1 A2 A3 A4 A5 A6 A7 : α1 → α2 → α3 → Prop} {G : Prop} (h : ∃ x1 x2 x3, A1 x1 x2 x3 ∧ A2 x1 x2 x3 ∧ A3 x1 x2 x3 ∧ A4 x1 x2 x3 ∧ A5 x1 x2 x3 ∧ A6 x1 x2 x3 ∧ A7 x1 x2 x3) (k : ∀ x1 x2 x3, A1 x1 x2 x3 → A2 x1 x2 x3 → A3 x1 x2 x3 → A4 x1 x2 x3 → A5 x1 x2 x3 → A6 x1 x2 x3 → A7 x1 x2 x3 → G) : G := h.elim fun x1 h => h.elim fun x2 h => h.elim fun x3 h => k x1 x2 x3 h.1 h.2.1 h.2.2.1 h.2.2.2.1 h.2.2.2.2.1 h.2.2.2.2.2.1 h.2.2.2.2.2.2
theorem xe3_8.{u1, u2, u3} {α1 : Sort u1} {α2 : Sort u2} {α3 : Sort u3} {A1 A2 A3 A4 A5 A6 A7 A8 : α1 → α2 → α3 → Prop} {G : Prop} (h : ∃ x1 x2 x3, A1 x1 x2 x3 ∧ A2 x1 x2 x3 ∧ A3 x1 x2 x3 ∧ A4 x1 x2 x3 ∧ A5 x1 x2 x3 ∧ A6 x1 x2 x3 ∧ A7 x1 x2 x3 ∧ A8 x1 x2 x3) (k : ∀ x1 x2 x3, A1 x1 x2 x3 → A2 x1 x2 x3 → A3 x1 x2 x3 → A4 x1 x2 x3 → A5 x1 x2 x3 → A6 x1 x2 x3 → A7 x1 x2 x3 → A8 x1 x2 x3 → G) : G := h.elim fun x1 h => h.elim fun x2 h => h.elim fun x3 h => k x1 x2 x3 h.1 h.2.1 h.2.2.1 h.2.2.2.1 h.2.2.2.2.1 h.2.2.2.2.2.1 h.2.2.2.2.2.2.1 h.2.2.2.2.2.2.2
theorem xe3_9.{u1, u2, u3} {α1 : Sort u1} {α2 : Sort u2} {α3 : Sort u3} {A1 A2 A3 A4 A5 A6 A7 A8 A9 : α1 → α2 → α3 → Prop} {G : Prop} (h : ∃ x1 x2 x3, A1 x1 x2 x3 ∧ A2 x1 x2 x3 ∧ A3 x1 x2 x3 ∧ A4 x1 x2 x3 ∧ A5 x1 x2 x3 ∧ A6 x1 x2 x3 ∧ A7 x1 x2 x3 ∧ A8 x1 x2 x3 ∧ A9 x1 x2 x3) (k : ∀ x1 x2 x3, A1 x1 x2 x3 → A2 x1 x2 x3 → A3 x1 x2 x3 → A4 x1 x2 x3 → A5 x1 x2 x3 → A6 x1 x2 x3 → A7 x1 x2 x3 → A8 x1 x2 x3 → A9 x1 x2 x3 → G) : G := h.elim fun x1 h => h.elim fun x2 h => h.elim fun x3 h => k x1 x2 x3 h.1 h.2.1 h.2.2.1 h.2.2.2.1 h.2.2.2.2.1 h.2.2.2.2.2.1 h.2.2.2.2.2.2.1 h.2.2.2.2.2.2.2.1 h.2.2.2.2.2.2.2.2
theorem xe3_10.{u1, u2, u3} {α1 : Sort u1} {α2 : Sort u2} {α3 : Sort u3} {A1 A2 A3 A4 A5 A6 A7 A8 A9 A10 : α1 → α2 → α3 → Prop} {G : Prop} (h : ∃ x1 x2 x3, A1 x1 x2 x3 ∧ A2 x1 x2 x3 ∧ A3 x1 x2 x3 ∧ A4 x1 x2 x3 ∧ A5 x1 x2 x3 ∧ A6 x1 x2 x3 ∧ A7 x1 x2 x3 ∧ A8 x1 x2 x3 ∧ A9 x1 x2 x3 ∧ A10 x1 x2 x3) (k : ∀ x1 x2 x3, A1 x1 x2 x3 → A2 x1 x2 x3 → A3 x1 x2 x3 → A4 x1 x2 x3 → A5 x1 x2 x3 → A6 x1 x2 x3 → A7 x1 x2 x3 → A8 x1 x2 x3 → A9 x1 x2 x3 → A10 x1 x2 x3 → G) : G := h.elim fun x1 h => h.elim fun x2 h => h.elim fun x3 h => k x1 x2 x3 h.1 h.2.1 h.2.2.1 h.2.2.2.1 h.2.2.2.2.1 h.2.2.2.2.2.1 h.2.2.2.2.2.2.1 h.2.2.2.2.2.2.2.1 h.2.2.2.2.2.2.2.2.1 h.2.2.2.2.2.2.2.2.2
theorem xe4_1.{u1, u2, u3, u4} {α1 : Sort u1} {α2 : Sort u2} {α3 : Sort u3} {α4 : Sort u4} {A1 : α1 → α2 → α3 → α4 → Prop} {G : Prop} (h : ∃ x1 x2 x3 x4, A1 x1 x2 x3 x4) (k : ∀ x1 x2 x3 x4, A1 x1 x2 x3 x4 → G) : G := h.elim fun x1 h => h.elim fun x2 h => h.elim fun x3 h => h.elim fun x4 h => k x1 x2 x3 x4 h
theorem xe4_2.{u1, u2, u3, u4} {α1 : Sort u1} {α2 : Sort u2} {α3 : Sort u3} {α4 : Sort u4} {A1 A2 : α1 → α2 → α3 → α4 → Prop} {G : Prop} (h : ∃ x1 x2 x3 x4, A1 x1 x2 x3 x4 ∧ A2 x1 x2 x3 x4) (k : ∀ x1 x2 x3 x4, A1 x1 x2 x3 x4 → A2 x1 x2 x3 x4 → G) : G := h.elim fun x1 h => h.elim fun x2 h => h.elim fun x3 h => h.elim fun x4 h => k x1 x2 x3 x4 h.1 h.2
theorem xe4_3.{u1, u2, u3, u4} {α1 : Sort u1} {α2 : Sort u2} {α3 : Sort u3} {α4 : Sort u4} {A1 A2 A3 : α1 → α2 → α3 → α4 → Prop} {G : Prop} (h : ∃ x1 x2 x3 x4, A1 x1 x2 x3 x4 ∧ A2 x1 x2 x3 x4 ∧ A3 x1 x2 x3 x4) (k : ∀ x1 x2 x3 x4, A1 x1 x2 x3 x4 → A2 x1 x2 x3 x4 → A3 x1 x2 x3 x4 → G) : G := h.elim fun x1 h => h.elim fun x2 h => h.elim fun x3 h => h.elim fun x4 h => k x1 x2 x3 x4 h.1 h.2.1 h.2.2
theorem xe4_4.{u1, u2, u3, u4} {α1 : Sort u1} {α2 : Sort u2} {α3 : Sort u3} {α4 : Sort u4} {A1 A2 A3 A4 : α1 → α2 → α3 → α4 → Prop} {G : Prop} (h : ∃ x1 x2 x3 x4, A1 x1 x2 x3 x4 ∧ A2 x1 x2 x3 x4 ∧ A3 x1 x2 x3 x4 ∧ A4 x1 x2 x3 x4) (k : ∀ x1 x2 x3 x4, A1 x1 x2 x3 x4 → A2 x1 x2 x3 x4 → A3 x1 x2 x3 x4 → A4 x1 x2 x3 x4 → G) : G := h.elim fun x1 h => h.elim fun x2 h => h.elim fun x3 h => h.elim fun x4 h => k x1 x2 x3 x4 h.1 h.2.1 h.2.2.1 h.2.2.2
theorem xe4_5.{u1, u2, u3, u4} {α1 : Sort u1} {α2 : Sort u2} {α3 : Sort u3} {α4 : Sort u4} {A1 A2 A3 A4 A5 : α1 → α2 → α3 → α4 → Prop} {G : Prop} (h : ∃ x1 x2 x3 x4, A1 x1 x2 x3 x4 ∧ A2 x1 x2 x3 x4 ∧ A3 x1 x2 x3 x4 ∧ A4 x1 x2 x3 x4 ∧ A5 x1 x2 x3 x4) (k : ∀ x1 x2 x3 x4, A1 x1 x2 x3 x4 → A2 x1 x2 x3 x4 → A3 x1 x2 x3 x4 → A4 x1 x2 x3 x4 → A5 x1 x2 x3 x4 → G) : G := h.elim fun x1 h => h.elim fun x2 h => h.elim fun x3 h => h.elim fun x4 h => k x1 x2 x3 x4 h.1 h.2.1 h.2.2.1 h.2.2.2.1 h.2.2.2.2
theorem xe4_6.{u1, u2, u3, u4} {α1 : Sort u1} {α2 : Sort u2} {α3 : Sort u3} {α4 : Sort u4} {A1 A2 A3 A4 A5 A6 : α1 → α2 → α3 → α4 → Prop} {G : Prop} (h : ∃ x1 x2 x3 x4, A1 x1 x2 x3 x4 ∧ A2 x1 x2 x3 x4 ∧ A3 x1 x2 x3 x4 ∧ A4 x1 x2 x3 x4 ∧ A5 x1 x2 x3 x4 ∧ A6 x1 x2 x3 x4) (k : ∀ x1 x2 x3 x4, A1 x1 x2 x3 x4 → A2 x1 x2 x3 x4 → A3 x1 x2 x3 x4 → A4 x1 x2 x3 x4 → A5 x1 x2 x3 x4 → A6 x1 x2 x3 x4 → G) : G := h.elim fun x1 h => h.elim fun x2 h => h.elim fun x3 h => h.elim fun x4 h => k x1 x2 x3 x4 h.1 h.2.1 h.2.2.1 h.2.2.2.1 h.2.2.2.2.1 h.2.2.2.2.2
theorem xe4_7.{u1, u2, u3, u4} {α1 : Sort u1} {α2 : Sort u2} {α3 : Sort u3} {α4 : Sort u4} {A1 A2 A3 A4 A5 A6 A7 : α1 → α2 → α3 → α4 → Prop} {G : Prop} (h : ∃ x1 x2 x3 x4, A1 x1 x2 x3 x4 ∧ A2 x1 x2 x3 x4 ∧ A3 x1 x2 x3 x4 ∧ A4 x1 x2 x3 x4 ∧ A5 x1 x2 x3 x4 ∧ A6 x1 x2 x3 x4 ∧ A7 x1 x2 x3 x4) (k : ∀ x1 x2 x3 x4, A1 x1 x2 x3 x4 → A2 x1 x2 x3 x4 → A3 x1 x2 x3 x4 → A4 x1 x2 x3 x4 → A5 x1 x2 x3 x4 → A6 x1 x2 x3 x4 → A7 x1 x2 x3 x4 → G) : G := h.elim fun x1 h => h.elim fun x2 h => h.elim fun x3 h => h.elim fun x4 h => k x1 x2 x3 x4 h.1 h.2.1 h.2.2.1 h.2.2.2.1 h.2.2.2.2.1 h.2.2.2.2.2.1 h.2.2.2.2.2.2
theorem xe4_8.{u1, u2, u3, u4} {α1 : Sort u1} {α2 : Sort u2} {α3 : Sort u3} {α4 : Sort u4} {A1 A2 A3 A4 A5 A6 A7 A8 : α1 → α2 → α3 → α4 → Prop} {G : Prop} (h : ∃ x1 x2 x3 x4, A1 x1 x2 x3 x4 ∧ A2 x1 x2 x3 x4 ∧ A3 x1 x2 x3 x4 ∧ A4 x1 x2 x3 x4 ∧ A5 x1 x2 x3 x4 ∧ A6 x1 x2 x3 x4 ∧ A7 x1 x2 x3 x4 ∧ A8 x1 x2 x3 x4) (k : ∀ x1 x2 x3 x4, A1 x1 x2 x3 x4 → A2 x1 x2 x3 x4 → A3 x1 x2 x3 x4 → A4 x1 x2 x3 x4 → A5 x1 x2 x3 x4 → A6 x1 x2 x3 x4 → A7 x1 x2 x3 x4 → A8 x1 x2 x3 x4 → G) : G := h.elim fun x1 h => h.elim fun x2 h => h.elim fun x3 h => h.elim fun x4 h => k x1 x2 x3 x4 h.1 h.2.1 h.2.2.1 h.2.2.2.1 h.2.2.2.2.1 h.2.2.2.2.2.1 h.2.2.2.2.2.2.1 h.2.2.2.2.2.2.2
theorem xe4_9.{u1, u2, u3, u4} {α1 : Sort u1} {α2 : Sort u2} {α3 : Sort u3} {α4 : Sort u4} {A1 A2 A3 A4 A5 A6 A7 A8 A9 : α1 → α2 → α3 → α4 → Prop} {G : Prop} (h : ∃ x1 x2 x3 x4, A1 x1 x2 x3 x4 ∧ A2 x1 x2 x3 x4 ∧ A3 x1 x2 x3 x4 ∧ A4 x1 x2 x3 x4 ∧ A5 x1 x2 x3 x4 ∧ A6 x1 x2 x3 x4 ∧ A7 x1 x2 x3 x4 ∧ A8 x1 x2 x3 x4 ∧ A9 x1 x2 x3 x4) (k : ∀ x1 x2 x3 x4, A1 x1 x2 x3 x4 → A2 x1 x2 x3 x4 → A3 x1 x2 x3 x4 → A4 x1 x2 x3 x4 → A5 x1 x2 x3 x4 → A6 x1 x2 x3 x4 → A7 x1 x2 x3 x4 → A8 x1 x2 x3 x4 → A9 x1 x2 x3 x4 → G) : G := h.elim fun x1 h => h.elim fun x2 h => h.elim fun x3 h => h.elim fun x4 h => k x1 x2 x3 x4 h.1 h.2.1 h.2.2.1 h.2.2.2.1 h.2.2.2.2.1 h.2.2.2.2.2.1 h.2.2.2.2.2.2.1 h.2.2.2.2.2.2.2.1 h.2.2.2.2.2.2.2.2
theorem xe4_10.{u1, u2, u3, u4} {α1 : Sort u1} {α2 : Sort u2} {α3 : Sort u3} {α4 : Sort u4} {A1 A2 A3 A4 A5 A6 A7 A8 A9 A10 : α1 → α2 → α3 → α4 → Prop} {G : Prop} (h : ∃ x1 x2 x3 x4, A1 x1 x2 x3 x4 ∧ A2 x1 x2 x3 x4 ∧ A3 x1 x2 x3 x4 ∧ A4 x1 x2 x3 x4 ∧ A5 x1 x2 x3 x4 ∧ A6 x1 x2 x3 x4 ∧ A7 x1 x2 x3 x4 ∧ A8 x1 x2 x3 x4 ∧ A9 x1 x2 x3 x4 ∧ A10 x1 x2 x3 x4) (k : ∀ x1 x2 x3 x4, A1 x1 x2 x3 x4 → A2 x1 x2 x3 x4 → A3 x1 x2 x3 x4 → A4 x1 x2 x3 x4 → A5 x1 x2 x3 x4 → A6 x1 x2 x3 x4 → A7 x1 x2 x3 x4 → A8 x1 x2 x3 x4 → A9 x1 x2 x3 x4 → A10 x1 x2 x3 x4 → G) : G := h.elim fun x1 h => h.elim fun x2 h => h.elim fun x3 h => h.elim fun x4 h => k x1 x2 x3 x4 h.1 h.2.1 h.2.2.1 h.2.2.2.1 h.2.2.2.2.1 h.2.2.2.2.2.1 h.2.2.2.2.2.2.1 h.2.2.2.2.2.2.2.1 h.2.2.2.2.2.2.2.2.1 h.2.2.2.2.2.2.2.2.2
theorem xe5_1.{u1, u2, u3, u4, u5} {α1 : Sort u1} {α2 : Sort u2} {α3 : Sort u3} {α4 : Sort u4} {α5 : Sort u5} {A1 : α1 → α2 → α3 → α4 → α5 → Prop} {G : Prop} (h : ∃ x1 x2 x3 x4 x5, A1 x1 x2 x3 x4 x5) (k : ∀ x1 x2 x3 x4 x5, A1 x1 x2 x3 x4 x5 → G) : G := h.elim fun x1 h => h.elim fun x2 h => h.elim fun x3 h => h.elim fun x4 h => h.elim fun x5 h => k x1 x2 x3 x4 x5 h
theorem xe5_2.{u1, u2, u3, u4, u5} {α1 : Sort u1} {α2 : Sort u2} {α3 : Sort u3} {α4 : Sort u4} {α5 : Sort u5} {A1 A2 : α1 → α2 → α3 → α4 → α5 → Prop} {G : Prop} (h : ∃ x1 x2 x3 x4 x5, A1 x1 x2 x3 x4 x5 ∧ A2 x1 x2 x3 x4 x5) (k : ∀ x1 x2 x3 x4 x5, A1 x1 x2 x3 x4 x5 → A2 x1 x2 x3 x4 x5 → G) : G := h.elim fun x1 h => h.elim fun x2 h => h.elim fun x3 h => h.elim fun x4 h => h.elim fun x5 h => k x1 x2 x3 x4 x5 h.1 h.2
theorem xe5_3.{u1, u2, u3, u4, u5} {α1 : Sort u1} {α2 : Sort u2} {α3 : Sort u3} {α4 : Sort u4} {α5 : Sort u5} {A1 A2 A3 : α1 → α2 → α3 → α4 → α5 → Prop} {G : Prop} (h : ∃ x1 x2 x3 x4 x5, A1 x1 x2 x3 x4 x5 ∧ A2 x1 x2 x3 x4 x5 ∧ A3 x1 x2 x3 x4 x5) (k : ∀ x1 x2 x3 x4 x5, A1 x1 x2 x3 x4 x5 → A2 x1 x2 x3 x4 x5 → A3 x1 x2 x3 x4 x5 → G) : G := h.elim fun x1 h => h.elim fun x2 h => h.elim fun x3 h => h.elim fun x4 h => h.elim fun x5 h => k x1 x2 x3 x4 x5 h.1 h.2.1 h.2.2
theorem xe5_4.{u1, u2, u3, u4, u5} {α1 : Sort u1} {α2 : Sort u2} {α3 : Sort u3} {α4 : Sort u4} {α5 : Sort u5} {A1 A2 A3 A4 : α1 → α2 → α3 → α4 → α5 → Prop} {G : Prop} (h : ∃ x1 x2 x3 x4 x5, A1 x1 x2 x3 x4 x5 ∧ A2 x1 x2 x3 x4 x5 ∧ A3 x1 x2 x3 x4 x5 ∧ A4 x1 x2 x3 x4 x5) (k : ∀ x1 x2 x3 x4 x5, A1 x1 x2 x3 x4 x5 → A2 x1 x2 x3 x4 x5 → A3 x1 x2 x3 x4 x5 → A4 x1 x2 x3 x4 x5 → G) : G := h.elim fun x1 h => h.elim fun x2 h => h.elim fun x3 h => h.elim fun x4 h => h.elim fun x5 h => k x1 x2 x3 x4 x5 h.1 h.2.1 h.2.2.1 h.2.2.2
theorem xe5_5.{u1, u2, u3, u4, u5} {α1 : Sort u1} {α2 : Sort u2} {α3 : Sort u3} {α4 : Sort u4} {α5 : Sort u5} {A1 A2 A3 A4 A5 : α1 → α2 → α3 → α4 → α5 → Prop} {G : Prop} (h : ∃ x1 x2 x3 x4 x5, A1 x1 x2 x3 x4 x5 ∧ A2 x1 x2 x3 x4 x5 ∧ A3 x1 x2 x3 x4 x5 ∧ A4 x1 x2 x3 x4 x5 ∧ A5 x1 x2 x3 x4 x5) (k : ∀ x1 x2 x3 x4 x5, A1 x1 x2 x3 x4 x5 → A2 x1 x2 x3 x4 x5 → A3 x1 x2 x3 x4 x5 → A4 x1 x2 x3 x4 x5 → A5 x1 x2 x3 x4 x5 → G) : G := h.elim fun x1 h => h.elim fun x2 h => h.elim fun x3 h => h.elim fun x4 h => h.elim fun x5 h => k x1 x2 x3 x4 x5 h.1 h.2.1 h.2.2.1 h.2.2.2.1 h.2.2.2.2
theorem xe5_6.{u1, u2, u3, u4, u5} {α1 : Sort u1} {α2 : Sort u2} {α3 : Sort u3} {α4 : Sort u4} {α5 : Sort u5} {A1 A2 A3 A4 A5 A6 : α1 → α2 → α3 → α4 → α5 → Prop} {G : Prop} (h : ∃ x1 x2 x3 x4 x5, A1 x1 x2 x3 x4 x5 ∧ A2 x1 x2 x3 x4 x5 ∧ A3 x1 x2 x3 x4 x5 ∧ A4 x1 x2 x3 x4 x5 ∧ A5 x1 x2 x3 x4 x5 ∧ A6 x1 x2 x3 x4 x5) (k : ∀ x1 x2 x3 x4 x5, A1 x1 x2 x3 x4 x5 → A2 x1 x2 x3 x4 x5 → A3 x1 x2 x3 x4 x5 → A4 x1 x2 x3 x4 x5 → A5 x1 x2 x3 x4 x5 → A6 x1 x2 x3 x4 x5 → G) : G := h.elim fun x1 h => h.elim fun x2 h => h.elim fun x3 h => h.elim fun x4 h => h.elim fun x5 h => k x1 x2 x3 x4 x5 h.1 h.2.1 h.2.2.1 h.2.2.2.1 h.2.2.2.2.1 h.2.2.2.2.2
theorem xe5_7.{u1, u2, u3, u4, u5} {α1 : Sort u1} {α2 : Sort u2} {α3 : Sort u3} {α4 : Sort u4} {α5 : Sort u5} {A1 A2 A3 A4 A5 A6 A7 : α1 → α2 → α3 → α4 → α5 → Prop} {G : Prop} (h : ∃ x1 x2 x3 x4 x5, A1 x1 x2 x3 x4 x5 ∧ A2 x1 x2 x3 x4 x5 ∧ A3 x1 x2 x3 x4 x5 ∧ A4 x1 x2 x3 x4 x5 ∧ A5 x1 x2 x3 x4 x5 ∧ A6 x1 x2 x3 x4 x5 ∧ A7 x1 x2 x3 x4 x5) (k : ∀ x1 x2 x3 x4 x5, A1 x1 x2 x3 x4 x5 → A2 x1 x2 x3 x4 x5 → A3 x1 x2 x3 x4 x5 → A4 x1 x2 x3 x4 x5 → A5 x1 x2 x3 x4 x5 → A6 x1 x2 x3 x4 x5 → A7 x1 x2 x3 x4 x5 → G) : G := h.elim fun x1 h => h.elim fun x2 h => h.elim fun x3 h => h.elim fun x4 h => h.elim fun x5 h => k x1 x2 x3 x4 x5 h.1 h.2.1 h.2.2.1 h.2.2.2.1 h.2.2.2.2.1 h.2.2.2.2.2.1 h.2.2.2.2.2.2
theorem xe5_8.{u1, u2, u3, u4, u5} {α1 : Sort u1} {α2 : Sort u2} {α3 : Sort u3} {α4 : Sort u4} {α5 : Sort u5} {A1 A2 A3 A4 A5 A6 A7 A8 : α1 → α2 → α3 → α4 → α5 → Prop} {G : Prop} (h : ∃ x1 x2 x3 x4 x5, A1 x1 x2 x3 x4 x5 ∧ A2 x1 x2 x3 x4 x5 ∧ A3 x1 x2 x3 x4 x5 ∧ A4 x1 x2 x3 x4 x5 ∧ A5 x1 x2 x3 x4 x5 ∧ A6 x1 x2 x3 x4 x5 ∧ A7 x1 x2 x3 x4 x5 ∧ A8 x1 x2 x3 x4 x5) (k : ∀ x1 x2 x3 x4 x5, A1 x1 x2 x3 x4 x5 → A2 x1 x2 x3 x4 x5 → A3 x1 x2 x3 x4 x5 → A4 x1 x2 x3 x4 x5 → A5 x1 x2 x3 x4 x5 → A6 x1 x2 x3 x4 x5 → A7 x1 x2 x3 x4 x5 → A8 x1 x2 x3 x4 x5 → G) : G := h.elim fun x1 h => h.elim fun x2 h => h.elim fun x3 h => h.elim fun x4 h => h.elim fun x5 h => k x1 x2 x3 x4 x5 h.1 h.2.1 h.2.2.1 h.2.2.2.1 h.2.2.2.2.1 h.2.2.2.2.2.1 h.2.2.2.2.2.2.1 h.2.2.2.2.2.2.2
theorem xe5_9.{u1, u2, u3, u4, u5} {α1 : Sort u1} {α2 : Sort u2} {α3 : Sort u3} {α4 : Sort u4} {α5 : Sort u5} {A1 A2 A3 A4 A5 A6 A7 A8 A9 : α1 → α2 → α3 → α4 → α5 → Prop} {G : Prop} (h : ∃ x1 x2 x3 x4 x5, A1 x1 x2 x3 x4 x5 ∧ A2 x1 x2 x3 x4 x5 ∧ A3 x1 x2 x3 x4 x5 ∧ A4 x1 x2 x3 x4 x5 ∧ A5 x1 x2 x3 x4 x5 ∧ A6 x1 x2 x3 x4 x5 ∧ A7 x1 x2 x3 x4 x5 ∧ A8 x1 x2 x3 x4 x5 ∧ A9 x1 x2 x3 x4 x5) (k : ∀ x1 x2 x3 x4 x5, A1 x1 x2 x3 x4 x5 → A2 x1 x2 x3 x4 x5 → A3 x1 x2 x3 x4 x5 → A4 x1 x2 x3 x4 x5 → A5 x1 x2 x3 x4 x5 → A6 x1 x2 x3 x4 x5 → A7 x1 x2 x3 x4 x5 → A8 x1 x2 x3 x4 x5 → A9 x1 x2 x3 x4 x5 → G) : G := h.elim fun x1 h => h.elim fun x2 h => h.elim fun x3 h => h.elim fun x4 h => h.elim fun x5 h => k x1 x2 x3 x4 x5 h.1 h.2.1 h.2.2.1 h.2.2.2.1 h.2.2.2.2.1 h.2.2.2.2.2.1 h.2.2.2.2.2.2.1 h.2.2.2.2.2.2.2.1 h.2.2.2.2.2.2.2.2
theorem xe6_1.{u1, u2, u3, u4, u5, u6} {α1 : Sort u1} {α2 : Sort u2} {α3 : Sort u3} {α4 : Sort u4} {α5 : Sort u5} {α6 : Sort u6} {A1 : α1 → α2 → α3 → α4 → α5 → α6 → Prop} {G : Prop} (h : ∃ x1 x2 x3 x4 x5 x6, A1 x1 x2 x3 x4 x5 x6) (k : ∀ x1 x2 x3 x4 x5 x6, A1 x1 x2 x3 x4 x5 x6 → G) : G := h.elim fun x1 h => h.elim fun x2 h => h.elim fun x3 h => h.elim fun x4 h => h.elim fun x5 h => h.elim fun x6 h => k x1 x2 x3 x4 x5 x6 h
theorem xe6_2.{u1, u2, u3, u4, u5, u6} {α1 : Sort u1} {α2 : Sort u2} {α3 : Sort u3} {α4 : Sort u4} {α5 : Sort u5} {α6 : Sort u6} {A1 A2 : α1 → α2 → α3 → α4 → α5 → α6 → Prop} {G : Prop} (h : ∃ x1 x2 x3 x4 x5 x6, A1 x1 x2 x3 x4 x5 x6 ∧ A2 x1 x2 x3 x4 x5 x6) (k : ∀ x1 x2 x3 x4 x5 x6, A1 x1 x2 x3 x4 x5 x6 → A2 x1 x2 x3 x4 x5 x6 → G) : G := h.elim fun x1 h => h.elim fun x2 h => h.elim fun x3 h => h.elim fun x4 h => h.elim fun x5 h => h.elim fun x6 h => k x1 x2 x3 x4 x5 x6 h.1 h.2
theorem xe6_3.{u1, u2, u3, u4, u5, u6} {α1 : Sort u1} {α2 : Sort u2} {α3 : Sort u3} {α4 : Sort u4} {α5 : Sort u5} {α6 : Sort u6} {A1 A2 A3 : α1 → α2 → α3 → α4 → α5 → α6 → Prop} {G : Prop} (h : ∃ x1 x2 x3 x4 x5 x6, A1 x1 x2 x3 x4 x5 x6 ∧ A2 x1 x2 x3 x4 x5 x6 ∧ A3 x1 x2 x3 x4 x5 x6) (k : ∀ x1 x2 x3 x4 x5 x6, A1 x1 x2 x3 x4 x5 x6 → A2 x1 x2 x3 x4 x5 x6 → A3 x1 x2 x3 x4 x5 x6 → G) : G := h.elim fun x1 h => h.elim fun x2 h => h.elim fun x3 h => h.elim fun x4 h => h.elim fun x5 h => h.elim fun x6 h => k x1 x2 x3 x4 x5 x6 h.1 h.2.1 h.2.2
theorem xe6_4.{u1, u2, u3, u4, u5, u6} {α1 : Sort u1} {α2 : Sort u2} {α3 : Sort u3} {α4 : Sort u4} {α5 : Sort u5} {α6 : Sort u6} {A1 A2 A3 A4 : α1 → α2 → α3 → α4 → α5 → α6 → Prop} {G : Prop} (h : ∃ x1 x2 x3 x4 x5 x6, A1 x1 x2 x3 x4 x5 x6 ∧ A2 x1 x2 x3 x4 x5 x6 ∧ A3 x1 x2 x3 x4 x5 x6 ∧ A4 x1 x2 x3 x4 x5 x6) (k : ∀ x1 x2 x3 x4 x5 x6, A1 x1 x2 x3 x4 x5 x6 → A2 x1 x2 x3 x4 x5 x6 → A3 x1 x2 x3 x4 x5 x6 → A4 x1 x2 x3 x4 x5 x6 → G) : G := h.elim fun x1 h => h.elim fun x2 h => h.elim fun x3 h => h.elim fun x4 h => h.elim fun x5 h => h.elim fun x6 h => k x1 x2 x3 x4 x5 x6 h.1 h.2.1 h.2.2.1 h.2.2.2
theorem xe6_5.{u1, u2, u3, u4, u5, u6} {α1 : Sort u1} {α2 : Sort u2} {α3 : Sort u3} {α4 : Sort u4} {α5 : Sort u5} {α6 : Sort u6} {A1 A2 A3 A4 A5 : α1 → α2 → α3 → α4 → α5 → α6 → Prop} {G : Prop} (h : ∃ x1 x2 x3 x4 x5 x6, A1 x1 x2 x3 x4 x5 x6 ∧ A2 x1 x2 x3 x4 x5 x6 ∧ A3 x1 x2 x3 x4 x5 x6 ∧ A4 x1 x2 x3 x4 x5 x6 ∧ A5 x1 x2 x3 x4 x5 x6) (k : ∀ x1 x2 x3 x4 x5 x6, A1 x1 x2 x3 x4 x5 x6 → A2 x1 x2 x3 x4 x5 x6 → A3 x1 x2 x3 x4 x5 x6 → A4 x1 x2 x3 x4 x5 x6 → A5 x1 x2 x3 x4 x5 x6 → G) : G := h.elim fun x1 h => h.elim fun x2 h => h.elim fun x3 h => h.elim fun x4 h => h.elim fun x5 h => h.elim fun x6 h => k x1 x2 x3 x4 x5 x6 h.1 h.2.1 h.2.2.1 h.2.2.2.1 h.2.2.2.2
theorem xe6_6.{u1, u2, u3, u4, u5, u6} {α1 : Sort u1} {α2 : Sort u2} {α3 : Sort u3} {α4 : Sort u4} {α5 : Sort u5} {α6 : Sort u6} {A1 A2 A3 A4 A5 A6 : α1 → α2 → α3 → α4 → α5 → α6 → Prop} {G : Prop} (h : ∃ x1 x2 x3 x4 x5 x6, A1 x1 x2 x3 x4 x5 x6 ∧ A2 x1 x2 x3 x4 x5 x6 ∧ A3 x1 x2 x3 x4 x5 x6 ∧ A4 x1 x2 x3 x4 x5 x6 ∧ A5 x1 x2 x3 x4 x5 x6 ∧ A6 x1 x2 x3 x4 x5 x6) (k : ∀ x1 x2 x3 x4 x5 x6, A1 x1 x2 x3 x4 x5 x6 → A2 x1 x2 x3 x4 x5 x6 → A3 x1 x2 x3 x4 x5 x6 → A4 x1 x2 x3 x4 x5 x6 → A5 x1 x2 x3 x4 x5 x6 → A6 x1 x2 x3 x4 x5 x6 → G) : G := h.elim fun x1 h => h.elim fun x2 h => h.elim fun x3 h => h.elim fun x4 h => h.elim fun x5 h => h.elim fun x6 h => k x1 x2 x3 x4 x5 x6 h.1 h.2.1 h.2.2.1 h.2.2.2.1 h.2.2.2.2.1 h.2.2.2.2.2
theorem xe6_7.{u1, u2, u3, u4, u5, u6} {α1 : Sort u1} {α2 : Sort u2} {α3 : Sort u3} {α4 : Sort u4} {α5 : Sort u5} {α6 : Sort u6} {A1 A2 A3 A4 A5 A6 A7 : α1 → α2 → α3 → α4 → α5 → α6 → Prop} {G : Prop} (h : ∃ x1 x2 x3 x4 x5 x6, A1 x1 x2 x3 x4 x5 x6 ∧ A2 x1 x2 x3 x4 x5 x6 ∧ A3 x1 x2 x3 x4 x5 x6 ∧ A4 x1 x2 x3 x4 x5 x6 ∧ A5 x1 x2 x3 x4 x5 x6 ∧ A6 x1 x2 x3 x4 x5 x6 ∧ A7 x1 x2 x3 x4 x5 x6) (k : ∀ x1 x2 x3 x4 x5 x6, A1 x1 x2 x3 x4 x5 x6 → A2 x1 x2 x3 x4 x5 x6 → A3 x1 x2 x3 x4 x5 x6 → A4 x1 x2 x3 x4 x5 x6 → A5 x1 x2 x3 x4 x5 x6 → A6 x1 x2 x3 x4 x5 x6 → A7 x1 x2 x3 x4 x5 x6 → G) : G := h.elim fun x1 h => h.elim fun x2 h => h.elim fun x3 h => h.elim fun x4 h => h.elim fun x5 h => h.elim fun x6 h => k x1 x2 x3 x4 x5 x6 h.1 h.2.1 h.2.2.1 h.2.2.2.1 h.2.2.2.2.1 h.2.2.2.2.2.1 h.2.2.2.2.2.2
theorem xe6_8.{u1, u2, u3, u4, u5, u6} {α1 : Sort u1} {α2 : Sort u2} {α3 : Sort u3} {α4 : Sort u4} {α5 : Sort u5} {α6 : Sort u6} {A1 A2 A3 A4 A5 A6 A7 A8 : α1 → α2 → α3 → α4 → α5 → α6 → Prop} {G : Prop} (h : ∃ x1 x2 x3 x4 x5 x6, A1 x1 x2 x3 x4 x5 x6 ∧ A2 x1 x2 x3 x4 x5 x6 ∧ A3 x1 x2 x3 x4 x5 x6 ∧ A4 x1 x2 x3 x4 x5 x6 ∧ A5 x1 x2 x3 x4 x5 x6 ∧ A6 x1 x2 x3 x4 x5 x6 ∧ A7 x1 x2 x3 x4 x5 x6 ∧ A8 x1 x2 x3 x4 x5 x6) (k : ∀ x1 x2 x3 x4 x5 x6, A1 x1 x2 x3 x4 x5 x6 → A2 x1 x2 x3 x4 x5 x6 → A3 x1 x2 x3 x4 x5 x6 → A4 x1 x2 x3 x4 x5 x6 → A5 x1 x2 x3 x4 x5 x6 → A6 x1 x2 x3 x4 x5 x6 → A7 x1 x2 x3 x4 x5 x6 → A8 x1 x2 x3 x4 x5 x6 → G) : G := h.elim fun x1 h => h.elim fun x2 h => h.elim fun x3 h => h.elim fun x4 h => h.elim fun x5 h => h.elim fun x6 h => k x1 x2 x3 x4 x5 x6 h.1 h.2.1 h.2.2.1 h.2.2.2.1 h.2.2.2.2.1 h.2.2.2.2.2.1 h.2.2.2.2.2.2.1 h.2.2.2.2.2.2.2
theorem xe7_1.{u1, u2, u3, u4, u5, u6, u7} {α1 : Sort u1} {α2 : Sort u2} {α3 : Sort u3} {α4 : Sort u4} {α5 : Sort u5} {α6 : Sort u6} {α7 : Sort u7} {A1 : α1 → α2 → α3 → α4 → α5 → α6 → α7 → Prop} {G : Prop} (h : ∃ x1 x2 x3 x4 x5 x6 x7, A1 x1 x2 x3 x4 x5 x6 x7) (k : ∀ x1 x2 x3 x4 x5 x6 x7, A1 x1 x2 x3 x4 x5 x6 x7 → G) : G := h.elim fun x1 h => h.elim fun x2 h => h.elim fun x3 h => h.elim fun x4 h => h.elim fun x5 h => h.elim fun x6 h => h.elim fun x7 h => k x1 x2 x3 x4 x5 x6 x7 h
theorem xe7_2.{u1, u2, u3, u4, u5, u6, u7} {α1 : Sort u1} {α2 : Sort u2} {α3 : Sort u3} {α4 : Sort u4} {α5 : Sort u5} {α6 : Sort u6} {α7 : Sort u7} {A1 A2 : α1 → α2 → α3 → α4 → α5 → α6 → α7 → Prop} {G : Prop} (h : ∃ x1 x2 x3 x4 x5 x6 x7, A1 x1 x2 x3 x4 x5 x6 x7 ∧ A2 x1 x2 x3 x4 x5 x6 x7) (k : ∀ x1 x2 x3 x4 x5 x6 x7, A1 x1 x2 x3 x4 x5 x6 x7 → A2 x1 x2 x3 x4 x5 x6 x7 → G) : G := h.elim fun x1 h => h.elim fun x2 h => h.elim fun x3 h => h.elim fun x4 h => h.elim fun x5 h => h.elim fun x6 h => h.elim fun x7 h => k x1 x2 x3 x4 x5 x6 x7 h.1 h.2
theorem xe7_3.{u1, u2, u3, u4, u5, u6, u7} {α1 : Sort u1} {α2 : Sort u2} {α3 : Sort u3} {α4 : Sort u4} {α5 : Sort u5} {α6 : Sort u6} {α7 : Sort u7} {A1 A2 A3 : α1 → α2 → α3 → α4 → α5 → α6 → α7 → Prop} {G : Prop} (h : ∃ x1 x2 x3 x4 x5 x6 x7, A1 x1 x2 x3 x4 x5 x6 x7 ∧ A2 x1 x2 x3 x4 x5 x6 x7 ∧ A3 x1 x2 x3 x4 x5 x6 x7) (k : ∀ x1 x2 x3 x4 x5 x6 x7, A1 x1 x2 x3 x4 x5 x6 x7 → A2 x1 x2 x3 x4 x5 x6 x7 → A3 x1 x2 x3 x4 x5 x6 x7 → G) : G := h.elim fun x1 h => h.elim fun x2 h => h.elim fun x3 h => h.elim fun x4 h => h.elim fun x5 h => h.elim fun x6 h => h.elim fun x7 h => k x1 x2 x3 x4 x5 x6 x7 h.1 h.2.1 h.2.2
theorem xe7_4.{u1, u2, u3, u4, u5, u6, u7} {α1 : Sort u1} {α2 : Sort u2} {α3 : Sort u3} {α4 : Sort u4} {α5 : Sort u5} {α6 : Sort u6} {α7 : Sort u7} {A1 A2 A3 A4 : α1 → α2 → α3 → α4 → α5 → α6 → α7 → Prop} {G : Prop} (h : ∃ x1 x2 x3 x4 x5 x6 x7, A1 x1 x2 x3 x4 x5 x6 x7 ∧ A2 x1 x2 x3 x4 x5 x6 x7 ∧ A3 x1 x2 x3 x4 x5 x6 x7 ∧ A4 x1 x2 x3 x4 x5 x6 x7) (k : ∀ x1 x2 x3 x4 x5 x6 x7, A1 x1 x2 x3 x4 x5 x6 x7 → A2 x1 x2 x3 x4 x5 x6 x7 → A3 x1 x2 x3 x4 x5 x6 x7 → A4 x1 x2 x3 x4 x5 x6 x7 → G) : G := h.elim fun x1 h => h.elim fun x2 h => h.elim fun x3 h => h.elim fun x4 h => h.elim fun x5 h => h.elim fun x6 h => h.elim fun x7 h => k x1 x2 x3 x4 x5 x6 x7 h.1 h.2.1 h.2.2.1 h.2.2.2
theorem xe7_5.{u1, u2, u3, u4, u5, u6, u7} {α1 : Sort u1} {α2 : Sort u2} {α3 : Sort u3} {α4 : Sort u4} {α5 : Sort u5} {α6 : Sort u6} {α7 : Sort u7} {A1 A2 A3 A4 A5 : α1 → α2 → α3 → α4 → α5 → α6 → α7 → Prop} {G : Prop} (h : ∃ x1 x2 x3 x4 x5 x6 x7, A1 x1 x2 x3 x4 x5 x6 x7 ∧ A2 x1 x2 x3 x4 x5 x6 x7 ∧ A3 x1 x2 x3 x4 x5 x6 x7 ∧ A4 x1 x2 x3 x4 x5 x6 x7 ∧ A5 x1 x2 x3 x4 x5 x6 x7) (k : ∀ x1 x2 x3 x4 x5 x6 x7, A1 x1 x2 x3 x4 x5 x6 x7 → A2 x1 x2 x3 x4 x5 x6 x7 → A3 x1 x2 x3 x4 x5 x6 x7 → A4 x1 x2 x3 x4 x5 x6 x7 → A5 x1 x2 x3 x4 x5 x6 x7 → G) : G := h.elim fun x1 h => h.elim fun x2 h => h.elim fun x3 h => h.elim fun x4 h => h.elim fun x5 h => h.elim fun x6 h => h.elim fun x7 h => k x1 x2 x3 x4 x5 x6 x7 h.1 h.2.1 h.2.2.1 h.2.2.2.1 h.2.2.2.2
theorem xe7_6.{u1, u2, u3, u4, u5, u6, u7} {α1 : Sort u1} {α2 : Sort u2} {α3 : Sort u3} {α4 : Sort u4} {α5 : Sort u5} {α6 : Sort u6} {α7 : Sort u7} {A1 A2 A3 A4 A5 A6 : α1 → α2 → α3 → α4 → α5 → α6 → α7 → Prop} {G : Prop} (h : ∃ x1 x2 x3 x4 x5 x6 x7, A1 x1 x2 x3 x4 x5 x6 x7 ∧ A2 x1 x2 x3 x4 x5 x6 x7 ∧ A3 x1 x2 x3 x4 x5 x6 x7 ∧ A4 x1 x2 x3 x4 x5 x6 x7 ∧ A5 x1 x2 x3 x4 x5 x6 x7 ∧ A6 x1 x2 x3 x4 x5 x6 x7) (k : ∀ x1 x2 x3 x4 x5 x6 x7, A1 x1 x2 x3 x4 x5 x6 x7 → A2 x1 x2 x3 x4 x5 x6 x7 → A3 x1 x2 x3 x4 x5 x6 x7 → A4 x1 x2 x3 x4 x5 x6 x7 → A5 x1 x2 x3 x4 x5 x6 x7 → A6 x1 x2 x3 x4 x5 x6 x7 → G) : G := h.elim fun x1 h => h.elim fun x2 h => h.elim fun x3 h => h.elim fun x4 h => h.elim fun x5 h => h.elim fun x6 h => h.elim fun x7 h => k x1 x2 x3 x4 x5 x6 x7 h.1 h.2.1 h.2.2.1 h.2.2.2.1 h.2.2.2.2.1 h.2.2.2.2.2
theorem xe7_7.{u1, u2, u3, u4, u5, u6, u7} {α1 : Sort u1} {α2 : Sort u2} {α3 : Sort u3} {α4 : Sort u4} {α5 : Sort u5} {α6 : Sort u6} {α7 : Sort u7} {A1 A2 A3 A4 A5 A6 A7 : α1 → α2 → α3 → α4 → α5 → α6 → α7 → Prop} {G : Prop} (h : ∃ x1 x2 x3 x4 x5 x6 x7, A1 x1 x2 x3 x4 x5 x6 x7 ∧ A2 x1 x2 x3 x4 x5 x6 x7 ∧ A3 x1 x2 x3 x4 x5 x6 x7 ∧ A4 x1 x2 x3 x4 x5 x6 x7 ∧ A5 x1 x2 x3 x4 x5 x6 x7 ∧ A6 x1 x2 x3 x4 x5 x6 x7 ∧ A7 x1 x2 x3 x4 x5 x6 x7) (k : ∀ x1 x2 x3 x4 x5 x6 x7, A1 x1 x2 x3 x4 x5 x6 x7 → A2 x1 x2 x3 x4 x5 x6 x7 → A3 x1 x2 x3 x4 x5 x6 x7 → A4 x1 x2 x3 x4 x5 x6 x7 → A5 x1 x2 x3 x4 x5 x6 x7 → A6 x1 x2 x3 x4 x5 x6 x7 → A7 x1 x2 x3 x4 x5 x6 x7 → G) : G := h.elim fun x1 h => h.elim fun x2 h => h.elim fun x3 h => h.elim fun x4 h => h.elim fun x5 h => h.elim fun x6 h => h.elim fun x7 h => k x1 x2 x3 x4 x5 x6 x7 h.1 h.2.1 h.2.2.1 h.2.2.2.1 h.2.2.2.2.1 h.2.2.2.2.2.1 h.2.2.2.2.2.2
theorem xe8_1.{u1, u2, u3, u4, u5, u6, u7, u8} {α1 : Sort u1} {α2 : Sort u2} {α3 : Sort u3} {α4 : Sort u4} {α5 : Sort u5} {α6 : Sort u6} {α7 : Sort u7} {α8 : Sort u8} {A1 : α1 → α2 → α3 → α4 → α5 → α6 → α7 → α8 → Prop} {G : Prop} (h : ∃ x1 x2 x3 x4 x5 x6 x7 x8, A1 x1 x2 x3 x4 x5 x6 x7 x8) (k : ∀ x1 x2 x3 x4 x5 x6 x7 x8, A1 x1 x2 x3 x4 x5 x6 x7 x8 → G) : G := h.elim fun x1 h => h.elim fun x2 h => h.elim fun x3 h => h.elim fun x4 h => h.elim fun x5 h => h.elim fun x6 h => h.elim fun x7 h => h.elim fun x8 h => k x1 x2 x3 x4 x5 x6 x7 x8 h
theorem xe8_2.{u1, u2, u3, u4, u5, u6, u7, u8} {α1 : Sort u1} {α2 : Sort u2} {α3 : Sort u3} {α4 : Sort u4} {α5 : Sort u5} {α6 : Sort u6} {α7 : Sort u7} {α8 : Sort u8} {A1 A2 : α1 → α2 → α3 → α4 → α5 → α6 → α7 → α8 → Prop} {G : Prop} (h : ∃ x1 x2 x3 x4 x5 x6 x7 x8, A1 x1 x2 x3 x4 x5 x6 x7 x8 ∧ A2 x1 x2 x3 x4 x5 x6 x7 x8) (k : ∀ x1 x2 x3 x4 x5 x6 x7 x8, A1 x1 x2 x3 x4 x5 x6 x7 x8 → A2 x1 x2 x3 x4 x5 x6 x7 x8 → G) : G := h.elim fun x1 h => h.elim fun x2 h => h.elim fun x3 h => h.elim fun x4 h => h.elim fun x5 h => h.elim fun x6 h => h.elim fun x7 h => h.elim fun x8 h => k x1 x2 x3 x4 x5 x6 x7 x8 h.1 h.2
theorem xe8_3.{u1, u2, u3, u4, u5, u6, u7, u8} {α1 : Sort u1} {α2 : Sort u2} {α3 : Sort u3} {α4 : Sort u4} {α5 : Sort u5} {α6 : Sort u6} {α7 : Sort u7} {α8 : Sort u8} {A1 A2 A3 : α1 → α2 → α3 → α4 → α5 → α6 → α7 → α8 → Prop} {G : Prop} (h : ∃ x1 x2 x3 x4 x5 x6 x7 x8, A1 x1 x2 x3 x4 x5 x6 x7 x8 ∧ A2 x1 x2 x3 x4 x5 x6 x7 x8 ∧ A3 x1 x2 x3 x4 x5 x6 x7 x8) (k : ∀ x1 x2 x3 x4 x5 x6 x7 x8, A1 x1 x2 x3 x4 x5 x6 x7 x8 → A2 x1 x2 x3 x4 x5 x6 x7 x8 → A3 x1 x2 x3 x4 x5 x6 x7 x8 → G) : G := h.elim fun x1 h => h.elim fun x2 h => h.elim fun x3 h => h.elim fun x4 h => h.elim fun x5 h => h.elim fun x6 h => h.elim fun x7 h => h.elim fun x8 h => k x1 x2 x3 x4 x5 x6 x7 x8 h.1 h.2.1 h.2.2
theorem xe8_4.{u1, u2, u3, u4, u5, u6, u7, u8} {α1 : Sort u1} {α2 : Sort u2} {α3 : Sort u3} {α4 : Sort u4} {α5 : Sort u5} {α6 : Sort u6} {α7 : Sort u7} {α8 : Sort u8} {A1 A2 A3 A4 : α1 → α2 → α3 → α4 → α5 → α6 → α7 → α8 → Prop} {G : Prop} (h : ∃ x1 x2 x3 x4 x5 x6 x7 x8, A1 x1 x2 x3 x4 x5 x6 x7 x8 ∧ A2 x1 x2 x3 x4 x5 x6 x7 x8 ∧ A3 x1 x2 x3 x4 x5 x6 x7 x8 ∧ A4 x1 x2 x3 x4 x5 x6 x7 x8) (k : ∀ x1 x2 x3 x4 x5 x6 x7 x8, A1 x1 x2 x3 x4 x5 x6 x7 x8 → A2 x1 x2 x3 x4 x5 x6 x7 x8 → A3 x1 x2 x3 x4 x5 x6 x7 x8 → A4 x1 x2 x3 x4 x5 x6 x7 x8 → G) : G := h.elim fun x1 h => h.elim fun x2 h => h.elim fun x3 h => h.elim fun x4 h => h.elim fun x5 h => h.elim fun x6 h => h.elim fun x7 h => h.elim fun x8 h => k x1 x2 x3 x4 x5 x6 x7 x8 h.1 h.2.1 h.2.2.1 h.2.2.2
theorem xe8_5.{u1, u2, u3, u4, u5, u6, u7, u8} {α1 : Sort u1} {α2 : Sort u2} {α3 : Sort u3} {α4 : Sort u4} {α5 : Sort u5} {α6 : Sort u6} {α7 : Sort u7} {α8 : Sort u8} {A1 A2 A3 A4 A5 : α1 → α2 → α3 → α4 → α5 → α6 → α7 → α8 → Prop} {G : Prop} (h : ∃ x1 x2 x3 x4 x5 x6 x7 x8, A1 x1 x2 x3 x4 x5 x6 x7 x8 ∧ A2 x1 x2 x3 x4 x5 x6 x7 x8 ∧ A3 x1 x2 x3 x4 x5 x6 x7 x8 ∧ A4 x1 x2 x3 x4 x5 x6 x7 x8 ∧ A5 x1 x2 x3 x4 x5 x6 x7 x8) (k : ∀ x1 x2 x3 x4 x5 x6 x7 x8, A1 x1 x2 x3 x4 x5 x6 x7 x8 → A2 x1 x2 x3 x4 x5 x6 x7 x8 → A3 x1 x2 x3 x4 x5 x6 x7 x8 → A4 x1 x2 x3 x4 x5 x6 x7 x8 → A5 x1 x2 x3 x4 x5 x6 x7 x8 → G) : G := h.elim fun x1 h => h.elim fun x2 h => h.elim fun x3 h => h.elim fun x4 h => h.elim fun x5 h => h.elim fun x6 h => h.elim fun x7 h => h.elim fun x8 h => k x1 x2 x3 x4 x5 x6 x7 x8 h.1 h.2.1 h.2.2.1 h.2.2.2.1 h.2.2.2.2
theorem xe8_6.{u1, u2, u3, u4, u5, u6, u7, u8} {α1 : Sort u1} {α2 : Sort u2} {α3 : Sort u3} {α4 : Sort u4} {α5 : Sort u5} {α6 : Sort u6} {α7 : Sort u7} {α8 : Sort u8} {A1 A2 A3 A4 A5 A6 : α1 → α2 → α3 → α4 → α5 → α6 → α7 → α8 → Prop} {G : Prop} (h : ∃ x1 x2 x3 x4 x5 x6 x7 x8, A1 x1 x2 x3 x4 x5 x6 x7 x8 ∧ A2 x1 x2 x3 x4 x5 x6 x7 x8 ∧ A3 x1 x2 x3 x4 x5 x6 x7 x8 ∧ A4 x1 x2 x3 x4 x5 x6 x7 x8 ∧ A5 x1 x2 x3 x4 x5 x6 x7 x8 ∧ A6 x1 x2 x3 x4 x5 x6 x7 x8) (k : ∀ x1 x2 x3 x4 x5 x6 x7 x8, A1 x1 x2 x3 x4 x5 x6 x7 x8 → A2 x1 x2 x3 x4 x5 x6 x7 x8 → A3 x1 x2 x3 x4 x5 x6 x7 x8 → A4 x1 x2 x3 x4 x5 x6 x7 x8 → A5 x1 x2 x3 x4 x5 x6 x7 x8 → A6 x1 x2 x3 x4 x5 x6 x7 x8 → G) : G := h.elim fun x1 h => h.elim fun x2 h => h.elim fun x3 h => h.elim fun x4 h => h.elim fun x5 h => h.elim fun x6 h => h.elim fun x7 h => h.elim fun x8 h => k x1 x2 x3 x4 x5 x6 x7 x8 h.1 h.2.1 h.2.2.1 h.2.2.2.1 h.2.2.2.2.1 h.2.2.2.2.2
theorem xe9_1.{u1, u2, u3, u4, u5, u6, u7, u8, u9} {α1 : Sort u1} {α2 : Sort u2} {α3 : Sort u3} {α4 : Sort u4} {α5 : Sort u5} {α6 : Sort u6} {α7 : Sort u7} {α8 : Sort u8} {α9 : Sort u9} {A1 : α1 → α2 → α3 → α4 → α5 → α6 → α7 → α8 → α9 → Prop} {G : Prop} (h : ∃ x1 x2 x3 x4 x5 x6 x7 x8 x9, A1 x1 x2 x3 x4 x5 x6 x7 x8 x9) (k : ∀ x1 x2 x3 x4 x5 x6 x7 x8 x9, A1 x1 x2 x3 x4 x5 x6 x7 x8 x9 → G) : G := h.elim fun x1 h => h.elim fun x2 h => h.elim fun x3 h => h.elim fun x4 h => h.elim fun x5 h => h.elim fun x6 h => h.elim fun x7 h => h.elim fun x8 h => h.elim fun x9 h => k x1 x2 x3 x4 x5 x6 x7 x8 x9 h
theorem xe9_2.{u1, u2, u3, u4, u5, u6, u7, u8, u9} {α1 : Sort u1} {α2 : Sort u2} {α3 : Sort u3} {α4 : Sort u4} {α5 : Sort u5} {α6 : Sort u6} {α7 : Sort u7} {α8 : Sort u8} {α9 : Sort u9} {A1 A2 : α1 → α2 → α3 → α4 → α5 → α6 → α7 → α8 → α9 → Prop} {G : Prop} (h : ∃ x1 x2 x3 x4 x5 x6 x7 x8 x9, A1 x1 x2 x3 x4 x5 x6 x7 x8 x9 ∧ A2 x1 x2 x3 x4 x5 x6 x7 x8 x9) (k : ∀ x1 x2 x3 x4 x5 x6 x7 x8 x9, A1 x1 x2 x3 x4 x5 x6 x7 x8 x9 → A2 x1 x2 x3 x4 x5 x6 x7 x8 x9 → G) : G := h.elim fun x1 h => h.elim fun x2 h => h.elim fun x3 h => h.elim fun x4 h => h.elim fun x5 h => h.elim fun x6 h => h.elim fun x7 h => h.elim fun x8 h => h.elim fun x9 h => k x1 x2 x3 x4 x5 x6 x7 x8 x9 h.1 h.2
theorem xe9_3.{u1, u2, u3, u4, u5, u6, u7, u8, u9} {α1 : Sort u1} {α2 : Sort u2} {α3 : Sort u3} {α4 : Sort u4} {α5 : Sort u5} {α6 : Sort u6} {α7 : Sort u7} {α8 : Sort u8} {α9 : Sort u9} {A1 A2 A3 : α1 → α2 → α3 → α4 → α5 → α6 → α7 → α8 → α9 → Prop} {G : Prop} (h : ∃ x1 x2 x3 x4 x5 x6 x7 x8 x9, A1 x1 x2 x3 x4 x5 x6 x7 x8 x9 ∧ A2 x1 x2 x3 x4 x5 x6 x7 x8 x9 ∧ A3 x1 x2 x3 x4 x5 x6 x7 x8 x9) (k : ∀ x1 x2 x3 x4 x5 x6 x7 x8 x9, A1 x1 x2 x3 x4 x5 x6 x7 x8 x9 → A2 x1 x2 x3 x4 x5 x6 x7 x8 x9 → A3 x1 x2 x3 x4 x5 x6 x7 x8 x9 → G) : G := h.elim fun x1 h => h.elim fun x2 h => h.elim fun x3 h => h.elim fun x4 h => h.elim fun x5 h => h.elim fun x6 h => h.elim fun x7 h => h.elim fun x8 h => h.elim fun x9 h => k x1 x2 x3 x4 x5 x6 x7 x8 x9 h.1 h.2.1 h.2.2
theorem xe9_4.{u1, u2, u3, u4, u5, u6, u7, u8, u9} {α1 : Sort u1} {α2 : Sort u2} {α3 : Sort u3} {α4 : Sort u4} {α5 : Sort u5} {α6 : Sort u6} {α7 : Sort u7} {α8 : Sort u8} {α9 : Sort u9} {A1 A2 A3 A4 : α1 → α2 → α3 → α4 → α5 → α6 → α7 → α8 → α9 → Prop} {G : Prop} (h : ∃ x1 x2 x3 x4 x5 x6 x7 x8 x9, A1 x1 x2 x3 x4 x5 x6 x7 x8 x9 ∧ A2 x1 x2 x3 x4 x5 x6 x7 x8 x9 ∧ A3 x1 x2 x3 x4 x5 x6 x7 x8 x9 ∧ A4 x1 x2 x3 x4 x5 x6 x7 x8 x9) (k : ∀ x1 x2 x3 x4 x5 x6 x7 x8 x9, A1 x1 x2 x3 x4 x5 x6 x7 x8 x9 → A2 x1 x2 x3 x4 x5 x6 x7 x8 x9 → A3 x1 x2 x3 x4 x5 x6 x7 x8 x9 → A4 x1 x2 x3 x4 x5 x6 x7 x8 x9 → G) : G := h.elim fun x1 h => h.elim fun x2 h => h.elim fun x3 h => h.elim fun x4 h => h.elim fun x5 h => h.elim fun x6 h => h.elim fun x7 h => h.elim fun x8 h => h.elim fun x9 h => k x1 x2 x3 x4 x5 x6 x7 x8 x9 h.1 h.2.1 h.2.2.1 h.2.2.2
theorem xe9_5.{u1, u2, u3, u4, u5, u6, u7, u8, u9} {α1 : Sort u1} {α2 : Sort u2} {α3 : Sort u3} {α4 : Sort u4} {α5 : Sort u5} {α6 : Sort u6} {α7 : Sort u7} {α8 : Sort u8} {α9 : Sort u9} {A1 A2 A3 A4 A5 : α1 → α2 → α3 → α4 → α5 → α6 → α7 → α8 → α9 → Prop} {G : Prop} (h : ∃ x1 x2 x3 x4 x5 x6 x7 x8 x9, A1 x1 x2 x3 x4 x5 x6 x7 x8 x9 ∧ A2 x1 x2 x3 x4 x5 x6 x7 x8 x9 ∧ A3 x1 x2 x3 x4 x5 x6 x7 x8 x9 ∧ A4 x1 x2 x3 x4 x5 x6 x7 x8 x9 ∧ A5 x1 x2 x3 x4 x5 x6 x7 x8 x9) (k : ∀ x1 x2 x3 x4 x5 x6 x7 x8 x9, A1 x1 x2 x3 x4 x5 x6 x7 x8 x9 → A2 x1 x2 x3 x4 x5 x6 x7 x8 x9 → A3 x1 x2 x3 x4 x5 x6 x7 x8 x9 → A4 x1 x2 x3 x4 x5 x6 x7 x8 x9 → A5 x1 x2 x3 x4 x5 x6 x7 x8 x9 → G) : G := h.elim fun x1 h => h.elim fun x2 h => h.elim fun x3 h => h.elim fun x4 h => h.elim fun x5 h => h.elim fun x6 h => h.elim fun x7 h => h.elim fun x8 h => h.elim fun x9 h => k x1 x2 x3 x4 x5 x6 x7 x8 x9 h.1 h.2.1 h.2.2.1 h.2.2.2.1 h.2.2.2.2
theorem xp2 {α1 α2 : Type} {P : α1 × α2 → Prop} (x : α1 × α2) (k : ∀ x1 x2, P (x1, x2)) : P x := by obtain ⟨x1, x2⟩ := x; exact k x1 x2
theorem xp3 {α1 α2 α3 : Type} {P : α1 × α2 × α3 → Prop} (x : α1 × α2 × α3) (k : ∀ x1 x2 x3, P (x1, x2, x3)) : P x := by obtain ⟨x1, x2, x3⟩ := x; exact k x1 x2 x3
theorem xp4 {α1 α2 α3 α4 : Type} {P : α1 × α2 × α3 × α4 → Prop} (x : α1 × α2 × α3 × α4) (k : ∀ x1 x2 x3 x4, P (x1, x2, x3, x4)) : P x := by obtain ⟨x1, x2, x3, x4⟩ := x; exact k x1 x2 x3 x4
theorem xp5 {α1 α2 α3 α4 α5 : Type} {P : α1 × α2 × α3 × α4 × α5 → Prop} (x : α1 × α2 × α3 × α4 × α5) (k : ∀ x1 x2 x3 x4 x5, P (x1, x2, x3, x4, x5)) : P x := by obtain ⟨x1, x2, x3, x4, x5⟩ := x; exact k x1 x2 x3 x4 x5
theorem xp6 {α1 α2 α3 α4 α5 α6 : Type} {P : α1 × α2 × α3 × α4 × α5 × α6 → Prop} (x : α1 × α2 × α3 × α4 × α5 × α6) (k : ∀ x1 x2 x3 x4 x5 x6, P (x1, x2, x3, x4, x5, x6)) : P x := by obtain ⟨x1, x2, x3, x4, x5, x6⟩ := x; exact k x1 x2 x3 x4 x5 x6
end
section
open PySem.Calls PySem.Spec

abbrev NoE : Value → Shared → Prop := fun _ _ => False

noncomputable def Cl (prog : Program) (w : World) (K : Frag) (p : Program) (loose : List Str) (mean : ExcName → Option Value) (mg mb : Str → Option Value) (f : Addr) (d u : Nat) (news : List (Addr × Obj)) (vs : List Value)
    (R : Value → List (Addr × Obj) → Prop) : Prop :=
  ∀ (dp un : Nat) (gd : Option (List Code)) (cn : Str) (cs : Scope) (ca : Addr) (ccd : Value) (cl : List (Str × Addr)) (outer : List Env) (A₀ : Around) (base h₀ : Heap) (L : Addr) (m : Str → Option Value) (s : Shared) (Q E : Value → Shared → Prop),
    Below A₀ base outer h₀ → Fr h₀ L s.heap m → K.In h₀ → News h₀ L s.heap news → Top p loose mean mg mb h₀ → cs.kind = .function → dp + d < recursionLimit → un + u < cLine →
    (∀ (r : Value) (news' : List (Addr × Obj)) (h' : Heap) (tk' : Nat), Fr h₀ L h' m → News h₀ L h' news' → R r news' → Q r { s with heap := h', toks := tk' }) →
      wpAny (model prog w) (ktrTop dp un gd cn cs L ca ccd cl outer) (call (.ref f) vs) Q E s
theorem Cl.mk {prog : Program} {w : World} {K : Frag} {p : Program} {loose : List Str} {mean : ExcName → Option Value} {mg mb : Str → Option Value} {f : Addr} {d u : Nat} {news : List (Addr × Obj)} {vs : List Value} {R : Value → List (Addr × Obj) → Prop}
    (h : ∀ (dp un : Nat) (gd : Option (List Code)) (cn : Str) (cs : Scope) (ca : Addr) (ccd : Value) (cl : List (Str × Addr)) (outer : List Env) (A₀ : Around) (base h₀ : Heap) (L : Addr) (m : Str → Option Value) (s : Shared) (Q E : Value → Shared → Prop),
    Below A₀ base outer h₀ → Fr h₀ L s.heap m → K.In h₀ → News h₀ L s.heap news → Top p loose mean mg mb h₀ → cs.kind = .function → dp + d < recursionLimit → un + u < cLine →
    (∀ (r : Value) (news' : List (Addr × Obj)) (h' : Heap) (tk' : Nat), Fr h₀ L h' m → News h₀ L h' news' → R r news' → Q r { s with heap := h', toks := tk' }) →
      wpAny (model prog w) (ktrTop dp un gd cn cs L ca ccd cl outer) (call (.ref f) vs) Q E s) :
    Cl prog w K p loose mean mg mb f d u news vs R := h

theorem Cl.use {prog : Program} {w : World} {K : Frag} {p : Program} {loose : List Str} {mean : ExcName → Option Value} {mg mb : Str → Option Value} {f : Addr} {d u : Nat} {news : List (Addr × Obj)} {vs : List Value} {R : Value → List (Addr × Obj) → Prop} (C : Cl prog w K p loose mean mg mb f d u news vs R)
    {dp un : Nat} {gd : Option (List Code)} {cn : Str} {cs : Scope} {ca : Addr} {ccd : Value} {cl : List (Str × Addr)} {outer : List Env} {A₀ : Around} {base h₀ : Heap} {L : Addr} {m : Str → Option Value} {s : Shared} {Q E : Value → Shared → Prop}
    (kB : Below A₀ base outer h₀) (kF : Fr h₀ L s.heap m) (kX : K.In h₀) (kN : News h₀ L s.heap news) (kT : Top p loose mean mg mb h₀) (kc : cs.kind = .function) (kd : dp + d < recursionLimit) (ku : un + u < cLine)
    (kR : ∀ (r : Value) (news' : List (Addr × Obj)) (h' : Heap) (tk' : Nat), Fr h₀ L h' m → News h₀ L h' news' → R r news' → Q r { s with heap := h', toks := tk' }) :
    wpAny (model prog w) (ktrTop dp un gd cn cs L ca ccd cl outer) (call (.ref f) vs) Q E s := C dp un gd cn cs ca ccd cl outer A₀ base h₀ L m s Q E kB kF kX kN kT kc kd ku kR

noncomputable def ClB (Pb : Heap → Prop) (prog : Program) (w : World) (K : Frag) (p : Program) (loose : List Str) (mean : ExcName → Option Value) (mg mb : Str → Option Value) (f : Addr) (d u : Nat) (news : List (Addr × Obj)) (vs : List Value)
    (R : Value → List (Addr × Obj) → Prop) : Prop :=
  ∀ (dp un : Nat) (gd : Option (List Code)) (cn : Str) (cs : Scope) (ca : Addr) (ccd : Value) (cl : List (Str × Addr)) (outer : List Env) (A₀ : Around) (base h₀ : Heap) (L : Addr) (m : Str → Option Value) (s : Shared) (Q E : Value → Shared → Prop),
    Pb base → Below A₀ base outer h₀ → Fr h₀ L s.heap m → K.In h₀ → News h₀ L s.heap news → Top p loose mean mg mb h₀ → cs.kind = .function → dp + d < recursionLimit → un + u < cLine →
    (∀ (r : Value) (news' : List (Addr × Obj)) (h' : Heap) (tk' : Nat), Fr h₀ L h' m → News h₀ L h' news' → R r news' → Q r { s with heap := h', toks := tk' }) →
      wpAny (model prog w) (ktrTop dp un gd cn cs L ca ccd cl outer) (call (.ref f) vs) Q E s
theorem ClB.mk {Pb : Heap → Prop} {prog : Program} {w : World} {K : Frag} {p : Program} {loose : List Str} {mean : ExcName → Option Value} {mg mb : Str → Option Value} {f : Addr} {d u : Nat} {news : List (Addr × Obj)} {vs : List Value} {R : Value → List (Addr × Obj) → Prop}
    (h : ∀ (dp un : Nat) (gd : Option (List Code)) (cn : Str) (cs : Scope) (ca : Addr) (ccd : Value) (cl : List (Str × Addr)) (outer : List Env) (A₀ : Around) (base h₀ : Heap) (L : Addr) (m : Str → Option Value) (s : Shared) (Q E : Value → Shared → Prop),
    Pb base → Below A₀ base outer h₀ → Fr h₀ L s.heap m → K.In h₀ → News h₀ L s.heap news → Top p loose mean mg mb h₀ → cs.kind = .function → dp + d < recursionLimit → un + u < cLine →
    (∀ (r : Value) (news' : List (Addr × Obj)) (h' : Heap) (tk' : Nat), Fr h₀ L h' m → News h₀ L h' news' → R r news' → Q r { s with heap := h', toks := tk' }) →
      wpAny (model prog w) (ktrTop dp un gd cn cs L ca ccd cl outer) (call (.ref f) vs) Q E s) :
    ClB Pb prog w K p loose mean mg mb f d u news vs R := h
theorem ClB.use {Pb : Heap → Prop} {prog : Program} {w : World} {K : Frag} {p : Program} {loose : List Str} {mean : ExcName → Option Value} {mg mb : Str → Option Value} {f : Addr} {d u : Nat} {news : List (Addr × Obj)} {vs : List Value} {R : Value → List (Addr × Obj) → Prop} (C : ClB Pb prog w K p loose mean mg mb f d u news vs R)
    {dp un : Nat} {gd : Option (List Code)} {cn : Str} {cs : Scope} {ca : Addr} {ccd : Value} {cl : List (Str × Addr)} {outer : List Env} {A₀ : Around} {base h₀ : Heap} {L : Addr} {m : Str → Option Value} {s : Shared} {Q E : Value → Shared → Prop}
    (kP : Pb base) (kB : Below A₀ base outer h₀) (kF : Fr h₀ L s.heap m) (kX : K.In h₀) (kN : News h₀ L s.heap news) (kT : Top p loose mean mg mb h₀) (kc : cs.kind = .function) (kd : dp + d < recursionLimit) (ku : un + u < cLine)
    (kR : ∀ (r : Value) (news' : List (Addr × Obj)) (h' : Heap) (tk' : Nat), Fr h₀ L h' m → News h₀ L h' news' → R r news' → Q r { s with heap := h', toks := tk' }) :
    wpAny (model prog w) (ktrTop dp un gd cn cs L ca ccd cl outer) (call (.ref f) vs) Q E s := C dp un gd cn cs ca ccd cl outer A₀ base h₀ L m s Q E kP kB kF kX kN kT kc kd ku kR

section
variable {h₀ h : Heap} {L : Addr} {m : Str → Option Value}
theorem kstB_id {m : Str → Option Value} {l : List (Str × Value)} (hk : ∀ p ∈ l, m p.1 = some p.2) : kstB m l = m := by
  funext y
  exact kstB_eq hk fun _ => rfl
theorem kn {l : List (Str × Value)} (F : Fr h₀ L h m) (hk : ∀ p ∈ l, m p.1 = some p.2) : Fr h₀ L h (kstB m l) := by
  rw [kstB_id hk]; exact F
noncomputable def Loc (h₀ : Heap) (L : Addr) (h : Heap) (l : List (Str × Value)) : Prop := ∃ r, Fr h₀ L h (kstB r l)
theorem loc {l : List (Str × Value)} (F : Fr h₀ L h m) (hk : ∀ p ∈ l, m p.1 = some p.2) : Loc h₀ L h l := ⟨m, kn F hk⟩
end

section
variable {prog : Program} {w : World} {A : Around} {E : Value → Shared → Prop} {s : Shared} {env : Env}
theorem noE {α : Type} {M : Model} {t : Sem α} {Q : α → Shared → Prop} (h : wpAny M A t Q NoE s) : wpAny M A t Q E s := wpAny_mono h (fun _ _ x => x) fun _ _ x => x.elim

theorem seqN {st : Stmt} {rest : List Stmt} {Q : Flow → Shared → Prop} (P : Heap → Prop)
    (h : wpAny (model prog w) A (exec st env) (fun f s' => (f = .next ∧ ∃ h' tk, s' = { s with heap := h', toks := tk } ∧ P h') ∨ (∃ v, f = .ret v ∧ Q (.ret v) s')) E s)
    (k : ∀ h' tk, P h' → wpAny (model prog w) A (execs rest env) Q E { s with heap := h', toks := tk }) :
    wpAny (model prog w) A (execs (st :: rest) env) Q E s := by
  refine wpAny_execs_cons (wpAny_mono h (fun f s' hf => ?_) fun _ _ x => x)
  rcases hf with ⟨rfl, h', tk, rfl, hp⟩ | ⟨v, rfl, hq⟩
  · exact k h' tk hp
  · exact hq

noncomputable def WhEnd (I : Nat → Heap → Prop) (Q : Flow → Shared → Prop) (s : Shared) (n : Nat) (f : Flow) (s₃ : Shared) : Prop :=
  match f with
  | .next | .cont => ∃ h' tk n', s₃ = { s with heap := h', toks := tk } ∧ n' < n ∧ I n' h'
  | .brk => Q .next s₃
  | .ret v => Q (.ret v) s₃

theorem whileH {test : Expr} {body : List Stmt} {pos : Pos} {Q : Flow → Shared → Prop} {n₀ : Nat} (I : Nat → Heap → Prop) (h0 : I n₀ s.heap)
    (turn : ∀ n h tk, I n h → wpAny (model prog w) A (isTrue test env (eval test env)) (fun b s₂ =>
        if b = true then wpAny (model prog w) A (execs body env) (WhEnd I Q s n) NoE s₂ else Q .next s₂) NoE { s with heap := h, toks := tk }) :
    wpAny (model prog w) A (exec (.While test body [] pos) env) Q NoE s := by
  have hE : PassesOwn (model prog w) A env NoE := by passes_own
  refine wpAny_While (codeAny_whileLoop (fun n s' => ∃ h₁ tk₁, s' = { s with heap := h₁, toks := tk₁ } ∧ I n h₁) ?_ n₀ ⟨s.heap, s.toks, rfl, h0⟩)
  rintro n s' ⟨h₁, tk₁, rfl, J₁⟩
  refine wpAny_mono (turn n h₁ tk₁ J₁) (fun b s₂ h₂ => ?_) hE
  cases b with
  | false =>
    simp only [Bool.false_eq_true, if_false] at h₂ ⊢
    exact wpAny_execs_nil h₂
  | true =>
    simp only [if_true] at h₂ ⊢
    refine wpAny_mono h₂ (fun f s₃ h₃ => ?_) hE
    cases f with
    | next =>
      obtain ⟨h', tk, n', rfl, hn, J₂⟩ := h₃
      exact ⟨n', hn, h', tk, rfl, J₂⟩
    | cont =>
      obtain ⟨h', tk, n', rfl, hn, J₂⟩ := h₃
      exact ⟨n', hn, h', tk, rfl, J₂⟩
    | brk => exact h₃
    | ret v => exact h₃
end

section
variable {prog : Program} {w : World} {A : Around} {E : Value → Shared → Prop} {s : Shared} {env : Env} {h₀ : Heap} {x : Str} {body : List Stmt} {Q : Flow → Shared → Prop}

noncomputable def TurnJ {σ : Type} (Led : σ → List (Addr × Obj)) (ps : σ → List (Str × Value)) (Inv : Nat → σ → Prop) (i : Nat) (m : Str → Option Value) (nx : List (Addr × Obj)) : Prop :=
  ∃ c : σ, nx = Led c ∧ (∀ p ∈ ps c, m p.1 = some p.2) ∧ Inv i c

theorem turnEnd {L : Addr} {σ : Type} {Led : σ → List (Addr × Obj)} {ps : σ → List (Str × Value)} {Inv : Nat → σ → Prop} {i : Nat} {own news' : List (Addr × Obj)} {adr : List Addr} {h' : Heap} {tk : Nat} {m' : Str → Option Value} (c : σ)
    (F : Fr h₀ L h' m') (N : News h₀ L h' news') (e : news' = Led c ++ own) (ha : (Led c).map (·.1) = adr) (hk : ∀ p ∈ ps c, m' p.1 = some p.2) (hi : Inv i c) :
    InvEndN h₀ L (TurnJ Led ps Inv i) own adr s { s with heap := h', toks := tk } :=
  ⟨h', tk, m', news', Led c, rfl, F, N, fun p hp => by rw [e]; exact List.mem_append_left _ hp, fun p hp => by rw [e]; exact List.mem_append_right _ hp, ha, c, rfl, hk, hi⟩

theorem forWalks {σ : Type} {I : Addr} {fp wr : List Addr} {n : Nat} {P : Nat → Value → Prop} {St : Nat → Heap → Prop} {m₀ : Str → Option Value} (Led : σ → List (Addr × Obj)) (ps : σ → List (Str × Value)) (Inv : Nat → σ → Prop) (c₀ : σ)
    (W : Walks prog w A I fp wr n P St) (hLf : env.locals ∉ fp) (hwr : ∀ b ∈ wr, h₀.get? b = none) (hfp : ∀ q ∈ Led c₀, q.1 ∉ fp) (hst : St 0 s.heap) (F : Fr h₀ env.locals s.heap m₀) (N : News h₀ env.locals s.heap (Led c₀))
    (hk : ∀ p ∈ ps c₀, m₀ p.1 = some p.2) (hi : Inv 0 c₀)
    (turn : ∀ (c : σ) i v r h tk own, i < n → P i v → OwnOff own ((Led c₀).map (·.1)) → Inv i c → Fr h₀ env.locals h (kstB r ((x, v) :: ps c)) → News h₀ env.locals h (Led c ++ own) →
      wpAny (model prog w) A (execs body env) (InvPostN h₀ env.locals (TurnJ Led ps Inv (i + 1)) own ((Led c₀).map (·.1)) { s with heap := h, toks := tk } Q) E { s with heap := h, toks := tk })
    (done : ∀ (c : σ) r h tk, Inv n c → Fr h₀ env.locals h (kstB r (ps c)) → News h₀ env.locals h (Led c) → Q .next { s with heap := h, toks := tk }) :
    LoopAtV prog w A h₀ env x body Q E (.ref I) s := by
  refine loop_invN (TurnJ Led ps Inv) W hLf hwr (fun q hq hm => hfp q hq (W.sub _ hm)) hfp hst F N ⟨c₀, rfl, hk, hi⟩ ?_ ?_
  · rintro i v m₁ nx h tk own hin hP _ hoff ⟨c, rfl, hk', hi'⟩ F₁ N₁
    refine turn c i v m₁ h tk own hin hP hoff hi' ?_ N₁
    have e : kstB m₁ ((x, v) :: ps c) = fun y => if y = x then some v else m₁ y := by
      show (fun z => if z = x then some v else kstB m₁ (ps c) z) = _
      rw [kstB_id hk']
    rw [e]; exact F₁
  · rintro m₁ nx h tk ⟨c, rfl, hk', hi'⟩ F₁ N₁
    exact done c m₁ h tk hi' (kn F₁ hk') N₁

theorem forRange {σ : Type} {r : Addr} {a₀ b₀ : Int} {t₀ u₀ v₀ : Tok} {n : Nat} {m₀ : Str → Option Value} (Led : σ → List (Addr × Obj)) (ps : σ → List (Str × Value)) (Inv : Nat → σ → Prop) (c₀ : σ)
    (hh : A.handled = none) (hr : IsRange s.heap r a₀ b₀ 1 t₀ u₀ v₀) (hsmall : Builtin.Range.small a₀ b₀ 1 = true) (hn : Builtin.Range.rangeSize a₀ b₀ 1 = (n : Int)) (F : Fr h₀ env.locals s.heap m₀) (N : News h₀ env.locals s.heap (Led c₀))
    (hk : ∀ p ∈ ps c₀, m₀ p.1 = some p.2) (hi : Inv 0 c₀)
    (turn : ∀ (c : σ) (i : Nat) t rr h tk own, i < n → OwnOff own ((Led c₀).map (·.1)) → Inv i c → Fr h₀ env.locals h (kstB rr ((x, .int (a₀ + i) t) :: ps c)) → News h₀ env.locals h (Led c ++ own) →
      wpAny (model prog w) A (execs body env) (InvPostN h₀ env.locals (TurnJ Led ps Inv (i + 1)) own ((Led c₀).map (·.1)) { s with heap := h, toks := tk } Q) E { s with heap := h, toks := tk })
    (done : ∀ (c : σ) rr h tk, Inv n c → Fr h₀ env.locals h (kstB rr (ps c)) → News h₀ env.locals h (Led c) → Q .next { s with heap := h, toks := tk }) :
    wpAny (model prog w) A (pyIter (.ref r)) (fun it s₂ => LoopAtV prog w A h₀ env x body Q E it s₂) E s := by
  refine wpAny_pyIter_range hr hsmall ?_
  have W : Walks prog w A s.heap.objs.size [s.heap.objs.size] [s.heap.objs.size] n (fun i v => i < n ∧ ∃ t, v = .int (a₀ + i * 1) t)
      (fun i h => IsRangeIter h s.heap.objs.size (a₀ + (i : Nat) * 1) ((n : Int) - (i : Nat)) 1) := (Walks.range hh _ a₀ 1 n).bound
  refine forWalks Led ps Inv c₀ W ?_ ?_ ?_ (by show IsRangeIter _ _ _ _ _; rw [hn]; simpa using Heap.get?_push_size _ rfl) (F.push _) (fun p hp => ⟨Heap.get?_push_of_some _ (N p hp).1, (N p hp).2⟩) hk hi ?_ ?_
  · intro hm
    exact absurd F.ns.lt ((List.mem_singleton.mp hm) ▸ Nat.lt_irrefl _)
  · intro b hb
    rw [List.mem_singleton.mp hb]
    exact next_is_new F
  · intro p hp hI
    exact absurd (Heap.lt_size (N p hp).1) ((List.mem_singleton.mp hI) ▸ Nat.lt_irrefl _)
  · rintro c i v rr h tk own hin ⟨_, t, rfl⟩ hoff hi' F₁ N₁
    have e1 : a₀ + (i : Int) * 1 = a₀ + (i : Int) := by lia
    rw [e1] at F₁
    exact turn c i t rr h tk own hin hoff hi' F₁ N₁
  · rintro c rr h tk hi' F₁ N₁
    exact done c rr h tk hi' F₁ N₁
end

section
variable {prog : Program} {w : World} {A : Around} {E : Value → Shared → Prop} {s : Shared} {h₀ : Heap} {L : Addr} {m : Str → Option Value} {news : List (Addr × Obj)}
theorem itemN {value slice : Expr} {l : Addr} {its : Array Value} {n : Nat} {k : Int} {t : Tok} {v : Value} {Q : Value → Shared → Prop}
    (N : News h₀ L s.heap news) (hm : (l, listOf its n) ∈ news) (h0 : 0 ≤ k) (h1 : k < 2 ^ 63) (hx : its[k.toNat]? = some v) (h : Q v s)
    (hs : subscripted slice false (.ref l) (.int k t) = operate [.ref l, .int k t] (getItem (.ref l) (.int k t))) :
    wpAny (model prog w) A (subscriptTail value slice (.ref l) (.int k t)) Q E s :=
  have hl : s.heap.IsList l its := ⟨_, (N _ hm).1, rfl, _, rfl⟩
  tail_any hl.typeIs slot_list_getitem.lookup (wpAny_getItem_list hl h0 h1 hx h) hs
end











theorem neB {a b D : Nat} (h : a < D) (k : b ≤ a) : D ≠ b := fun e => Nat.not_lt.mpr k (e ▸ h)
theorem neB' {a b D : Nat} (h : a < D) (k : b ≤ a) : b ≠ D := fun e => neB h k e.symm
theorem ltup {a b : Nat} (h : a ≤ b) : a < b + 1 := Nat.lt_succ_of_le h
theorem leup {a b : Nat} (h : a ≤ b) : a ≤ b + 1 := Nat.le_succ_of_le h
theorem al0 {d : Addr} : ∀ p ∈ ([] : List (Addr × Obj)), p.1 ≠ d := fun _ h => absurd h (by simp)
theorem alc {a d : Addr} {o : Obj} {r : List (Addr × Obj)} (h : @Ne Nat a d) (k : ∀ p ∈ r, p.1 ≠ d) : ∀ p ∈ (a, o) :: r, p.1 ≠ d := List.forall_mem_cons.mpr ⟨h, k⟩
theorem ala {d : Addr} {x y : List (Addr × Obj)} (h : ∀ p ∈ x, p.1 ≠ d) (k : ∀ p ∈ y, p.1 ≠ d) : ∀ p ∈ x ++ y, p.1 ≠ d := List.forall_mem_append.mpr ⟨h, k⟩
theorem kall_lt {news : List (Addr × Obj)} {D : Addr} (h : ∀ p ∈ news, p.1 < D) : ∀ p ∈ news, p.1 ≠ D := fun p hp => Nat.ne_of_lt (h p hp)
noncomputable def Kn (m : Str → Option Value) (l : List (Str × Value)) : Prop := ∀ p ∈ l, m p.1 = some p.2
section
variable {h₀ h : Heap} {L : Addr} {m : Str → Option Value} {l : List (Str × Value)} {a : Str} {v : Value}
theorem knx (h : Kn m l) : ∀ p ∈ l, m p.1 = some p.2 := h
theorem kn0 : Kn m [] := fun _ h => absurd h (by simp)
theorem knc (h : m a = some v) (k : Kn m l) : Kn m ((a, v) :: l) := List.forall_mem_cons.mpr ⟨h, k⟩
theorem locK (F : Fr h₀ L h m) (hk : Kn m l) : Loc h₀ L h l := loc F hk
end
noncomputable def Sb (l m : List (Addr × Obj)) : Prop := ∀ p ∈ l, p ∈ m
section
variable {a b : Addr × Obj} {l m x y : List (Addr × Obj)}
theorem sbx (h : Sb l m) : ∀ p ∈ l, p ∈ m := h
theorem sb0 : Sb [] m := fun _ h => absurd h (by simp)
theorem sbr : Sb m m := fun _ h => h
theorem sbc (k : Sb l m) (h : a ∈ m) : Sb (a :: l) m := List.forall_mem_cons.mpr ⟨h, k⟩
theorem sbcc (h : a ∈ m) (k : Sb l m) : Sb (a :: l) m := sbc k h
theorem sbb (k : Sb l m) : Sb (a :: l) (a :: m) := List.forall_mem_cons.mpr ⟨.head _, fun p hp => .tail _ (k p hp)⟩
theorem sbt (k : Sb l m) : Sb l (b :: m) := fun p hp => .tail _ (k p hp)
theorem sba (h : Sb x m) (k : Sb l m) : Sb (x ++ l) m := List.forall_mem_append.mpr ⟨h, k⟩
theorem sbl (h : Sb l x) : Sb l (x ++ y) := fun p hp => List.mem_append_left _ (h p hp)
theorem sbR (h : Sb l y) : Sb l (x ++ y) := fun p hp => List.mem_append_right _ (h p hp)
theorem sbaa (k : Sb l m) : Sb (x ++ l) (x ++ m) := sba (sbl sbr) (sbR k)
theorem sbq (_ : b ∈ l) (k : Sb l (b :: m)) : Sb l (b :: m) := k
theorem smh : a ∈ a :: m := .head _
theorem smt (h : a ∈ m) : a ∈ b :: m := .tail _ h
theorem sml (h : a ∈ x) : a ∈ x ++ y := List.mem_append_left _ h
theorem smr (h : a ∈ y) : a ∈ x ++ y := List.mem_append_right _ h
end
end
section
open PySem.Builtin PySem.Builtin.Str

noncomputable def tx (l : List Nat) : Str := ⟨l.toArray⟩
theorem tx_len (l : List Nat) : (tx l).length = l.length := by simp [tx, Str.length]
theorem tx_list (l : List Nat) : (tx l).cps.toList = l := rfl
theorem tx_inj {a b : List Nat} : tx a = tx b ↔ a = b := by
  constructor
  · intro h
    have := congrArg (fun x : Str => x.cps.toList) h
    simpa [tx] using this
  · intro h; rw [h]
theorem tx_beq (a b : List Nat) : (tx a == tx b) = decide (a = b) := by
  by_cases h : a = b
  · subst h; simp
  · have : tx a ≠ tx b := fun e => h (tx_inj.mp e)
    simp [h, this]
theorem tx_of (x : Str) : x = tx x.cps.toList := by cases x; rfl

theorem slice_from (l : List Nat) (k : Nat) (h : k ≤ l.length) : Txt.slice (tx l) (some (k : Int)) none = tx (l.drop k) := by
  rw [slice_from_eq (b := (l.length : Int)) (by lia) (by rw [tx_len]; lia) (by rw [tx_len])]
  show tx _ = _
  rw [tx_list, Int.toNat_natCast, List.take_of_length_le (by rw [List.length_drop]; lia)]
theorem slice_to (l : List Nat) (k : Nat) (h : k ≤ l.length) : Txt.slice (tx l) none (some (k : Int)) = tx (l.take k) := by
  have e := beq_iff_eq.mp (slice_closes_to (x := tx l) (j := (k : Int)) ⟨by lia, by rw [tx_list]; lia⟩)
  rw [e]
  show tx _ = _
  rw [tx_list]
  have : ((k : Int) - 0).toNat = k := by lia
  rw [this]; rfl
theorem slice_to_neg (l : List Nat) (q : Nat) (h0 : 0 < q) (h : q ≤ l.length) : Txt.slice (tx l) none (some (-(q : Int))) = tx (l.take (l.length - q)) := by
  rw [← slice_to l (l.length - q) (by lia)]
  have e : strSliceIndices none (some (-(q : Int))) 1 (tx l).length = strSliceIndices none (some ((l.length - q : Nat) : Int)) 1 (tx l).length := by
    rw [tx_len]
    simp only [strSliceIndices]
    have h1 : (-(q : Int)) < 0 := by lia
    have h2 : ¬ (((l.length - q : Nat) : Int) < 0) := by lia
    have h3 : -(q : Int) + (l.length : Int) = ((l.length - q : Nat) : Int) := by lia
    simp only [h1, h2, h3, if_true, if_false]
  unfold Txt.slice
  rw [e]
theorem slice_all (l : List Nat) : Txt.slice (tx l) none none = tx l := by
  have : Txt.slice (tx l) none none = Txt.slice (tx l) none (some (l.length : Int)) := by
    unfold Txt.slice
    have e : strSliceIndices none none 1 (tx l).length = strSliceIndices none (some (l.length : Int)) 1 (tx l).length := by
      rw [tx_len]
      simp only [strSliceIndices]
      have h2 : ¬ ((l.length : Int) < 0) := by lia
      have h3 : max (0 : Int) (min (l.length : Int) (l.length : Int)) = l.length := by lia
      simp only [h2, if_false, show ((1 : Int) > 0) from by decide, if_true, h3]
    rw [e]
  rw [this, slice_to l l.length (Nat.le_refl _), List.take_length]
theorem item_at (l : List Nat) (k : Nat) (h : k < l.length) : Txt.item (tx l) (k : Int) = tx [l.getD k 0] := by
  unfold Txt.item Txt.charAt seqIndex?
  rw [tx_len]
  have h1 : ¬ ((k : Int) < 0) := by lia
  have h2 : (k : Int) < (l.length : Int) := by lia
  simp [h1, h2, tx, h]
theorem item_neg (l : List Nat) (q : Nat) (h0 : 0 < q) (h : q ≤ l.length) : Txt.item (tx l) (-(q : Int)) = tx [l.getD (l.length - q) 0] := by
  unfold Txt.item Txt.charAt seqIndex?
  rw [tx_len]
  have h1 : (-(q : Int)) < 0 := by lia
  have h2 : -(q : Int) + (l.length : Int) = ((l.length - q : Nat) : Int) := by lia
  have h3 : l.length - q < l.length := by lia
  have h4 : ((l.length - q : Nat) : Int) < (l.length : Int) := by lia
  simp only [h1, if_true, h2]
  have h5 : ¬ (((l.length - q : Nat) : Int) < 0) := by lia
  simp [h4, tx, h3]

noncomputable def cpl : List Nat → List Nat → Nat
  | x :: xs, y :: ys => if x = y then cpl xs ys + 1 else 0
  | _, _ => 0
theorem cpl_le_left : ∀ a b : List Nat, cpl a b ≤ a.length
  | [], _ => by simp [cpl]
  | x :: xs, [] => by simp [cpl]
  | x :: xs, y :: ys => by
    have := cpl_le_left xs ys
    simp only [cpl]; split <;> simp <;> lia
theorem cpl_comm : ∀ a b : List Nat, cpl a b = cpl b a
  | [], [] => rfl
  | [], _ :: _ => rfl
  | _ :: _, [] => rfl
  | x :: xs, y :: ys => by
    simp only [cpl, cpl_comm xs ys]
    by_cases h : x = y
    · subst h; simp
    · have : ¬ y = x := fun e => h e.symm
      simp [h, this]
theorem cpl_le_right (a b : List Nat) : cpl a b ≤ b.length := by rw [cpl_comm]; exact cpl_le_left b a
theorem cpl_drop : ∀ (k : Nat) (a b : List Nat), k ≤ cpl a b → cpl a b = k + cpl (a.drop k) (b.drop k)
  | 0, a, b, _ => by simp
  | k + 1, [], b, h => by simp [cpl] at h
  | k + 1, x :: xs, [], h => by simp [cpl] at h
  | k + 1, x :: xs, y :: ys, h => by
    simp only [cpl] at h ⊢
    split at h
    · rename_i e
      rw [if_pos e]
      have := cpl_drop k xs ys (by lia)
      simp only [List.drop_succ_cons]; lia
    · lia
theorem cpl_stop_left {a b : List Nat} {k : Nat} (h : k ≤ cpl a b) (hk : a.length ≤ k) : cpl a b = k := by
  have := cpl_le_left a b; lia
theorem cpl_stop_right {a b : List Nat} {k : Nat} (h : k ≤ cpl a b) (hk : b.length ≤ k) : cpl a b = k := by
  have := cpl_le_right a b; lia
theorem cpl_at {a b : List Nat} {k : Nat} (h : k ≤ cpl a b) (ha : k < a.length) (hb : k < b.length) :
    (a.getD k 0 = b.getD k 0 → k + 1 ≤ cpl a b) ∧ (a.getD k 0 ≠ b.getD k 0 → cpl a b = k) := by
  have e := cpl_drop k a b h
  have ea : a.drop k = a.getD k 0 :: a.drop (k + 1) := by
    rw [List.drop_eq_getElem_cons ha]; simp [List.getD, ha]
  have eb : b.drop k = b.getD k 0 :: b.drop (k + 1) := by
    rw [List.drop_eq_getElem_cons hb]; simp [List.getD, hb]
  rw [ea, eb] at e
  simp only [cpl] at e
  constructor
  · intro h1; rw [if_pos h1] at e; lia
  · intro h1; rw [if_neg h1] at e; lia
theorem beq_no {x y : List Nat} (h : (tx x == tx y) = false) : x ≠ y := by
  intro e; subst e; simp at h
theorem beq_yes {x y : List Nat} (h : (tx x == tx y) = true) : x = y := tx_inj.mp (by simpa using h)
theorem beq_no1 {x y : Nat} (h : (tx [x] == tx [y]) = false) : x ≠ y := fun e => beq_no h (by rw [e])
theorem beq_yes1 {x y : Nat} (h : (tx [x] == tx [y]) = true) : x = y := by simpa using beq_yes h
end
section
noncomputable def scS (x y : Str) : Int := if x = y then 0 else if Txt.lower x = Txt.lower y then 1 else 2
noncomputable def scN (x y : Nat) : Int := scS (tx [x]) (tx [y])
structure InSt where
  row : List Int
  d : Int
  res : Int
  mn : Int
noncomputable def inS (A : List Nat) (bc i : Nat) (st : InSt) : InSt :=
  let sub := st.d + scN bc (A.getD i 0)
  let d := st.row.getD i 0
  let ide := (if d < st.res then d else st.res) + 2
  let res := if sub < ide then sub else ide
  ⟨st.row.set i res, d, res, if res < st.mn then res else st.mn⟩
noncomputable def inn (A : List Nat) (bc : Nat) (st : InSt) : Nat → InSt
  | 0 => st
  | i + 1 => inS A bc i (inn A bc st i)
noncomputable def big : Int := 9223372036854775807
noncomputable def outFrom (A : List Nat) (m : Int) : List Nat → Nat → List Int → Int → Int
  | [], _, _, res => res
  | bc :: bs, j, row, _ =>
    let st := inn A bc ⟨row, 2 * j, 2 * j, big⟩ A.length
    if st.mn > m then m + 1 else outFrom A m bs (j + 1) st.row st.res
noncomputable def row0 (n : Nat) : List Int := (List.range n).map fun (i : Nat) => 2 + (i : Int) * 2
noncomputable def levCore (A B : List Nat) (m : Int) : Int := if ((B.length : Int) - A.length) * 2 > m then m + 1 else outFrom A m B 0 (row0 A.length) 0
noncomputable def levMid (A B : List Nat) (m : Int) : Int :=
  if A = [] ∨ B = [] then 2 * ((A.length : Int) + B.length)
  else if 40 < A.length ∨ 40 < B.length then m + 1
  else if B.length < A.length then levCore B A m else levCore A B m
noncomputable def pyLev (a b : List Nat) (m : Int) : Int :=
  if a = b then 0 else
    let p := cpl a b
    let A := a.drop p
    let B := b.drop p
    let q := cpl A.reverse B.reverse
    levMid (A.take (A.length - q)) (B.take (B.length - q)) m
theorem inn_len (A : List Nat) (bc : Nat) (st : InSt) : ∀ i, (inn A bc st i).row.length = st.row.length
  | 0 => rfl
  | i + 1 => by simp [inn, inS, inn_len A bc st i]
end
section
section
variable {prog : Program} {w : World} {A : Around} {E : Value → Shared → Prop} {s : Shared} {h₀ : Heap} {L : Addr} {m : Str → Option Value} {news : List (Addr × Obj)} {value slice : Expr} {l : List Nat} {t : Tok}
theorem tx_size {l : List Nat} (h : l.length ≤ 1000) : (tx l).length ≤ sizeLine := by rw [tx_len, sizeLine_eq]; k_extra "li"
theorem sl_from {k : Nat} {uk : Tok} {Q : Value → Shared → Prop} (F : Fr h₀ L s.heap m) (N : News h₀ L s.heap news) (hk : k ≤ l.length) (hl : l.length ≤ 1000)
    (h : ∀ h' t' tk, Fr h₀ L h' m → News h₀ L h' news → Q (.str (tx (l.drop k)) t') { s with heap := h', toks := tk })
    (hs : subscripted slice false (.str (tx l) t) (.ref s.heap.objs.size) = operate [.ref s.heap.objs.size, .str (tx l) t] (getItem (.str (tx l) t) (.ref s.heap.objs.size)))
    (ht : ∀ r, letTemporaryGo value (.str (tx l) t) r = pure ()) :
    wpAny (model prog w) A (subscriptTail value slice (.str (tx l) t) (.ref s.heap.objs.size)) Q E { s with heap := s.heap.push { cls := .type "slice", data := .fields #[.int k uk, .none, .none] } } :=
  slice_strN_sn_len F N (fun h' t' tk F' N' _ => by rw [slice_from l k hk]; exact h h' t' tk F' N') hs ht (tx_size hl)
theorem sl_to {k : Nat} {uk : Tok} {Q : Value → Shared → Prop} (F : Fr h₀ L s.heap m) (N : News h₀ L s.heap news) (hk : k ≤ l.length) (hl : l.length ≤ 1000)
    (h : ∀ h' t' tk, Fr h₀ L h' m → News h₀ L h' news → Q (.str (tx (l.take k)) t') { s with heap := h', toks := tk })
    (hs : subscripted slice false (.str (tx l) t) (.ref s.heap.objs.size) = operate [.ref s.heap.objs.size, .str (tx l) t] (getItem (.str (tx l) t) (.ref s.heap.objs.size)))
    (ht : ∀ r, letTemporaryGo value (.str (tx l) t) r = pure ()) :
    wpAny (model prog w) A (subscriptTail value slice (.str (tx l) t) (.ref s.heap.objs.size)) Q E { s with heap := s.heap.push { cls := .type "slice", data := .fields #[.none, .int k uk, .none] } } :=
  slice_strN_ns_len F N (fun h' t' tk F' N' _ => by rw [slice_to l k hk]; exact h h' t' tk F' N') hs ht (tx_size hl)
theorem it_at {k : Nat} {uk : Tok} {Q : Value → Shared → Prop} (hk : k < l.length) (hl : l.length ≤ 1000)
    (h : ∀ t' tk, Q (.str (tx [l.getD k 0]) t') { s with toks := tk })
    (hs : subscripted slice false (.str (tx l) t) (.int k uk) = operate [.str (tx l) t, .int k uk] (getItem (.str (tx l) t) (.int k uk)))
    (ht : ∀ r, letTemporaryGo value (.str (tx l) t) r = pure ()) :
    wpAny (model prog w) A (subscriptTail value slice (.str (tx l) t) (.int k uk)) Q E s :=
  KXi.item (n := l.length) (tx_len l) (by k_extra "li") (by k_extra "li") (by k_extra "li") (fun _ => by rw [item_at l k hk]; exact h _ _) hs ht
theorem it_neg {i : Int} {q : Nat} {uk : Tok} {Q : Value → Shared → Prop} (hi : i = -(q : Int)) (h0 : 0 < q) (hk : q ≤ l.length) (hl : l.length ≤ 1000)
    (h : ∀ t' tk, Q (.str (tx [l.getD (l.length - q) 0]) t') { s with toks := tk })
    (hs : subscripted slice false (.str (tx l) t) (.int i uk) = operate [.str (tx l) t, .int i uk] (getItem (.str (tx l) t) (.int i uk)))
    (ht : ∀ r, letTemporaryGo value (.str (tx l) t) r = pure ()) :
    wpAny (model prog w) A (subscriptTail value slice (.str (tx l) t) (.int i uk)) Q E s := by
  subst hi
  exact KXi.item (n := l.length) (tx_len l) (by k_extra "li") (by k_extra "li") (by k_extra "li") (fun _ => by rw [item_neg l q h0 hk]; exact h _ _) hs ht
theorem it_neg1 {q : Nat} {uk : Tok} {Q : Value → Shared → Prop} (hk : q < l.length) (hl : l.length ≤ 1000)
    (h : ∀ t' tk, Q (.str (tx [l.getD (l.length - (q + 1)) 0]) t') { s with toks := tk })
    (hs : subscripted slice false (.str (tx l) t) (.int (-(q : Int) - 1) uk) = operate [.str (tx l) t, .int (-(q : Int) - 1) uk] (getItem (.str (tx l) t) (.int (-(q : Int) - 1) uk)))
    (ht : ∀ r, letTemporaryGo value (.str (tx l) t) r = pure ()) :
    wpAny (model prog w) A (subscriptTail value slice (.str (tx l) t) (.int (-(q : Int) - 1) uk)) Q E s :=
  it_neg (q := q + 1) (by k_extra "li") (by k_extra "li") (by k_extra "li") hl h hs ht
variable {cn : Str} {cs : Scope} {a : Addr} {ccd : Value}
theorem cutEnd {xa xp : Str} {p1 p2 p3 p4 p5 p6 : Pos} {k3 : Nat} {q : Nat} {t' : Tok} {Q : Value → Shared → Prop} (F : Fr h₀ L s.heap m) (N : News h₀ L s.heap news)
    (ha : m xa = some (.str (tx l) t)) (hp : m xp = some (.int (-(q : Int)) t')) (hq : q ≤ l.length) (hl : l.length ≤ 1000)
    (h : ∀ h' t'' tk, Fr h₀ L h' m → News h₀ L h' news → Q (.str (tx (l.take (l.length - q))) t'') { s with heap := h', toks := tk })
    (hk : cs.kind = .function) (hxa : (envOf cn cs L a ccd).kindOf xa = some .local) (hxp : (envOf cn cs L a ccd).kindOf xp = some .local)
    (hda : (xa == ("__debug__" : Str)) = false) (hdp : (xp == ("__debug__" : Str)) = false) :
    wpAny (model prog w) A (eval (.Subscript (.Name xa p1) (.Slice none (some (.BoolOp .Or [.Name xp p2, .Constant .none k3 p3] p4)) none p5) p6) (envOf cn cs L a ccd)) Q E s := by
  refine Subscript_ (ld F ha ?_ hk hxa hda)
  refine wpAny_Slice (evalPart_none_step (evalPart_some_step (BoolOp_or (ld F hp (truthy_int ?_) hk hxp hdp))))
  by_cases h0 : q = 0
  · subst h0
    have e : ((-((0 : Nat) : Int)) != 0) = false := rfl
    rw [e]
    simp only [Bool.false_eq_true, if_false]
    refine BoolOp_one (Constant_none (evalPart_none_step ?_))
    exact slice_strN_nn_len F N (fun h' t'' tk F' N' _ => by rw [slice_all l]; have := h h' t'' tk F' N'; simpa using this) (by with_unfolding_all rfl) (by intro _; with_unfolding_all rfl) (tx_size hl)
  · have e : ((-((q : Nat) : Int)) != 0) = true := by
      simp only [bne_iff_ne, ne_eq]; k_extra "li"
    rw [e]
    simp only [if_true]
    refine evalPart_none_step ?_
    exact slice_strN_ns_len F N (fun h' t'' tk F' N' _ => by rw [slice_to_neg l q (by k_extra "li") hq]; exact h h' t'' tk F' N') (by with_unfolding_all rfl) (by intro _; with_unfolding_all rfl) (tx_size hl)
end
section
variable {prog : Program} {w : World} {A : Around} {E : Value → Shared → Prop} {s : Shared}
theorem truthy_tx {l : List Nat} {t : Tok} {Q : Bool → Shared → Prop} (hl : l.length ≤ 1000) (h1 : 0 < l.length → ∀ tk, Q true { s with toks := tk }) (h2 : l.length = 0 → ∀ tk, Q false { s with toks := tk }) : wpAny (model prog w) A (truthy (.str (tx l) t)) Q E s := by
  refine P.truthy_str (by rw [tx_len]; k_extra "li") ?_
  by_cases e : l.length = 0
  · have : (((tx l).length : Int) != 0) = false := by rw [tx_len, e]; rfl
    rw [this]; exact h2 e _
  · have : (((tx l).length : Int) != 0) = true := by rw [tx_len]; simp only [bne_iff_ne, ne_eq]; k_extra "li"
    rw [this]; exact h1 (by k_extra "li") _
end

section
variable {prog : Program} {w : World} {A : Around} {E : Value → Shared → Prop} {s : Shared}
theorem len_tx {l : List Nat} {t : Tok} {Q : Value → Shared → Prop} (hl : l.length ≤ 1000) (h : ∀ t' tk, Q (.int l.length t') { s with toks := tk }) : wpAny (model prog w) A (call (.builtin "len") [.str (tx l) t]) Q E s := by
  refine P.len_str (by rw [tx_len]; k_extra "li") ?_
  rw [tx_len]; exact h _ _
end
end
section
theorem ints_of : ∀ (vs : List Value) (ks : List Int), vs.length = ks.length → (∀ (j : Nat) (v : Value), vs[j]? = some v → ∃ t, v = .int (ks.getD j 0) t) → IntsAre vs ks
  | [], [], _, _ => .nil
  | [], _ :: _, e, _ => by simp at e
  | _ :: _, [], e, _ => by simp at e
  | v :: r, k :: ks, e, h => by
    have hx9 := h 0 v rfl
    first | (k_extra "xe2"; clear hx9; intro t ht) | obtain ⟨t, ht⟩ := hx9
    have hv : v = .int k t := by rw [ht]; rfl
    subst hv
    exact .cons _ _ (ints_of r ks (by simpa using e) fun j v hj => by
      have hx9 := h (j + 1) v hj
      first | (k_extra "xe2"; clear hx9; intro t' ht') | obtain ⟨t', ht'⟩ := hx9
      exact ⟨t', by rw [ht']; rfl⟩)
section
variable {prog : Program} {w : World} {A : Around} {E : Value → Shared → Prop} {s : Shared} {env : Env} {h₀ : Heap} {L : Addr} {m : Str → Option Value} {news : List (Addr × Obj)} {Q : Value → Shared → Prop}
theorem lrange {r : Addr} {a b c : Int} {t₀ u₀ v₀ : Tok} {n : Nat} (hh : A.handled = none) (F : Fr h₀ L s.heap m) (N : News h₀ L s.heap news) (hr : IsRange s.heap r a b c t₀ u₀ v₀) (hsmall : Builtin.Range.small a b c = true) (hn : Builtin.Range.rangeSize a b c = (n : Int)) (hz : n ≤ 2 ^ 24)
    (h : ∀ D us k h' tk, Fr h₀ L h' m → News h₀ L h' ((D, listOf (List.toArray us) k) :: news) → (∀ p ∈ news, p.1 < D) → IntsAre us ((List.range n).map fun i => a + (i : Nat) * c) → Q (.ref D) { s with heap := h', toks := tk }) :
    wpAny (model prog w) A (call (.type "list") [.ref r]) Q E s := by
  refine call_list_range hh hr hsmall hn hz fun h' tk acc k hk hD hI => ?_
  have hD' : h'.get? s.heap.objs.size = some (listOf (List.toArray acc.toList) k) := by
    rw [Array.toArray_toList]
    exact hD
  refine h _ acc.toList k h' tk (F.keeps hk) (news_pushed F N hk hD' rfl) (fun p hp => Heap.lt_size (N p hp).1) (ints_of _ _ (by rw [Array.length_toList, List.length_map, List.length_range]; exact hI.1) fun j v hj => ?_)
  have hj' : acc[j]? = some v := by rw [← hj, Array.getElem?_toList]
  have hx9 := hI.2 j v hj'
  first | (k_extra "xe2"; clear hx9; intro t eq9; subst eq9) | obtain ⟨t, rfl⟩ := hx9
  have hlt : j < n := by
    have := (Array.getElem?_eq_some_iff.mp hj').1
    rw [hI.1] at this; exact this
  exact ⟨t, by simp [List.getD, hlt]⟩
theorem fits_long {i : Int} (h1 : -1000000000 ≤ i) (h2 : i ≤ 1000000000) : Builtin.Range.rangeFitsLong i = true := by
  unfold Builtin.Range.rangeFitsLong
  rw [decide_eq_true (by k_extra "li"), decide_eq_true (by k_extra "li")]
  rfl
theorem range2 (n : Nat) (h : 0 < n) (hn : n ≤ 1000) : Builtin.Range.small 2 (2 * ((n : Int) + 1)) 2 = true ∧ Builtin.Range.rangeSize 2 (2 * ((n : Int) + 1)) 2 = (n : Int) := by
  have e : Builtin.Range.rangeSize 2 (2 * ((n : Int) + 1)) 2 = (n : Int) := by
    unfold Builtin.Range.rangeSize
    rw [if_pos (by decide), if_pos (by k_extra "li")]
    k_extra "li"
  refine ⟨?_, e⟩
  unfold Builtin.Range.small
  rw [e, fits_long (i := 2) (by k_extra "li") (by k_extra "li"), fits_long (i := 2 * ((n : Int) + 1)) (by k_extra "li") (by k_extra "li"), fits_long (i := (n : Int)) (by k_extra "li") (by k_extra "li"), if_pos (by k_extra "li"), fits_long (by k_extra "li") (by k_extra "li")]
  simp
theorem forRange0 {σ : Type} {x : Str} {body : List Stmt} {Q : Flow → Shared → Prop} {r : Addr} {b₀ : Int} {t₀ u₀ v₀ : Tok} {n : Nat} {m₀ : Str → Option Value} (Led : σ → List (Addr × Obj)) (ps : σ → List (Str × Value)) (Inv : Nat → σ → Prop) (c₀ : σ)
    (hh : A.handled = none) (hr : IsRange s.heap r 0 b₀ 1 t₀ u₀ v₀) (hb : b₀ = (n : Int)) (hz : n ≤ 1000000) (F : Fr h₀ env.locals s.heap m₀) (N : News h₀ env.locals s.heap (Led c₀))
    (hk : ∀ p ∈ ps c₀, m₀ p.1 = some p.2) (hi : Inv 0 c₀)
    (turn : ∀ (c : σ) (i : Nat) t rr h tk own, i < n → OwnOff own ((Led c₀).map (·.1)) → Inv i c → Fr h₀ env.locals h (kstB rr ((x, .int (i : Int) t) :: ps c)) → News h₀ env.locals h (Led c ++ own) →
      wpAny (model prog w) A (execs body env) (InvPostN h₀ env.locals (TurnJ Led ps Inv (i + 1)) own ((Led c₀).map (·.1)) { s with heap := h, toks := tk } Q) E { s with heap := h, toks := tk })
    (done : ∀ (c : σ) rr h tk, Inv n c → Fr h₀ env.locals h (kstB rr (ps c)) → News h₀ env.locals h (Led c) → Q .next { s with heap := h, toks := tk }) :
    wpAny (model prog w) A (pyIter (.ref r)) (fun it s₂ => LoopAtV prog w A h₀ env x body Q E it s₂) E s := by
  subst hb
  refine forRange Led ps Inv c₀ hh hr (small_one (by k_extra "li") (by k_extra "li") (by k_extra "li") (by k_extra "li")) (by rw [rangeSize_one]; split <;> k_extra "li") F N hk hi ?_ done
  intro c i t rr h tk own hin hoff hi' F₁ N₁
  rw [show (0 : Int) + (i : Int) = (i : Int) from by k_extra "li"] at F₁
  exact turn c i t rr h tk own hin hoff hi' F₁ N₁
end
section
variable {prog : Program} {w : World} {A : Around} {E : Value → Shared → Prop} {s : Shared} {env : Env} {h₀ : Heap} {L : Addr} {m : Str → Option Value} {news : List (Addr × Obj)}
theorem forRev {σ : Type} {x : Str} {body : List Stmt} {Q : Flow → Shared → Prop} {l I : Addr} {us : List Value} {kk : Nat} {m₀ : Str → Option Value} (Led : σ → List (Addr × Obj)) (ps : σ → List (Str × Value)) (Inv : Nat → σ → Prop) (c₀ : σ)
    (hh : A.handled = none) (N : News h₀ env.locals s.heap ((I, revObj l ((us.length : Int) - 1)) :: (l, listOf us.toArray kk) :: Led c₀)) (hne : l ≠ I) (hof : ∀ q ∈ Led c₀, q.1 ≠ I ∧ q.1 ≠ l) (F : Fr h₀ env.locals s.heap m₀)
    (hk : ∀ p ∈ ps c₀, m₀ p.1 = some p.2) (hi : Inv 0 c₀)
    (turn : ∀ (c : σ) (i : Nat) v rr h tk own, i < us.length → us[us.length - 1 - i]? = some v → OwnOff own ((Led c₀).map (·.1)) → Inv i c → Fr h₀ env.locals h (kstB rr ((x, v) :: ps c)) → News h₀ env.locals h (Led c ++ own) →
      wpAny (model prog w) A (execs body env) (InvPostN h₀ env.locals (TurnJ Led ps Inv (i + 1)) own ((Led c₀).map (·.1)) { s with heap := h, toks := tk } Q) E { s with heap := h, toks := tk })
    (done : ∀ (c : σ) rr h tk, Inv us.length c → Fr h₀ env.locals h (kstB rr (ps c)) → News h₀ env.locals h (Led c) → Q .next { s with heap := h, toks := tk }) :
    wpAny (model prog w) A (pyIter (.ref I)) (fun it s₂ => LoopAtV prog w A h₀ env x body Q E it s₂) E s := by
  have hIx := N _ (List.mem_cons_self ..)
  have hax := N _ (List.mem_cons_of_mem _ (List.mem_cons_self ..))
  have hit : s.heap.IsRevIter I l ((us.length : Int) - 1) := ⟨_, hIx.1, rfl, rfl⟩
  have hl : s.heap.IsList l us.toArray := ⟨_, hax.1, rfl, _, rfl⟩
  refine wpAny_pyIter_revIter hit ?_
  have W := Walks.listRev (prog := prog) (w := w) hh I l hne us.toArray
  have hlen : us.toArray.size = us.length := by simp
  rw [hlen] at W
  refine forWalks Led ps Inv c₀ W ?_ ?_ ?_ ⟨Nat.zero_le _, ?_, hl⟩ F (fun p hp => N p (List.mem_cons_of_mem _ (List.mem_cons_of_mem _ hp))) hk hi ?_ done
  · intro hmm
    rcases List.mem_cons.mp hmm with e | hmm
    · exact hIx.2.1 e.symm
    · exact hax.2.1 (List.mem_singleton.mp hmm).symm
  · intro b hb
    rw [List.mem_singleton.mp hb]
    exact hIx.2.2
  · intro q hq hm
    rcases List.mem_cons.mp hm with e | hm
    · exact (hof q hq).1 e
    · exact (hof q hq).2 (List.mem_singleton.mp hm)
  · have e : (us.length : Int) - 1 - ((0 : Nat) : Int) = (us.length : Int) - 1 := by k_extra "li"
    rw [e]; exact hit
  · intro c i v rr h tk own hin hP hoff hi' F₁ N₁
    exact turn c i v rr h tk own hin (by simpa using hP) hoff hi' F₁ N₁
theorem rev_list {D : Addr} {us : List Value} {kk : Nat} {news' : List (Addr × Obj)} {Q : Value → Shared → Prop} (F : Fr h₀ L s.heap m) (N : News h₀ L s.heap news) (U : Upd D (listOf us.toArray kk) (listOf us.reverse.toArray kk) news news') (hz : us.length ≤ 1000000)
    (h : ∀ h', Fr h₀ L h' m → News h₀ L h' news' → Q .none { s with heap := h' }) : wpAny (model prog w) A (call (.builtin "list.reverse") [.ref D]) Q E s :=
  kl_reverse F N (by simp) U (by simp [sizeLine_eq]; k_extra "li") h
theorem app_list {D : Addr} {us : List Value} {kk : Nat} {v : Value} {news' : List (Addr × Obj)} {Q : Value → Shared → Prop} (F : Fr h₀ L s.heap m) (N : News h₀ L s.heap news) (U : Upd D (listOf us.toArray kk) (listOf (us ++ [v]).toArray (kk + 1)) news news') (hz : us.length ≤ 1000000)
    (h : ∀ h', Fr h₀ L h' m → News h₀ L h' news' → Q .none { s with heap := h' }) : wpAny (model prog w) A (call (.builtin "list.append") [.ref D, v]) Q E s := by
  have e : us.toArray.push v = (us ++ [v]).toArray := by simp
  rw [← e] at U
  exact append_K F N U h (by rw [List.size_toArray, sizeLine_eq]; k_extra "li")
end
end
section
theorem and_hi (x k : Nat) : x &&& (x / 2 ^ k * 2 ^ k) = x / 2 ^ k * 2 ^ k := by
  apply Nat.eq_of_testBit_eq
  intro i
  rw [Nat.testBit_and, Nat.mul_comm, Nat.testBit_two_pow_mul]
  by_cases h : k ≤ i
  · simp only [h, decide_true, Bool.true_and]
    rw [Nat.testBit_div_two_pow, show i - k + k = i from by k_extra "li", Bool.and_self]
  · simp [h]
theorem xor_hi (x k : Nat) : Builtin.bitXor (x : Int) ((x / 2 ^ k * 2 ^ k : Nat) : Int) = ((x % 2 ^ k : Nat) : Int) := by
  rw [bitXor_and]
  have e : Builtin.bitAnd (x : Int) ((x / 2 ^ k * 2 ^ k : Nat) : Int) = ((x &&& (x / 2 ^ k * 2 ^ k) : Nat) : Int) := by
    generalize x / 2 ^ k * 2 ^ k = y
    unfold Builtin.bitAnd
    simp
  rw [e, and_hi]
  have := Nat.div_add_mod x (2 ^ k)
  rw [Nat.mul_comm] at this
  k_extra "li"
section
variable {prog : Program} {w : World} {A : Around} {E : Value → Shared → Prop} {s : Shared} {h₀ : Heap} {L : Addr} {m : Str → Option Value} {news : List (Addr × Obj)} {Q : Value → Shared → Prop} {x y k : Nat} {t u : Tok}
theorem rsh_nat (h : ∀ t' tk, Q (.int ((x / 2 ^ k : Nat) : Int) t') { s with toks := tk }) : wpAny (model prog w) A (binaryOp .RShift (.int (x : Int) t) (.int (k : Int) u)) Q E s := by
  refine rshift_int (by k_extra "li") ?_
  have e : (x : Int).fdiv (2 ^ (k : Int).toNat) = ((x / 2 ^ k : Nat) : Int) := by
    rw [Int.toNat_natCast, Int.fdiv_eq_ediv_of_nonneg _ (by exact Int.le_of_lt (Int.pow_pos (by decide)))]
    simp
  rw [e]; exact h _ _
theorem rsh_one (h : ∀ t' tk, Q (.int ((x / 2 : Nat) : Int) t') { s with toks := tk }) : wpAny (model prog w) A (binaryOp .RShift (.int (x : Int) t) (.int 1 u)) Q E s := by
  have := rsh_nat (prog := prog) (w := w) (A := A) (E := E) (s := s) (Q := Q) (x := x) (k := 1) (t := t) (u := u) (by simpa using h)
  simpa using this
theorem lsh_nat (hx : x < 2 ^ 250) (hk : k ≤ 1000) (h : ∀ t' tk, Q (.int ((x * 2 ^ k : Nat) : Int) t') { s with toks := tk }) : wpAny (model prog w) A (binaryOp .LShift (.int (x : Int) t) (.int (k : Int) u)) Q E s := by
  have hb : Builtin.Int.intBits (x : Int) ≤ 250 := intBits_le_iff.mpr (by simpa using hx)
  refine lshift_int (by k_extra "li") (by k_extra "li") ?_
  have e : (x : Int) * 2 ^ (k : Int).toNat = ((x * 2 ^ k : Nat) : Int) := by
    rw [Int.toNat_natCast]; simp
  rw [e]; exact h _ _
theorem xor_nat (h : ∀ t' tk, Q (.int ((x % 2 ^ k : Nat) : Int) t') { s with toks := tk }) : wpAny (model prog w) A (binaryOp .BitXor (.int (x : Int) t) (.int ((x / 2 ^ k * 2 ^ k : Nat) : Int) u)) Q E s := by
  refine xor_int ?_
  rw [xor_hi]; exact h _ _
theorem add_nat (h : ∀ t' tk, Q (.int ((x + y : Nat) : Int) t') { s with toks := tk }) : wpAny (model prog w) A (binaryOp .Add (.int (x : Int) t) (.int (y : Int) u)) Q E s := by
  refine add_int ?_
  have e : (x : Int) + (y : Int) = ((x + y : Nat) : Int) := by simp
  rw [e]; exact h _ _
theorem add_one (h : ∀ t' tk, Q (.int ((x + 1 : Nat) : Int) t') { s with toks := tk }) : wpAny (model prog w) A (binaryOp .Add (.int (x : Int) t) (.int 1 u)) Q E s := by
  refine add_int ?_
  have e : (x : Int) + 1 = ((x + 1 : Nat) : Int) := by simp
  rw [e]; exact h _ _
theorem sub_nat (hxy : y ≤ x) (h : ∀ t' tk, Q (.int ((x - y : Nat) : Int) t') { s with toks := tk }) : wpAny (model prog w) A (binaryOp .Sub (.int (x : Int) t) (.int (y : Int) u)) Q E s := by
  refine sub_int ?_
  have e : (x : Int) - (y : Int) = ((x - y : Nat) : Int) := by k_extra "li"
  rw [e]; exact h _ _
theorem divmod_nat (F : Fr h₀ L s.heap m) (N : News h₀ L s.heap news) (hy : 0 < y) (hb : y < 2 ^ 250)
    (h : ∀ D h' tk t1 t2, Fr h₀ L h' m → News h₀ L h' ((D, { cls := .type "tuple", data := .seq #[.int ((x / y : Nat) : Int) t1, .int ((x % y : Nat) : Int) t2] }) :: news) → (∀ p ∈ news, p.1 < D) → Q (.ref D) { s with heap := h', toks := tk }) :
    wpAny (model prog w) A (call (.builtin "divmod") [.int (x : Int) t, .int (y : Int) u]) Q E s := by
  refine divmod_N F N (by k_extra "li") (fun h' F' N' => ?_) (Or.inl (PyProof.noPylong_of_log2 ?_))
  · have e1 : (x : Int).fdiv y = ((x / y : Nat) : Int) := by rw [Int.fdiv_eq_ediv_of_nonneg _ (by k_extra "li")]; simp
    have e2 : (x : Int).fmod y = ((x % y : Nat) : Int) := by rw [Int.fmod_eq_emod_of_nonneg _ (by k_extra "li")]; simp
    rw [e1, e2] at N'
    exact h _ h' _ _ _ F' N' fun p hp => Heap.lt_size (N p hp).1
  · have : (y : Int).natAbs.log2 < 250 := (Nat.log2_lt (by k_extra "li")).mpr (by simpa using hb)
    k_extra "li"
end

section
variable {prog : Program} {w : World} {A : Around} {E : Value → Shared → Prop} {s : Shared} {Q : Value → Shared → Prop} {x y k : Nat} {t u : Tok}
theorem mul_nat (hx : x < 2 ^ 64) (h : ∀ t' tk, Q (.int ((x * y : Nat) : Int) t') { s with toks := tk }) : wpAny (model prog w) A (binaryOp .Mult (.int (x : Int) t) (.int (y : Int) u)) Q E s := by
  have hb : Builtin.Int.intBits (x : Int) ≤ 64 := intBits_le_iff.mpr (by simpa using hx)
  refine PyProof.Rows.mul_int ?_ (IntMulOk.of_left hb)
  have e : (x : Int) * (y : Int) = ((x * y : Nat) : Int) := by simp
  rw [e]; exact h _ _
end
noncomputable def TbM (P : Addr) (line col : Nat) (qual : Str) (own : List (Addr × Obj)) : Prop :=
  ∃ (c' : Addr) (oc : Obj) (vs : Array Value) (t : Tok), own = [(c', oc), (P, tabObj #[rawInt line, rawInt col, .ref c'])] ∧ oc.data = .fields vs ∧ vs[1]? = some (.str qual t) ∧ c' ≠ P
noncomputable def Tb (P : Addr) (line col : Nat) (qual : Str) (own : List (Addr × Obj)) : Prop :=
  own = [(P, tabObj #[])] ∨ TbM P line col qual own
noncomputable def Off (own others : List (Addr × Obj)) : Prop := ∀ p ∈ own, ∀ q ∈ others, q.1 ≠ p.1
section
variable {M : Model} {A : Around} {E : Value → Shared → Prop} {s : Shared} {h₀ : Heap} {L a c P : Addr} {m mg mb : Str → Option Value} {cn : Str} {cs : Scope} {ccd : Value} {cl : List (Str × Addr)} {own others : List (Addr × Obj)}
  {p : Program} {loose : List Str} {mean : ExcName → Option Value} {name qual : Str} {params : Arguments} {body : List Stmt} {scope : Scope} {pos : Pos} {firstLine : Nat} {clos : List (Str × Addr)}
theorem nest_U {Q : Value → Shared → Prop} (F : Fr h₀ L s.heap m) (N : News h₀ L s.heap (own ++ others)) (T : Top p loose mean mg mb h₀) (C : CodeHd h₀ c P) (hcd : ccd = .ref c) (hT : Tb P pos.line pos.col qual own) (hO : Off own others)
    (hcl : closureFor scope (envX cn cs L a ccd cl) = pure clos)
    (h : ∀ f c' oc vs t ctv doc h' tk, Fr h₀ L h' m →
      News h₀ L h' ((f, fnMade name qual params body scope clos doc ((mg "__name__").getD .none) c' ctv) :: (c', oc) :: (P, tabObj #[rawInt pos.line, rawInt pos.col, .ref c']) :: others) →
      oc.data = .fields vs → vs[1]? = some (.str qual t) → c' < f → P < f → (∀ q ∈ others, q.1 < f) → c' ≠ P → (∀ q ∈ others, q.1 ≠ c') → (∀ q ∈ others, q.1 ≠ P) → (TbM P pos.line pos.col qual own → [(c', oc), (P, tabObj #[rawInt pos.line, rawInt pos.col, .ref c'])] = own) → Q (.ref f) { s with heap := h', toks := tk }) :
    wpAny M A (makeFunction name qual params (.stmts body) scope (envX cn cs L a ccd cl) [] [] [] pos firstLine) Q E s := by
  rcases hT with rfl | ⟨c', oc, vs, t, rfl, hd, hv, hne⟩
  · have hP : ∀ q ∈ others, q.1 ≠ P := fun q hq => hO _ (.head _) q hq
    refine nest_K (ps := #[]) F N T C hcd (UpdF.head hP) trivial rfl hcl fun f c' oc vs t ctv doc h' tk F' N' hd hv hlt hcf => ?_
    have hPc : P < c' := hlt (P, tabObj #[]) (.head _)
    exact h f c' oc vs t ctv doc h' tk F' N' hd hv hcf (Nat.lt_trans hPc hcf) (fun q hq => Nat.lt_trans (hlt q (.tail _ hq)) hcf) (Nat.ne_of_gt hPc) (fun q hq => Nat.ne_of_lt (hlt q (.tail _ hq))) hP (fun ⟨_, _, _, _, e, _⟩ => by simp at e)
  · refine nestHit_K (c' := c') F N T C hcd (.tail _ (.head _)) (by simp [TriplesOk, rawInt]) (by simp [codeAmong, rawInt]) hcl fun f ctv doc h' tk F' N' hlt => ?_
    exact h f c' oc vs t ctv doc h' tk F' N' hd hv (hlt _ (.head _)) (hlt _ (.tail _ (.head _))) (fun q hq => hlt q (.tail _ (.tail _ hq))) hne (fun q hq => hO _ (.head _) q hq) (fun q hq => hO _ (.tail _ (.head _)) q hq) (fun _ => rfl)
end
theorem nestRec {h₀ h : Heap} {L : Addr} {f : Addr} {fo : Obj} {news : List (Addr × Obj)} {G : Prop} (P : Obj → Prop) (N : News h₀ L h ((f, fo) :: news)) (hP : P fo) (k : P fo → G) : G := k hP









section
variable {prog : Program} {w : World} {A : Around} {E : Value → Shared → Prop} {s : Shared} {h₀ : Heap} {L : Addr} {m : Str → Option Value} {news : List (Addr × Obj)} {Q : Value → Shared → Prop} {x y k : Nat} {t u : Tok}
theorem sub_one (hx : 1 ≤ x) (h : ∀ t' tk, Q (.int ((x - 1 : Nat) : Int) t') { s with toks := tk }) : wpAny (model prog w) A (binaryOp .Sub (.int (x : Int) t) (.int 1 u)) Q E s := by
  refine PyProof.Rows.sub_int ?_
  have e : (x : Int) - 1 = ((x - 1 : Nat) : Int) := by k_extra "li"
  rw [e]; exact h _ _
theorem div_nat (hy : 0 < y) (hb : y < 2 ^ 250) (h : ∀ t' tk, Q (.int ((x / y : Nat) : Int) t') { s with toks := tk }) : wpAny (model prog w) A (binaryOp .FloorDiv (.int (x : Int) t) (.int (y : Int) u)) Q E s := by
  have e : (x : Int).fdiv y = ((x / y : Nat) : Int) := by rw [Int.fdiv_eq_ediv_of_nonneg _ (by k_extra "li")]; simp
  refine floordiv_int (by k_extra "li") ?_ (Or.inl (PyProof.noPylong_of_log2 ?_))
  · rw [e]; exact h _ _
  · have : (y : Int).natAbs.log2 < 250 := (Nat.log2_lt (by k_extra "li")).mpr (by simpa using hb)
    k_extra "li"
theorem flat_one {α : Type} (v : α) : ∀ n : Nat, (List.replicate n [v]).flatten = List.replicate n v
  | 0 => rfl
  | n + 1 => by simp [List.replicate_succ, flat_one v n]
theorem rep_nat {l : Addr} {kk : Nat} {z : Int} {tz : Tok} (F : Fr h₀ L s.heap m) (N : News h₀ L s.heap news) (hm : (l, listOf #[.int z tz] kk) ∈ news) (hx : x ≤ 1000000)
    (h : ∀ D h' tk, Fr h₀ L h' m → News h₀ L h' ((D, listOf (List.replicate x (.int z tz)).toArray 0) :: news) → (∀ p ∈ news, p.1 < D) → IntsAre (List.replicate x (.int z tz)) (List.replicate x z) → Q (.ref D) { s with heap := h', toks := tk }) :
    wpAny (model prog w) A (binaryOp .Mult (.ref l) (.int (x : Int) u)) Q E s := by
  have hi : IntsAre [Value.int z tz] [z] := .cons _ _ .nil
  refine KM.mul (vs := [.int z tz]) F N (PySem.IsL.isList (n := kk) (N _ hm).1) hi (by k_extra "li") (by k_extra "li") (by rw [Int.toNat_natCast, List.length_singleton]; k_extra "li") fun D h' F' N' l1 i1 _ _ _ _ _ => ?_
  simp only [Int.toNat_natCast, flat_one] at N' i1
  exact h D h' s.toks F' N' l1 i1
end
theorem allLt_mem {d : Addr} {l : List (Addr × Obj)} : AllLt d l → ∀ p ∈ l, p.1 < d := by
  induction l with
  | nil => intro _ p hp; exact nomatch hp
  | cons q r ih =>
    intro h p hp
    rcases List.mem_cons.mp hp with e | hp
    · rw [e]; exact h.1
    · exact ih h.2 p hp



theorem ledTail {h₀ h : Heap} {L : Addr} {a b c : Addr × Obj} {x y : List (Addr × Obj)} (N : News h₀ L h (a :: b :: c :: (x ++ y))) : News h₀ L h (a :: b :: c :: (y ++ x)) :=
  News.perm N (by k_extra "psub")
end
section
section
variable {prog : Program} {w : World} {A : Around} {E : Value → Shared → Prop} {s : Shared} {env : Env}
theorem seqQ {st : Stmt} {rest : List Stmt} {Q : Flow → Shared → Prop} (P : Heap → Prop)
    (h : ∀ Q' : Flow → Shared → Prop, (∀ h' tk, P h' → Q' .next { s with heap := h', toks := tk }) → (∀ v s', Q (.ret v) s' → Q' (.ret v) s') → wpAny (model prog w) A (exec st env) Q' E s)
    (k : ∀ h' tk, P h' → wpAny (model prog w) A (execs rest env) Q E { s with heap := h', toks := tk }) :
    wpAny (model prog w) A (execs (st :: rest) env) Q E s :=
  seqN P (h _ (fun h' tk hp => .inl ⟨rfl, h', tk, rfl, hp⟩) fun v s' hq => .inr ⟨v, rfl, hq⟩) k
theorem whileQ {test : Expr} {body : List Stmt} {pos : Pos} {Q : Flow → Shared → Prop} {n₀ : Nat} (I : Nat → Heap → Prop) (h0 : I n₀ s.heap)
    (turn : ∀ n h tk, I n h → ∀ (QT : Flow → Shared → Prop) (QX : Shared → Prop), (∀ h' tk' n', n' < n → I n' h' → QT .next { s with heap := h', toks := tk' }) → (∀ v s', Q (.ret v) s' → QT (.ret v) s') → (∀ s', Q .next s' → QX s') →
        wpAny (model prog w) A (isTrue test env (eval test env)) (fun b s₂ =>
        if b = true then wpAny (model prog w) A (execs body env) QT NoE s₂ else QX s₂) NoE { s with heap := h, toks := tk }) :
    wpAny (model prog w) A (exec (.While test body [] pos) env) Q NoE s :=
  whileH I h0 fun n h tk hi => turn n h tk hi (WhEnd I Q s n) (Q .next) (fun h' tk' n' hn hi' => ⟨h', tk', n', rfl, hn, hi'⟩) (fun v s' hq => hq) (fun s' hq => hq)
end
section
variable {prog : Program} {w : World} {A : Around} {E : Value → Shared → Prop} {s : Shared} {env : Env} {h₀ : Heap}
theorem turnQ {σ : Type} {body : List Stmt} {Led : σ → List (Addr × Obj)} {ps : σ → List (Str × Value)} {Inv : Nat → σ → Prop} {i : Nat} {own : List (Addr × Obj)} {adr : List Addr} {s₁ : Shared} {Q : Flow → Shared → Prop}
    (h : ∀ QT : Flow → Shared → Prop, (∀ (c : σ) {h' : Heap} {tk : Nat} {m' : Str → Option Value} {news' : List (Addr × Obj)}, Fr h₀ env.locals h' m' → News h₀ env.locals h' news' → news' = Led c ++ own → (Led c).map (·.1) = adr → (∀ p ∈ ps c, m' p.1 = some p.2) → Inv i c → QT .next { s₁ with heap := h', toks := tk }) →
      (∀ v s', Q (.ret v) s' → QT (.ret v) s') → wpAny (model prog w) A (execs body env) QT E s) :
    wpAny (model prog w) A (execs body env) (InvPostN h₀ env.locals (TurnJ Led ps Inv i) own adr s₁ Q) E s :=
  h _ (fun c h' tk m' news' F N e ha hk hi => turnEnd c F N e ha hk hi) fun v s' hq => hq
end
end
section
theorem div2_c (w : World) (loose : List Str) (mean : ExcName → Option Value) (mg mb : Str → Option Value) : ∀ (news : CbLed) (a : Nat) (ta : Tok) (b : Nat) (tb : Tok) (n : Nat) (tn : Tok), a < 2 ^ 200 → 0 < b → b < 2 ^ 250 →
   Cl PySem.Challenge.rw_sr0059_01.row.prog w (K39 w.params) topProg loose mean mg mb 112 1 8 news [.int (a : Int) ta, .int (b : Int) tb, .int (n : Int) tn] (fun r news' => ∃ D t1 t2, r = .ref D ∧ news' = (D, { cls := .type "tuple", data := .seq #[.int ((a / b : Nat) : Int) t1, .int ((a % b : Nat) : Int) t2] }) :: news ∧ ∀ p ∈ news, p.1 < D) := by
  k_fill
  intro news a ta b tb n tn ha hb hb2
  refine Cl.mk ?_
  intro dp un gd cn cs ca ccd cl outer A₀ base h₀ L m s Q E kB kF kX kN kT kcs kd ku hret
  have hbits : Builtin.Int.intBits (a : Int) ≤ 200 := intBits_le_iff.mpr (by simpa using ha)
  refine wpAny_call ?_
  k_extra "enter"
  intro g L1 h1 FG F0 N B X T
  dsimp only
  refine noE ?_
  k_fold
  k_gentoks
  k_extra "ks"
  exact hret _ _ _ _ (by assumption) (by assumption) ⟨_, _, _, rfl, rfl, by assumption⟩
end
section
noncomputable def dg (n k x : Nat) : List Int := (List.range k).map fun i => ((x / 2 ^ (n * i) % 2 ^ n : Nat) : Int)
noncomputable def spl (ks : List Int) (lo : Nat) (d : List Int) : List Int := ks.take lo ++ d ++ ks.drop (lo + d.length)
theorem dg_len (n k x : Nat) : (dg n k x).length = k := by simp [dg]
theorem dg_one {n x : Nat} (h : x < 2 ^ n) : dg n 1 x = [(x : Int)] := by
  show [((x / 2 ^ (n * 0) % 2 ^ n : Nat) : Int)] = _
  rw [Nat.mul_zero, Nat.pow_zero, Nat.div_one, Nat.mod_eq_of_lt h]
theorem dg_add (n p q x : Nat) : dg n (p + q) x = dg n p (x % 2 ^ (p * n)) ++ dg n q (x / 2 ^ (p * n)) := by
  unfold dg
  rw [List.range_add, List.map_append, List.map_map]
  congr 1
  · apply List.map_congr_left
    intro i hi
    have hi' := List.mem_range.mp hi
    have e : 2 ^ (p * n) = 2 ^ (n * i) * 2 ^ (n * (p - i)) := by
      rw [← Nat.pow_add, ← Nat.mul_add, Nat.add_sub_cancel' (Nat.le_of_lt hi'), Nat.mul_comm]
    have h2 : 2 ^ (n * (p - i)) = 2 ^ n * 2 ^ (n * (p - i - 1)) := by
      rw [← Nat.pow_add]
      congr 1
      have : p - i = 1 + (p - i - 1) := by k_extra "li"
      conv => lhs; rw [this, Nat.mul_add, Nat.mul_one]
    rw [e, Nat.mod_mul_right_div_self, h2, Nat.mod_mul_right_mod]
  · apply List.map_congr_left
    intro i _
    simp only [Function.comp]
    rw [Nat.div_div_eq_div_mul, ← Nat.pow_add, Nat.mul_add, Nat.mul_comm p n]
theorem spl_set {ks : List Int} {lo : Nat} (h : lo < ks.length) (v : Int) : ks.set lo v = spl ks lo [v] := by
  unfold spl
  rw [List.set_eq_take_append_cons_drop, if_pos h]
  simp
theorem spl_spl {ks : List Int} {lo : Nat} {d e : List Int} (h : lo + d.length + e.length ≤ ks.length) : spl (spl ks lo d) (lo + d.length) e = spl ks lo (d ++ e) := by
  unfold spl
  have h1 : (ks.take lo).length = lo := by rw [List.length_take]; k_extra "li"
  have h2 : (ks.take lo ++ d).length = lo + d.length := by rw [List.length_append, h1]
  rw [List.take_append_of_le_length (by k_extra "li"), List.take_of_length_le (by k_extra "li"), List.drop_append, List.drop_of_length_le (by k_extra "li")]
  rw [h2, List.drop_drop, List.length_append]
  simp only [List.nil_append, List.append_assoc]
  congr 3
  congr 1
  k_extra "li"
theorem spl_len {ks : List Int} {lo : Nat} {d : List Int} (h : lo + d.length ≤ ks.length) : (spl ks lo d).length = ks.length := by
  unfold spl
  simp only [List.length_append, List.length_take, List.length_drop]
  k_extra "li"
theorem spl_all {ks d : List Int} (h : d.length = ks.length) : spl ks 0 d = d := by
  unfold spl
  simp [h]
theorem dg_dg {n p q x : Nat} {ks : List Int} {lo : Nat} (h : lo + p + q ≤ ks.length) : spl (spl ks lo (dg n p (x % 2 ^ (p * n)))) (lo + p) (dg n q (x / 2 ^ (p * n))) = spl ks lo (dg n (p + q) x) := by
  have e := spl_spl (ks := ks) (lo := lo) (d := dg n p (x % 2 ^ (p * n))) (e := dg n q (x / 2 ^ (p * n))) (by rw [dg_len, dg_len]; k_extra "li")
  rw [dg_len] at e
  rw [e, ← dg_add]
noncomputable def nd (n a : Nat) : Nat := (Builtin.Int.intBits (a : Int) + n - 1) / n
theorem nd_zero {n : Nat} (h : 1 ≤ n) : nd n 0 = 0 := by
  unfold nd
  have e : Builtin.Int.intBits ((0 : Nat) : Int) = 0 := rfl
  rw [e, Nat.zero_add]
  exact Nat.div_eq_of_lt (by k_extra "li")
theorem nd_bound {n a : Nat} (h : 1 ≤ n) : a < 2 ^ (n * nd n a) := by
  have h1 : a < 2 ^ Builtin.Int.intBits (a : Int) := by simpa using intBits_le_iff.mp (Nat.le_refl (Builtin.Int.intBits (a : Int)))
  refine Nat.lt_of_lt_of_le h1 (Nat.pow_le_pow_right (by decide) ?_)
  unfold nd
  generalize Builtin.Int.intBits (a : Int) = b
  have h2 := Nat.div_add_mod (b + n - 1) n
  have h3 := Nat.mod_lt (b + n - 1) (show n > 0 from h)
  k_extra "li"
theorem nd_pos {n a : Nat} (h : 1 ≤ n) (ha : a ≠ 0) : 0 < nd n a := by
  false_or_by_contra
  have h0 : nd n a = 0 := by k_extra "li"
  have := nd_bound (n := n) (a := a) h
  rw [h0, Nat.mul_zero, Nat.pow_zero] at this
  k_extra "li"
noncomputable def dvl (n : Nat) : List Nat → Nat
  | [] => 0
  | q :: r => q + 2 ^ n * dvl n r
theorem dvl_append (n : Nat) : ∀ x y : List Nat, dvl n (x ++ y) = dvl n x + 2 ^ (n * x.length) * dvl n y
  | [], y => by simp [dvl]
  | q :: r, y => by
    simp only [List.cons_append, dvl, dvl_append n r y, List.length_cons]
    rw [Nat.mul_add, Nat.mul_add, Nat.mul_one, Nat.pow_add, Nat.mul_comm (2 ^ (n * r.length)) (2 ^ n), Nat.mul_assoc, Nat.add_assoc]
theorem dvl_lt (n : Nat) : ∀ x : List Nat, (∀ q ∈ x, q < 2 ^ n) → dvl n x < 2 ^ (n * x.length)
  | [], _ => by simp [dvl]
  | q :: r, h => by
    have h1 := h q (.head _)
    have h2 := dvl_lt n r fun p hp => h p (.tail _ hp)
    simp only [dvl, List.length_cons]
    rw [Nat.mul_add, Nat.mul_one, Nat.pow_add, Nat.mul_comm (2 ^ (n * r.length)) (2 ^ n)]
    have h3 : 2 ^ n * (dvl n r + 1) ≤ 2 ^ n * 2 ^ (n * r.length) := Nat.mul_le_mul_left _ h2
    rw [Nat.mul_add, Nat.mul_one] at h3
    k_extra "li"
theorem dvl_split (n : Nat) (qs : List Nat) {lo mid hi : Nat} (h1 : lo ≤ mid) (h2 : mid ≤ hi) (h3 : hi ≤ qs.length) :
    dvl n ((qs.drop lo).take (hi - lo)) = dvl n ((qs.drop mid).take (hi - mid)) * 2 ^ ((mid - lo) * n) + dvl n ((qs.drop lo).take (mid - lo)) := by
  have e : (qs.drop lo).take (hi - lo) = (qs.drop lo).take (mid - lo) ++ (qs.drop mid).take (hi - mid) := by
    have e1 : hi - lo = (mid - lo) + (hi - mid) := by k_extra "li"
    rw [e1, List.take_add, List.drop_drop, show lo + (mid - lo) = mid from by k_extra "li"]
  rw [e, dvl_append, List.length_take, List.length_drop, Nat.min_eq_left (by k_extra "li"), Nat.mul_comm n, Nat.mul_comm (2 ^ _), Nat.add_comm]
theorem dvl_one (n : Nat) (qs : List Nat) {lo : Nat} (h : lo < qs.length) : dvl n ((qs.drop lo).take 1) = qs.getD lo 0 := by
  rw [List.drop_eq_getElem_cons h, List.take_succ_cons, List.take_zero]
  simp only [dvl]
  simp [List.getD, h]
theorem dvl_part (n : Nat) (qs : List Nat) (hq : ∀ q ∈ qs, q < 2 ^ n) (lo k : Nat) : dvl n ((qs.drop lo).take k) < 2 ^ (n * qs.length) := by
  refine Nat.lt_of_lt_of_le (dvl_lt n _ fun q h => hq q (List.mem_of_mem_drop (List.mem_of_mem_take h))) (Nat.pow_le_pow_right (by decide) (Nat.mul_le_mul_left _ ?_))
  rw [List.length_take, List.length_drop]
  k_extra "li"
theorem div_step {a b n N i : Nat} (hb : 0 < b) (hi : i < N) :
    ((a / 2 ^ (n * (N - i)) % b) * 2 ^ n + a / 2 ^ (n * (N - 1 - i)) % 2 ^ n) % b = a / 2 ^ (n * (N - (i + 1))) % b ∧
    a / 2 ^ (n * (N - (i + 1))) / b = ((a / 2 ^ (n * (N - i)) % b) * 2 ^ n + a / 2 ^ (n * (N - 1 - i)) % 2 ^ n) / b + 2 ^ n * (a / 2 ^ (n * (N - i)) / b) := by
  have e1 : N - (i + 1) = N - 1 - i := by k_extra "li"
  have e2 : a / 2 ^ (n * (N - i)) = a / 2 ^ (n * (N - 1 - i)) / 2 ^ n := by
    rw [Nat.div_div_eq_div_mul, ← Nat.pow_add]
    congr 2
    have : N - i = N - 1 - i + 1 := by k_extra "li"
    rw [this, Nat.mul_add, Nat.mul_one]
  rw [e1, e2]
  generalize a / 2 ^ (n * (N - 1 - i)) = A
  have h1 := Nat.div_add_mod A (2 ^ n)
  have h2 := Nat.div_add_mod (A / 2 ^ n) b
  generalize hx : A / 2 ^ n / b = q at *
  generalize hy : A / 2 ^ n % b = r at *
  generalize hd : A % 2 ^ n = d at *
  have h3 : A = r * 2 ^ n + d + b * (2 ^ n * q) := by
    rw [← h1, ← h2, Nat.mul_add, Nat.mul_comm (2 ^ n) r, Nat.mul_left_comm]
    k_extra "li"
  constructor
  · conv => rhs; rw [h3]
    rw [Nat.add_mul_mod_self_left]
  · conv => lhs; rw [h3]
    rw [Nat.add_mul_div_left _ _ hb]
theorem div_digit {b n r d : Nat} (hr : r < b) (hd : d < 2 ^ n) : (r * 2 ^ n + d) / b < 2 ^ n := by
  refine Nat.div_lt_of_lt_mul ?_
  have : (r + 1) * 2 ^ n ≤ b * 2 ^ n := Nat.mul_le_mul_right _ hr
  rw [Nat.add_mul] at this
  k_extra "li"
end
section
theorem i2d_c (w : World) (loose : List Str) (mean : ExcName → Option Value) (mg mb : Str → Option Value) : ∀ (own news : CbLed) (a : Nat) (ta : Tok) (n : Nat) (tn : Tok), a < 2 ^ 40 → 1 ≤ n → n ≤ 40 → Tb 121 70 4 "_int2digits.<locals>.inner" own → Off own news →
   ClB (fun b => CodeHd b 125 121) PySem.Challenge.rw_sr0059_01.row.prog w (K39 w.params) topProg loose mean mg mb 126 45 450 (own ++ news) [.int (a : Int) ta, .int (n : Int) tn] (fun r nx => ∃ (D : Addr) (us : List Value) (own' : CbLed), r = .ref D ∧ nx = (D, listOf us.toArray 0) :: (own' ++ news) ∧ TbM 121 70 4 "_int2digits.<locals>.inner" own' ∧ (TbM 121 70 4 "_int2digits.<locals>.inner" own → own' = own) ∧ Off own' news ∧ (∀ p ∈ own' ++ news, p.1 ≠ D) ∧ IntsAre us (dg n (nd n a) a)) := by
  k_fill
  intro own news a ta n tn ha hn1 hn2 hT hO
  refine ClB.mk ?_
  intro dp un gd cn cs ca ccd cl outer A₀ base h₀ L m s Q E kP kB kF kX kN kT kcs kd ku hret
  have hbits : Builtin.Int.intBits (a : Int) ≤ 40 := intBits_le_iff.mpr (by simpa using ha)
  have hn0 : 0 < n := hn1
  have hn3 : n < 2 ^ 250 := Nat.lt_of_le_of_lt hn2 (by decide)
  have hN : (Builtin.Int.intBits (a : Int) + n - 1) / n ≤ 1000000 := Nat.le_trans (Nat.div_le_self _ _) (Nat.le_trans (nt_ib hbits hn2) (by decide))
  refine wpAny_call ?_
  k_extra "enterC"
  intro g L1 h1 tk1 cells FG F0 N Y B X T l1
  k_cells Y
  simp only [List.cons_append, List.nil_append] at N
  rename_i o1 o2 o3 d1 d2 d3
  replace d1 : o1.data = .cell none := d1
  replace d2 : o2.data = .cell none := d2
  replace d3 : o3.data = .cell (some (.int (n : Int) tn)) := d3
  have q1 : ∀ p ∈ own ++ news, p.1 < L1 + 1 := fun p hp => Nat.lt_succ_of_lt (l1 p hp)
  have q2 : ∀ p ∈ own ++ news, p.1 < L1 + 1 + 1 := fun p hp => Nat.lt_succ_of_lt (q1 p hp)
  have q3 : ∀ p ∈ own ++ news, p.1 < L1 + 1 + 1 + 1 := fun p hp => Nat.lt_succ_of_lt (q2 p hp)
  dsimp only
  refine noE ?_
  k_fold
  try k_gentoks
  have hx9 : Loc g L1 h1 [("a", .int (a : Int) ta)] := loc F0 (by k_extra "kn_all")
  first | (k_extra "xe2"; clear hx9; intro r1 F) | obtain ⟨r1, F⟩ := hx9
  clear F0
  refine seqQ (fun h => ∃ (D : Addr) (t : Tok) (o2' : Obj), Loc g L1 h [("a", .int (a : Int) ta)] ∧ News g L1 h ((own ++ news) ++ [(D, listOf (List.replicate ((Builtin.Int.intBits (a : Int) + n - 1) / n) (.int 0 t)).toArray 0), (L1 + 1 + 1 + 1, o1), (L1 + 1 + 1, o2'), (L1 + 1, o3)]) ∧ o2'.data = .cell (some (.ref D)) ∧ L1 + 1 + 1 + 1 < D ∧ (∀ p ∈ own ++ news, p.1 < D) ∧ IntsAre (List.replicate ((Builtin.Int.intBits (a : Int) + n - 1) / n) (.int 0 t)) (List.replicate ((Builtin.Int.intBits (a : Int) + n - 1) / n) 0)) ?_ ?_
  · intro Qn hN hRt
    k_extra "ks"
    rename_i lfact _ _ _ _ _
    refine hN _ _ ⟨_, _, _, by k_extra "lo", News.perm (by assumption) ?_, by assumption, lfact.2.1, allLt_mem lfact.2.2.2.2, by assumption⟩
    k_extra "psub"
  intro h2 tk2 hP
  first | (revert hP; intro hx9; k_extra "xe9"; clear hx9; intro D t2 o2' hx9; (first | (k_extra "xq2"; clear hx9; intro r2 F2) | obtain ⟨r2, F2⟩ := hx9); intro N2 d2' hD1 hD2 I2) | obtain ⟨D, t2, o2', ⟨r2, F2⟩, N2, d2', hD1, hD2, I2⟩ := hP
  clear F N
  dsimp only
  generalize hNN : (Builtin.Int.intBits (a : Int) + n - 1) / n = NN at *
  have hnd : nd n a = NN := hNN
  refine wpAny_execs_cons (nestDef_K rfl rfl rfl ?_)
  refine nest_U (own := own) (others := news ++ [(D, listOf (List.replicate NN (.int 0 t2)).toArray 0), (L1 + 1 + 1 + 1, o1), (L1 + 1 + 1, o2'), (L1 + 1, o3)]) F2 (News.perm N2 (by k_extra "psub")) (by assumption) (CodeHd.keeps kP (Below.stays B)) rfl hT ?_ rfl ?_
  · intro p hp q hq
    rcases List.mem_append.mp hq with hq | hq
    · exact hO p hp q hq
    · have e1 : @LT.lt Nat _ p.1 L1 := l1 p (List.mem_append_left _ hp)
      have e2 : @LT.lt Nat _ p.1 D := hD2 p (List.mem_append_left _ hp)
      simp only [List.mem_cons, List.not_mem_nil, or_false] at hq
      rcases hq with rfl | rfl | rfl | rfl <;> (refine neN ?_; dsimp only; k_extra "li")
  intro f c' oc vs tq ctv doc h3 tk3 F3 N3 hoc hvs hcf hPf hqf hcP hqc hqP hsame
  have x1 := ltN (hqf _ (List.mem_append_right _ (.head _)))
  have x2 := neN (hqc _ (List.mem_append_right _ (.head _)))
  have x3 := neN (hqP _ (List.mem_append_right _ (.head _)))
  have y1 := ltN (hqf _ (List.mem_append_right _ (.tail _ (.head _))))
  have y2 := neN (hqc _ (List.mem_append_right _ (.tail _ (.head _))))
  have y3 := neN (hqP _ (List.mem_append_right _ (.tail _ (.head _))))
  have z1 := ltN (hqf _ (List.mem_append_right _ (.tail _ (.tail _ (.head _)))))
  have z2 := neN (hqc _ (List.mem_append_right _ (.tail _ (.tail _ (.head _)))))
  have z3 := neN (hqP _ (List.mem_append_right _ (.tail _ (.tail _ (.head _)))))
  have u1 := ltN (hqf _ (List.mem_append_right _ (.tail _ (.tail _ (.tail _ (.head _))))))
  have u2 := neN (hqc _ (List.mem_append_right _ (.tail _ (.tail _ (.tail _ (.head _))))))
  have u3 := neN (hqP _ (List.mem_append_right _ (.tail _ (.tail _ (.tail _ (.head _))))))
  have hcf' := ltN hcf
  have hPf' := ltN hPf
  have hcP' := neN hcP
  have hD1' := ltN hD1
  have nf : ∀ p ∈ news, p.1 < f := fun p hp => hqf p (List.mem_append_left _ hp)
  have nc : ∀ p ∈ news, p.1 ≠ c' := fun p hp => hqc p (List.mem_append_left _ hp)
  have nP : ∀ p ∈ news, p.1 ≠ 121 := fun p hp => hqP p (List.mem_append_left _ hp)
  have nD : ∀ p ∈ news, p.1 < D := fun p hp => hD2 p (List.mem_append_right _ hp)
  have n1 : ∀ p ∈ news, p.1 < L1 + 1 := fun p hp => q1 p (List.mem_append_right _ hp)
  have n2 : ∀ p ∈ news, p.1 < L1 + 1 + 1 := fun p hp => q2 p (List.mem_append_right _ hp)
  have n3 : ∀ p ∈ news, p.1 < L1 + 1 + 1 + 1 := fun p hp => q3 p (List.mem_append_right _ hp)
  dsimp only at x1 x2 x3 y1 y2 y3 z1 z2 z3 u1 u2 u3
  replace N3 := ledTail N3
  simp only [List.cons_append, List.nil_append] at N3
  clear N2 F2 hqf hqc hqP
  k_extra "ks1"
  k_extra "ks1"
  rename_i h4 o1' F4 N4 d4
  have hnN : n * NN ≤ 80 := by
    have := Nat.div_mul_le_self (Builtin.Int.intBits (a : Int) + n - 1) n
    rw [hNN, Nat.mul_comm] at this
    exact Nat.le_trans this (nt_ib hbits hn2)
  refine nestRec (fun fo => ∀ (fuel : Nat) (us : List Value) (ks : List Int) (x : Nat) (tx tL tR : Tok) (lo hi : Nat), hi - lo ≤ fuel → fuel ≤ 40 → lo < hi → hi ≤ ks.length → n * ks.length ≤ 80 → IntsAre us ks → x < 2 ^ (n * (hi - lo)) →
    ClB (fun b => CodeHd b 125 121) PySem.Challenge.rw_sr0059_01.row.prog w (K39 w.params) topProg loose mean mg mb f (fuel + 1) (10 * fuel + 10) ((f, fo) :: (c', oc) :: (121, tabObj #[rawInt 70 , rawInt 4, .ref c']) :: (D, listOf us.toArray 0) :: (L1 + 1 + 1 + 1, o1') :: (L1 + 1 + 1, o2') :: (L1 + 1, o3) :: news) [.int (x : Int) tx, .int (lo : Int) tL, .int (hi : Int) tR]
      (fun r nx => r = .none ∧ ∃ us', nx = ((f, fo) :: (c', oc) :: (121, tabObj #[rawInt 70 , rawInt 4, .ref c']) :: (D, listOf us'.toArray 0) :: (L1 + 1 + 1 + 1, o1') :: (L1 + 1 + 1, o2') :: (L1 + 1, o3) :: news) ∧ IntsAre us' (spl ks lo (dg n (hi - lo) x)))) N4 ?_ ?_
  · clear F4 N4 hNN hN I2
    intro fuel
    induction fuel with
    | zero => exact fun _ _ _ _ _ _ _ _ h1 _ h3 => absurd h3 (nt_z h1)
    | succ fuel ih =>
      intro us ks x tx tL tR lo hi hf1 hf2 hlo hhi hk hI hx
      refine ClB.mk ?_
      intro dp un gd cn cs ca ccd cl outer A₀ base' h₀ L m s Q E kP kB kF kX kN kT kcs kd ku hret
      refine wpAny_call ?_
      k_extra "enterN"
      · exact codeRec_news kN (by k_mem) hoc hvs
      intro g2 L2 h5 FG2 F5 N5 B5 X5 T5
      dsimp only
      refine noE ?_
      k_fold
      try k_gentoks
      have hkl : ks.length ≤ 80 := by
        have : 1 * ks.length ≤ n * ks.length := Nat.mul_le_mul_right _ hn1
        rw [Nat.one_mul] at this
        exact Nat.le_trans this hk
      have hle := nt_mid0 hlo
      have hml := nt_half hlo hhi
      have hf3 := Nat.le_of_succ_le hf2
      have hshl : ((lo + hi) / 2 - lo) * n ≤ 80 := by
        have : n * ((lo + hi) / 2 - lo) ≤ n * ks.length := Nat.mul_le_mul_left _ (Nat.le_trans (Nat.sub_le _ _) hml)
        rw [Nat.mul_comm n ((lo + hi) / 2 - lo)] at this
        exact Nat.le_trans this hk
      have hxb : x < 2 ^ 80 := Nat.lt_of_lt_of_le hx (Nat.pow_le_pow_right (by decide) (by
        have : n * (hi - lo) ≤ n * ks.length := Nat.mul_le_mul_left _ (Nat.le_trans (Nat.sub_le _ _) hhi)
        exact Nat.le_trans this hk))
      have hup : x / 2 ^ (((lo + hi) / 2 - lo) * n) < 2 ^ 250 := Nat.lt_of_le_of_lt (Nat.div_le_self _ _) (Nat.lt_of_lt_of_le hxb (Nat.pow_le_pow_right (by decide) (by decide)))
      k_extra "ks"
      · -- a digit
        refine hret _ _ _ _ (by assumption) (by assumption) ⟨rfl, _, rfl, ?_⟩
        have e1 : hi = lo + 1 := nt_suc (by assumption)
        subst e1
        rw [show lo + 1 - lo = 1 from Nat.add_sub_cancel_left _ _] at hx ⊢
        rw [Nat.mul_one] at hx
        rw [dg_one hx, ← spl_set hhi]
        assumption
      · have hlm : lo < (lo + hi) / 2 := nt_mid1 hlo (by assumption)
        have hmh : (lo + hi) / 2 < hi := nt_mid2 hlo
        clear hup hshl
        generalize (lo + hi) / 2 = mid at *
        (k_dflt (refine' ClB.use (ih us ks _ _ _ _ _ _ ?q1 ?q2 ?q3 ?q4 ?q5 ?q6 ?q7) ?k0 ?k1 ?k2 ?k3 ?k4 ?k5 ?kK ?kd ?ku ?_; k_extra "clb_use"))
        case q1 => exact nt_m1 hf1 hlm hmh
        case q2 => exact hf3
        case q3 => exact hlm
        case q4 => exact hml
        case q5 => assumption
        case q6 => assumption
        case q7 => rw [Nat.mul_comm n]; exact Nat.mod_lt _ (Nat.pow_pos (by decide))
        intro r nx h6 tk6 F6 N6 hR
        first | (revert hR; intro hx9; k_extra "xe4"; clear hx9; intro e1 us6 e2 I6) | obtain ⟨e1, us6, e2, I6⟩ := hR
        subst e1
        subst e2
        dsimp only
        have hl6 := spl_len (ks := ks) (lo := lo) (d := dg n (mid - lo) (x % 2 ^ ((mid - lo) * n))) (by rw [dg_len, nt_m4 hle]; exact hml)
        k_extra "ks"
        (k_dflt (refine' ClB.use (ih us6 (spl ks lo (dg n (mid - lo) (x % 2 ^ ((mid - lo) * n)))) _ _ _ _ _ _ ?q1 ?q2 ?q3 ?q4 ?q5 ?q6 ?q7) ?k0 ?k1 ?k2 ?k3 ?k4 ?k5 ?kK ?kd ?ku ?_; k_extra "clb_use"))
        case q1 => exact nt_m2 hf1 hlm hmh
        case q2 => exact hf3
        case q3 => exact hmh
        case q4 => rw [hl6]; exact hhi
        case q5 => rw [hl6]; assumption
        case q6 => exact I6
        case q7 =>
          refine Nat.div_lt_of_lt_mul ?_
          rw [← Nat.pow_add, Nat.mul_comm _ n, ← Nat.mul_add, show mid - lo + (hi - mid) = hi - lo from nt_m3 hle (Nat.le_of_lt hmh)]
          exact hx
        intro r nx h7 tk7 F7 N7 hR
        first | (revert hR; intro hx9; k_extra "xe4"; clear hx9; intro e1 us7 e2 I7) | obtain ⟨e1, us7, e2, I7⟩ := hR
        subst e1
        subst e2
        dsimp only
        k_extra "ks"
        refine hret _ _ _ _ (by assumption) (by assumption) ⟨rfl, _, rfl, ?_⟩
        have e3 := dg_dg (n := n) (p := mid - lo) (q := hi - mid) (x := x) (ks := ks) (lo := lo) (by rw [nt_m6 hle (Nat.le_of_lt hmh)]; exact hhi)
        rw [nt_m4 hle, nt_m3 hle (Nat.le_of_lt hmh)] at e3
        rw [← e3]
        exact I7
  intro inner
  have hsz : (List.replicate NN (Value.int 0 t2)).toArray.size = NN := by simp
  have oT : TbM 121 70 4 "_int2digits.<locals>.inner" [(c', oc), (121, tabObj #[rawInt 70, rawInt 4, .ref c'])] := ⟨c', oc, vs, tq, rfl, hoc, hvs, hcP⟩
  have oO : Off [(c', oc), (121, tabObj #[rawInt 70, rawInt 4, .ref c'])] news := by
    intro p hp q hq
    simp only [List.mem_cons, List.not_mem_nil, or_false] at hp
    rcases hp with rfl | rfl
    · exact nc q hq
    · exact nP q hq
  have oD : ∀ p ∈ [(c', oc), (121, tabObj #[rawInt 70, rawInt 4, .ref c'])] ++ news, p.1 ≠ D := by
    intro p hp
    rcases List.mem_append.mp hp with hp | hp
    · simp only [List.mem_cons, List.not_mem_nil, or_false] at hp
      rcases hp with rfl | rfl
      · exact x2.symm
      · exact x3.symm
    · exact Nat.ne_of_lt (nD p hp)
  k_extra "ks"
  · have ha0 : a ≠ 0 := by k_extra "li"
    have hpos := nd_pos hn1 ha0
    rw [hnd] at hpos
    have hbd := nd_bound (n := n) (a := a) hn1
    rw [hnd] at hbd
    have hNle : NN ≤ 40 := by
      rw [← hNN]
      refine Nat.le_trans (Nat.div_le_of_le_mul (n := 40) ?_) (Nat.le_refl _)
      have : n * 40 = 40 * n := Nat.mul_comm _ _
      k_extra "li"
    (k_dflt (refine' ClB.use (inner NN (List.replicate NN (.int 0 t2)) (List.replicate NN 0) a _ _ _ 0 NN ?q1 ?q2 ?q3 ?q4 ?q5 ?q6 ?q7) ?k0 ?k1 ?k2 ?k3 ?k4 ?k5 ?kK ?kd ?ku ?_; k_extra "clb_use"))
    case q1 => k_extra "li"
    case q2 => k_extra "li"
    case q3 => k_extra "li"
    case q4 => rw [List.length_replicate]; k_extra "li"
    case q5 => rw [List.length_replicate]; assumption
    case q6 => exact I2
    case q7 => exact hbd
    intro r nx h6 tk6 F6 N6 hR
    first | (revert hR; intro hx9; k_extra "xe4"; clear hx9; intro e1 us6 e2 I6) | obtain ⟨e1, us6, e2, I6⟩ := hR
    subst e1
    subst e2
    rw [spl_all (by rw [dg_len, List.length_replicate]; k_extra "li"), Nat.sub_zero, ← hnd] at I6
    dsimp only
    k_extra "ks"
    exact hret _ _ _ _ (by assumption) (News.perm (by assumption) (by k_extra "psub")) ⟨D, us6, _, rfl, rfl, oT, hsame, oO, oD, I6⟩
  · have ha0 : a = 0 := by k_extra "li"
    subst ha0
    rw [nd_zero hn1] at hnd
    refine hret _ _ _ _ (by assumption) (News.perm (by assumption) (by k_extra "psub")) ⟨D, List.replicate NN (.int 0 t2), _, rfl, rfl, oT, hsame, oO, oD, ?_⟩
    rw [nd_zero hn1, ← hnd]
    exact .nil
end
section
theorem d2i_c (w : World) (loose : List Str) (mean : ExcName → Option Value) (mg mb : Str → Option Value) : ∀ (own news : CbLed) (D : Addr) (us : List Value) (kk : Nat) (qs : List Nat) (n : Nat) (tn : Tok), 1 ≤ n → n ≤ 40 → n * qs.length ≤ 80 → (∀ q ∈ qs, q < 2 ^ n) → IntsAre us (qs.map fun q => ((q : Nat) : Int)) → Tb 128 85 4 "_digits2int.<locals>.inner" own → Off own ((D, listOf us.toArray kk) :: news) →
   ClB (fun b => CodeHd b 132 128) PySem.Challenge.rw_sr0059_01.row.prog w (K39 w.params) topProg loose mean mg mb 133 85 1000 (own ++ ((D, listOf us.toArray kk) :: news)) [.ref D, .int (n : Int) tn] (fun r nx => ∃ (t : Tok) (own' : CbLed), r = .int (dvl n qs : Nat) t ∧ nx = own' ++ ((D, listOf us.toArray kk) :: news) ∧ TbM 128 85 4 "_digits2int.<locals>.inner" own' ∧ (TbM 128 85 4 "_digits2int.<locals>.inner" own → own' = own) ∧ Off own' ((D, listOf us.toArray kk) :: news)) := by
  k_fill
  intro own news D us kk qs n tn hn1 hn2 hnq hql hI hT hO
  refine ClB.mk ?_
  intro dp un gd cn cs ca ccd cl outer A₀ base h₀ L m s Q E kP kB kF kX kN kT kcs kd ku hret
  have hlen : qs.length ≤ 80 := by
    have : 1 * qs.length ≤ n * qs.length := Nat.mul_le_mul_right _ hn1
    rw [Nat.one_mul] at this
    exact Nat.le_trans this hnq
  refine wpAny_call ?_
  k_extra "enterC"
  intro g L1 h1 tk1 cells FG F0 N Y B X T l1
  k_cells Y
  simp only [List.cons_append, List.nil_append] at N
  rename_i o1 o2 o3 d1 d2 d3
  replace d1 : o1.data = .cell none := d1
  replace d2 : o2.data = .cell (some (.int (n : Int) tn)) := d2
  replace d3 : o3.data = .cell (some (.ref D)) := d3
  dsimp only
  refine noE ?_
  k_fold
  try k_gentoks
  have hx9 : Loc g L1 h1 [] := loc F0 (by k_extra "kn_all")
  first | (k_extra "xe2"; clear hx9; intro r1 F) | obtain ⟨r1, F⟩ := hx9
  clear F0
  have hD : D < L1 := l1 (D, listOf us.toArray kk) (List.mem_append_right _ (.head _))
  have hn : ∀ p ∈ news, p.1 < L1 := fun p hp => l1 p (List.mem_append_right _ (.tail _ hp))
  have hDn : D ≠ 128 → True := fun _ => trivial
  refine wpAny_execs_cons (nestDef_K rfl rfl rfl ?_)
  refine nest_U (own := own) (others := ((D, listOf us.toArray kk) :: news) ++ [(L1 + 1 + 1 + 1, o1), (L1 + 1 + 1, o2), (L1 + 1, o3)]) F (News.perm N (by k_extra "psub")) (by assumption) (CodeHd.keeps kP (Below.stays B)) rfl hT ?_ rfl ?_
  · intro p hp q hq
    rcases List.mem_append.mp hq with hq | hq
    · exact hO p hp q hq
    · have e1 : @LT.lt Nat _ p.1 L1 := l1 p (List.mem_append_left _ hp)
      simp only [List.mem_cons, List.not_mem_nil, or_false] at hq
      rcases hq with rfl | rfl | rfl <;> (refine neN ?_; dsimp only; k_extra "li")
  intro f c' oc vs tq ctv doc h3 tk3 F3 N3 hoc hvs hcf hPf hqf hcP hqc hqP hsame
  have x1 := ltN (hqf _ (List.mem_append_left _ (.head _)))
  have x2 := neN (hqc _ (List.mem_append_left _ (.head _)))
  have x3 := neN (hqP _ (List.mem_append_left _ (.head _)))
  have y1 := ltN (hqf _ (List.mem_append_right _ (.head _)))
  have y2 := neN (hqc _ (List.mem_append_right _ (.head _)))
  have y3 := neN (hqP _ (List.mem_append_right _ (.head _)))
  have z1 := ltN (hqf _ (List.mem_append_right _ (.tail _ (.head _))))
  have z2 := neN (hqc _ (List.mem_append_right _ (.tail _ (.head _))))
  have z3 := neN (hqP _ (List.mem_append_right _ (.tail _ (.head _))))
  have u1 := ltN (hqf _ (List.mem_append_right _ (.tail _ (.tail _ (.head _)))))
  have u2 := neN (hqc _ (List.mem_append_right _ (.tail _ (.tail _ (.head _)))))
  have u3 := neN (hqP _ (List.mem_append_right _ (.tail _ (.tail _ (.head _)))))
  have hcf' := ltN hcf
  have hPf' := ltN hPf
  have hcP' := neN hcP
  have hD1' := ltN hD
  have nc : ∀ p ∈ (D, listOf us.toArray kk) :: news, p.1 ≠ c' := fun p hp => hqc p (List.mem_append_left _ hp)
  have nP : ∀ p ∈ (D, listOf us.toArray kk) :: news, p.1 ≠ 128 := fun p hp => hqP p (List.mem_append_left _ hp)
  have n1 : ∀ p ∈ news, p.1 < L1 + 1 := fun p hp => Nat.lt_succ_of_lt (hn p hp)
  have n2 : ∀ p ∈ news, p.1 < L1 + 1 + 1 := fun p hp => Nat.lt_succ_of_lt (n1 p hp)
  have n3 : ∀ p ∈ news, p.1 < L1 + 1 + 1 + 1 := fun p hp => Nat.lt_succ_of_lt (n2 p hp)
  dsimp only at x1 x2 x3 y1 y2 y3 z1 z2 z3 u1 u2 u3
  replace N3 := ledTail N3
  simp only [List.cons_append, List.nil_append] at N3
  clear N F hqf hqc hqP
  k_extra "ks1"
  k_extra "ks1"
  rename_i h4 o1' F4 N4 d4
  refine nestRec (fun fo => ∀ (fuel : Nat) (tL tR : Tok) (lo hi : Nat), hi - lo ≤ fuel → fuel ≤ 80 → lo < hi → hi ≤ qs.length →
    ClB (fun b => CodeHd b 132 128) PySem.Challenge.rw_sr0059_01.row.prog w (K39 w.params) topProg loose mean mg mb f (fuel + 1) (10 * fuel + 10) ((f, fo) :: (c', oc) :: (128, tabObj #[rawInt 85, rawInt 4, .ref c']) :: (L1 + 1 + 1 + 1, o1') :: (L1 + 1 + 1, o2) :: (L1 + 1, o3) :: (D, listOf us.toArray kk) :: news) [.int (lo : Int) tL, .int (hi : Int) tR]
      (fun r nx => (∃ t, r = .int (dvl n ((qs.drop lo).take (hi - lo)) : Nat) t) ∧ nx = ((f, fo) :: (c', oc) :: (128, tabObj #[rawInt 85, rawInt 4, .ref c']) :: (L1 + 1 + 1 + 1, o1') :: (L1 + 1 + 1, o2) :: (L1 + 1, o3) :: (D, listOf us.toArray kk) :: news))) N4 ?_ ?_
  · clear F4 N4
    intro fuel
    induction fuel with
    | zero => exact fun _ _ _ _ h1 _ h3 => absurd h3 (nt_z h1)
    | succ fuel ih =>
      intro tL tR lo hi hf1 hf2 hlo hhi
      refine ClB.mk ?_
      intro dp un gd cn cs ca ccd cl outer A₀ base' h₀ L m s Q E kP kB kF kX kN kT kcs kd ku hret
      refine wpAny_call ?_
      k_extra "enterN"
      · exact codeRec_news kN (by k_mem) hoc hvs
      intro g2 L2 h5 FG2 F5 N5 B5 X5 T5
      dsimp only
      refine noE ?_
      k_fold
      try k_gentoks
      have hml : (qs.map fun q => ((q : Nat) : Int)).length = qs.length := List.length_map ..
      have hle := nt_mid0 hlo
      have hmq := nt_half hlo hhi
      have hf3 := Nat.le_of_succ_le hf2
      have hshl : ((lo + hi) / 2 - lo) * n ≤ 80 := by
        have : n * ((lo + hi) / 2 - lo) ≤ n * qs.length := Nat.mul_le_mul_left _ (Nat.le_trans (Nat.sub_le _ _) hmq)
        rw [Nat.mul_comm n ((lo + hi) / 2 - lo)] at this
        exact Nat.le_trans this hnq
      have hup : ∀ k, dvl n ((qs.drop ((lo + hi) / 2)).take k) < 2 ^ 250 := fun k => Nat.lt_of_lt_of_le (dvl_part n qs hql _ _) (Nat.pow_le_pow_right (by decide) (by k_extra "li"))
      have hup' := hup (hi - (lo + hi) / 2)
      k_extra "ks"
      · refine hret _ _ _ _ (by assumption) (by assumption) ⟨⟨_, congrArg (fun z => Value.int z _) ?_⟩, rfl⟩
        have e1 : hi = lo + 1 := nt_suc (by assumption)
        subst e1
        rw [show lo + 1 - lo = 1 from Nat.add_sub_cancel_left _ _, dvl_one n qs hhi, Int.toNat_natCast]
        simp [List.getD, List.getElem?_map]
        cases qs[lo]? <;> simp
      · have hlm : lo < (lo + hi) / 2 := nt_mid1 hlo (by assumption)
        have hmh : (lo + hi) / 2 < hi := nt_mid2 hlo
        generalize (lo + hi) / 2 = mid at *
        (k_dflt (refine' ClB.use (ih _ _ _ _ ?q1 ?q2 ?q3 ?q4) ?k0 ?k1 ?k2 ?k3 ?k4 ?k5 ?kK ?kd ?ku ?_; k_extra "clb_use"))
        case q1 => exact nt_m2 hf1 hlm hmh
        case q2 => exact hf3
        case q3 => exact hmh
        case q4 => exact hhi
        intro r nx h6 tk6 F6 N6 hR
        first | (revert hR; intro hx9; k_extra "xe2"; clear hx9; intro hx9; (first | (k_extra "xq2"; clear hx9; intro t6 e1) | obtain ⟨t6, e1⟩ := hx9); intro e2) | obtain ⟨⟨t6, e1⟩, e2⟩ := hR
        subst e1
        subst e2
        dsimp only
        k_extra "ks"
        (k_dflt (refine' ClB.use (ih _ _ _ _ ?q1 ?q2 ?q3 ?q4) ?k0 ?k1 ?k2 ?k3 ?k4 ?k5 ?kK ?kd ?ku ?_; k_extra "clb_use"))
        case q1 => exact nt_m1 hf1 hlm hmh
        case q2 => exact hf3
        case q3 => exact hlm
        case q4 => exact hmq
        intro r nx h7 tk7 F7 N7 hR
        first | (revert hR; intro hx9; k_extra "xe2"; clear hx9; intro hx9; (first | (k_extra "xq2"; clear hx9; intro t7 e1) | obtain ⟨t7, e1⟩ := hx9); intro e2) | obtain ⟨⟨t7, e1⟩, e2⟩ := hR
        subst e1
        subst e2
        dsimp only
        k_extra "ks"
        refine hret _ _ _ _ (by assumption) (by assumption) ⟨⟨_, congrArg (fun z => Value.int z _) ?_⟩, rfl⟩
        rw [dvl_split n qs (Nat.le_of_lt hlm) (Nat.le_of_lt hmh) hhi]
  intro inner
  have oT : TbM 128 85 4 "_digits2int.<locals>.inner" [(c', oc), (128, tabObj #[rawInt 85, rawInt 4, .ref c'])] := ⟨c', oc, vs, tq, rfl, hoc, hvs, hcP⟩
  have oO : Off [(c', oc), (128, tabObj #[rawInt 85, rawInt 4, .ref c'])] ((D, listOf us.toArray kk) :: news) := by
    intro p hp q hq
    simp only [List.mem_cons, List.not_mem_nil, or_false] at hp
    rcases hp with rfl | rfl
    · exact nc q hq
    · exact nP q hq
  k_extra "ks"
  · have hml : (qs.map fun q => ((q : Nat) : Int)).length = qs.length := List.length_map ..
    rename_i hpos
    rw [hml] at hpos
    rw [hml]
    (k_dflt (refine' ClB.use (inner qs.length _ _ 0 qs.length ?q1 ?q2 ?q3 ?q4) ?k0 ?k1 ?k2 ?k3 ?k4 ?k5 ?kK ?kd ?ku ?_; k_extra "clb_use"))
    case q1 => k_extra "li"
    case q2 => k_extra "li"
    case q3 => k_extra "li"
    case q4 => k_extra "li"
    intro r nx h6 tk6 F6 N6 hR
    first | (revert hR; intro hx9; k_extra "xe2"; clear hx9; intro hx9; (first | (k_extra "xq2"; clear hx9; intro t6 e1) | obtain ⟨t6, e1⟩ := hx9); intro e2) | obtain ⟨⟨t6, e1⟩, e2⟩ := hR
    subst e1
    subst e2
    rw [List.drop_zero, Nat.sub_zero, List.take_length]
    dsimp only
    k_extra "ks"
    exact hret _ _ _ _ (by assumption) (News.perm (by assumption) (by k_extra "psub")) ⟨_, _, rfl, rfl, oT, hsame, oO⟩
  · rename_i hpos _ _ _ _
    have hml : (qs.map fun q => ((q : Nat) : Int)).length = qs.length := List.length_map ..
    have hq : qs = [] := List.length_eq_zero_iff.mp (by k_extra "li")
    refine hret _ _ _ _ (by assumption) (News.perm (by assumption) (by k_extra "psub")) ⟨_, _, congrArg (fun z => Value.int z _) ?_, rfl, oT, hsame, oO⟩
    rw [hq]
    rfl
end
section
noncomputable def Tbs (own1 own2 news : CbLed) : Prop := Tb 121 70 4 "_int2digits.<locals>.inner" own1 ∧ Tb 128 85 4 "_digits2int.<locals>.inner" own2 ∧ Off own1 (own2 ++ news) ∧ Off own2 news
noncomputable def TbsM (own1 own2 news : CbLed) : Prop := TbM 121 70 4 "_int2digits.<locals>.inner" own1 ∧ TbM 128 85 4 "_digits2int.<locals>.inner" own2 ∧ Off own1 (own2 ++ news) ∧ Off own2 news
theorem TbsM.tbs {own1 own2 news : CbLed} (h : TbsM own1 own2 news) : Tbs own1 own2 news := ⟨Or.inr h.1, Or.inr h.2.1, h.2.2⟩
noncomputable def TbsR (own1 own2 own1' own2' news : CbLed) : Prop := TbsM own1' own2' news ∧ (TbM 121 70 4 "_int2digits.<locals>.inner" own1 → own1' = own1) ∧ (TbM 128 85 4 "_digits2int.<locals>.inner" own2 → own2' = own2)
abbrev CdH (b : Heap) : Prop := CodeHd b 125 121 ∧ CodeHd b 132 128
abbrev tup2 (q r : Int) (t1 t2 : Tok) : Obj := { cls := .type "tuple", data := .seq #[.int q t1, .int r t2] }
theorem divpos_c (w : World) (loose : List Str) (mean : ExcName → Option Value) (mg mb : Str → Option Value) : ∀ (own1 own2 news : CbLed) (a : Nat) (ta : Tok) (b : Nat) (tb : Tok), a < 2 ^ 40 → 0 < b → b < 2 ^ 40 → Tbs own1 own2 news →
   ClB CdH PySem.Challenge.rw_sr0059_01.row.prog w (K39 w.params) topProg loose mean mg mb 140 90 1500 (own1 ++ (own2 ++ news)) [.int (a : Int) ta, .int (b : Int) tb]
     (fun r nx => ∃ (T : Addr) (t1 t2 : Tok) (own1' own2' : CbLed), r = .ref T ∧ nx = (T, tup2 (a / b : Nat) (a % b : Nat) t1 t2) :: (own1' ++ (own2' ++ news)) ∧ TbsR own1 own2 own1' own2' news ∧ ∀ p ∈ own1' ++ (own2' ++ news), p.1 < T) := by
  k_fill
  intro own1 own2 news a ta b tb ha hb0 hb hT
  refine ClB.mk ?_
  intro dp un gd cn cs ca ccd cl outer A₀ base h₀ L m s Q E kP kB kF kX kN kT kcs kd ku hret
  first | (revert hT; intro hx9; k_extra "xe4"; clear hx9; intro hT1 hT2 hO1 hO2) | obtain ⟨hT1, hT2, hO1, hO2⟩ := hT
  have kP1 := kP.1
  have kP2 := kP.2
  have hbits : Builtin.Int.intBits (b : Int) ≤ 40 := intBits_le_iff.mpr (by simpa using hb)
  have hbb : b < 2 ^ Builtin.Int.intBits (b : Int) := by simpa using intBits_le_iff.mp (Nat.le_refl (Builtin.Int.intBits (b : Int)))
  have hn1 : 1 ≤ Builtin.Int.intBits (b : Int) := by
    false_or_by_contra
    have : Builtin.Int.intBits (b : Int) = 0 := by k_extra "li"
    rw [this] at hbb
    k_extra "li"
  have habits : Builtin.Int.intBits (a : Int) ≤ 40 := intBits_le_iff.mpr (by simpa using ha)
  refine wpAny_call ?_
  k_extra "enter"
  intro g L1 h1 FG F0 N B X T
  dsimp only
  refine noE ?_
  k_fold
  try k_gentoks
  have hx9 : Loc g L1 h1 [("b", .int (b : Int) tb), ("a", .int (a : Int) ta)] := loc F0 (by k_extra "kn_all")
  first | (k_extra "xe2"; clear hx9; intro r1 F) | obtain ⟨r1, F⟩ := hx9
  clear F0
  generalize hn : Builtin.Int.intBits (b : Int) = n at *
  refine seqQ (fun h => ∃ t, Loc g L1 h [("n", .int (n : Int) t), ("b", .int (b : Int) tb), ("a", .int (a : Int) ta)] ∧ News g L1 h (own1 ++ (own2 ++ news))) ?_ ?_
  · intro Qn hN hRt
    k_extra "ks"
    rw [hn] at *
    exact hN _ _ ⟨_, by k_extra "lo", by assumption⟩
  intro h2 tk2 hP
  first | (revert hP; intro hx9; k_extra "xe3"; clear hx9; intro t2 hx9; (first | (k_extra "xq2"; clear hx9; intro r2 F2) | obtain ⟨r2, F2⟩ := hx9); intro N2) | obtain ⟨t2, ⟨r2, F2⟩, N2⟩ := hP
  clear F N
  dsimp only
  refine seqQ (fun h => ∃ (t : Tok) (D : Addr) (us : List Value) (own1' : CbLed), Loc g L1 h [("a_digits", .ref D), ("n", .int (n : Int) t), ("b", .int (b : Int) tb)] ∧ News g L1 h ((D, listOf us.toArray 0) :: (own1' ++ (own2 ++ news))) ∧ (TbM 121 70 4 "_int2digits.<locals>.inner" own1' ∧ (TbM 121 70 4 "_int2digits.<locals>.inner" own1 → own1' = own1)) ∧ Off own1' (own2 ++ news) ∧ (∀ p ∈ own1' ++ (own2 ++ news), p.1 ≠ D) ∧ IntsAre us (dg n (nd n a) a)) ?_ ?_
  · intro Qn hN hRt
    k_extra "ks"
    (k_dflt (refine' ClB.use (i2d_c _ _ _ _ _ own1 (own2 ++ news) _ _ _ _ ?q1 ?q2 ?q3 ?q4 ?q5) ?k0 ?k1 ?k2 ?k3 ?k4 ?k5 ?kK ?kd ?ku ?_; k_extra "clb_use"))
    case q1 => exact ha
    case q2 => exact hn1
    case q3 => exact hbits
    case q4 => exact hT1
    case q5 => exact hO1
    intro r nx h3 tk3 F3 N3 hR
    first | (revert hR; intro hx9; k_extra "xe10"; clear hx9; intro D us own1' e1 e2 oT oTs oO oD oI) | obtain ⟨D, us, own1', e1, e2, oT, oTs, oO, oD, oI⟩ := hR
    subst e1
    subst e2
    dsimp only
    k_extra "ks"
    exact hN _ _ ⟨_, _, _, own1', by k_extra "lo", by assumption, ⟨oT, oTs⟩, oO, oD, oI⟩
  intro h3 tk3 hP
  first | (revert hP; intro hx9; k_extra "xe10"; clear hx9; intro t3 D us own1' hx9; (first | (k_extra "xq2"; clear hx9; intro r3 F3) | obtain ⟨r3, F3⟩ := hx9); intro N3 hx9; (first | (k_extra "xq2"; clear hx9; intro oT oTs) | obtain ⟨oT, oTs⟩ := hx9); intro oO oD oI) | obtain ⟨t3, D, us, own1', ⟨r3, F3⟩, N3, ⟨oT, oTs⟩, oO, oD, oI⟩ := hP
  clear F2 N2 hT1 hO1
  dsimp only
  refine seqQ (fun h => ∃ (t t' : Tok), Loc g L1 h [("r", .int ((0 : Nat) : Int) t'), ("a_digits", .ref D), ("n", .int (n : Int) t), ("b", .int (b : Int) tb)] ∧ News g L1 h ((D, listOf us.toArray 0) :: (own1' ++ (own2 ++ news)))) ?_ ?_
  · intro Qn hN hRt
    k_extra "ks"
    exact hN _ _ ⟨_, _, by k_extra "lo", by assumption⟩
  intro h4 tk4 hP
  first | (revert hP; intro hx9; k_extra "xe4"; clear hx9; intro t4 t4' hx9; (first | (k_extra "xq2"; clear hx9; intro r4 F4) | obtain ⟨r4, F4⟩ := hx9); intro N4) | obtain ⟨t4, t4', ⟨r4, F4⟩, N4⟩ := hP
  clear F3 N3
  dsimp only
  refine seqQ (fun h => ∃ (t t' : Tok) (G : Addr), Loc g L1 h [("q_digits", .ref G), ("r", .int ((0 : Nat) : Int) t'), ("a_digits", .ref D), ("n", .int (n : Int) t), ("b", .int (b : Int) tb)] ∧ News g L1 h ((G, listOf ([] : List Value).toArray 0) :: (D, listOf us.toArray 0) :: (own1' ++ (own2 ++ news))) ∧ D < G ∧ ∀ p ∈ own1' ++ (own2 ++ news), p.1 < G) ?_ ?_
  · intro Qn hN hRt
    k_extra "ks"
    rename_i lf _ _ _
    exact hN _ _ ⟨_, _, _, by k_extra "lo", by assumption, lf.1, allLt_mem lf.2⟩
  intro h5 tk5 hP
  first | (revert hP; intro hx9; k_extra "xe7"; clear hx9; intro t5 t5' G hx9; (first | (k_extra "xq2"; clear hx9; intro r5 F5) | obtain ⟨r5, F5⟩ := hx9); intro N5 lD lG) | obtain ⟨t5, t5', G, ⟨r5, F5⟩, N5, lD, lG⟩ := hP
  clear F4 N4
  dsimp only
  have hlen : us.length = nd n a := by rw [oI.length, dg_len]
  have hnd : n * nd n a ≤ 80 := by
    unfold nd
    have := Nat.div_mul_le_self (Builtin.Int.intBits (a : Int) + n - 1) n
    rw [Nat.mul_comm] at this
    k_extra "li"
  have hlen2 : nd n a ≤ 80 := by
    have : 1 * nd n a ≤ n * nd n a := Nat.mul_le_mul_right _ hn1
    k_extra "li"
  have hab := nd_bound (n := n) (a := a) hn1
  generalize hNN : nd n a = NN at *
  refine seqQ (fun h => ∃ (t t' : Tok) (us' : List Value) (qs : List Nat) (k : Nat), Loc g L1 h [("q_digits", .ref G), ("r", .int ((a % b : Nat) : Int) t'), ("n", .int (n : Int) t), ("b", .int (b : Int) tb)] ∧ News g L1 h ((G, listOf us'.toArray k) :: (own1' ++ (own2 ++ news))) ∧ qs.length = NN ∧ IntsAre us' (qs.map fun q => ((q : Nat) : Int)) ∧ dvl n qs.reverse = a / b ∧ ∀ q ∈ qs, q < 2 ^ n) ?_ ?_
  · intro Qn hN hRt
    k_extra "kfor"
    rename_i I h6 F6 N6 lI
    refine forRev (us := us) (kk := 0) (l := D) (I := I) (σ := List Value × List Nat × Nat × Nat × Tok) (fun c => (G, listOf c.1.toArray c.2.2.1) :: (own1' ++ (own2 ++ news))) (fun c => [("q_digits", .ref G), ("r", .int ((c.2.2.2.1 : Nat) : Int) c.2.2.2.2), ("n", .int (n : Int) t5), ("b", .int (b : Int) tb)])
      (fun i c => IntsAre c.1 (c.2.1.map fun q => ((q : Nat) : Int)) ∧ c.2.1.length = i ∧ c.2.2.2.1 = a / 2 ^ (n * (NN - i)) % b ∧ dvl n c.2.1.reverse = a / 2 ^ (n * (NN - i)) / b ∧ ∀ q ∈ c.2.1, q < 2 ^ n) ([], [], 0, 0, t5') rfl (News.perm N6 (by k_extra "psub")) (Nat.ne_of_lt lI.2.1) ?_ F6 (by k_extra "kn_all") ?_ ?_ ?_
    · intro q hq
      rcases List.mem_cons.mp hq with rfl | hq
      · exact ⟨Nat.ne_of_lt lI.1, Nat.ne_of_gt lD⟩
      · exact ⟨Nat.ne_of_lt (allLt_mem lI.2.2 q hq), oD q hq⟩
    · have e0 : a / 2 ^ (n * (NN - 0)) = 0 := Nat.div_eq_of_lt (by rw [Nat.sub_zero]; exact hab)
      refine ⟨.nil, rfl, ?_, ?_, by simp⟩
      · show 0 = _
        rw [e0, Nat.zero_mod]
      · show dvl n [] = _
        rw [e0, Nat.zero_div]
        rfl
    · intro hx9
      first | (k_extra "xq5"; clear hx9; intro us1 qs1 k1 rv tr1) | obtain ⟨us1, qs1, k1, rv, tr1⟩ := hx9
      intro i v rr h7 tk7 own hin hv hoff hx9
      first | (k_extra "xq5"; clear hx9; intro I1 hl1 hr1 hd1 hq1) | obtain ⟨I1, hl1, hr1, hd1, hq1⟩ := hx9
      intro F7 N7
      dsimp only at *
      have F7' : Fr g L1 h7 _ := F7
      have N7' : News g L1 h7 _ := N7
      clear F7 N7 F6 N6
      have hrb : rv < b := by rw [hr1]; exact Nat.mod_lt _ hb0
      have hrv : rv < 2 ^ 250 := Nat.lt_trans hrb (Nat.lt_of_lt_of_le hb (Nat.pow_le_pow_right (by decide) (by decide)))
      have hj : (dg n NN a)[us.length - 1 - i]? = some ((a / 2 ^ (n * (NN - 1 - i)) % 2 ^ n : Nat) : Int) := by
        rw [hlen]
        unfold dg
        rw [List.getElem?_map, List.getElem?_range (by k_extra "li")]
        rfl
      have hx9 := oI.get _ _ hj
      first | (k_extra "xe2"; clear hx9; intro tv hv2) | obtain ⟨tv, hv2⟩ := hx9
      rw [hv] at hv2
      have hv3 := Option.some.inj hv2
      subst hv3
      have hx9 := div_step (a := a) (b := b) (n := n) (N := NN) (i := i) hb0 (by k_extra "li")
      first | (k_extra "xe2"; clear hx9; intro st1 st2) | obtain ⟨st1, st2⟩ := hx9
      rw [← hr1] at st1 st2
      rw [← hd1] at st2
      have hdl : a / 2 ^ (n * (NN - 1 - i)) % 2 ^ n < 2 ^ n := Nat.mod_lt _ (Nat.pow_pos (by decide))
      generalize a / 2 ^ (n * (NN - 1 - i)) % 2 ^ n = dd at *
      have hdd := div_digit (b := b) hrb hdl
      have hbig : rv * 2 ^ n + dd < 2 ^ 200 := by
        have h1 : rv * 2 ^ n ≤ b * 2 ^ n := Nat.mul_le_mul_right _ (Nat.le_of_lt hrb)
        have h2 : b * 2 ^ n ≤ 2 ^ 40 * 2 ^ 40 := Nat.mul_le_mul (Nat.le_of_lt hb) (Nat.pow_le_pow_right (by decide) hbits)
        have h3 : 2 ^ n ≤ 2 ^ 40 := Nat.pow_le_pow_right (by decide) hbits
        have h4 : (2 : Nat) ^ 40 * 2 ^ 40 + 2 ^ 40 < 2 ^ 200 := by decide
        k_extra "li"
      have hus1 : us1.length ≤ 1000 := by rw [I1.length, List.length_map]; k_extra "li"
      k_extra "ks"
      (k_dflt (refine' Cl.use (div2_c _ _ _ _ _ _ _ _ _ _ _ _ ?q1 ?q2 ?q3) ?k1 ?k2 ?k3 ?k4 ?k5 ?kK ?kd ?ku ?_; k_extra "cl_use"))
      case q1 => exact hbig
      case q2 => exact hb0
      case q3 => exact Nat.lt_of_lt_of_le hb (Nat.pow_le_pow_right (by decide) (by decide))
      intro r nx h8 tk8 F8 N8 hR
      first | (revert hR; intro hx9; k_extra "xe6"; clear hx9; intro T u1 u2 e1 e2 lT) | obtain ⟨T, u1, u2, e1, e2, lT⟩ := hR
      subst e1
      subst e2
      have lT1 := ltN (lT _ (List.mem_append_left _ (.head _)))
      have lT2 : ∀ p ∈ own1' ++ (own2 ++ news), p.1 < T := fun p hp => lT p (List.mem_append_left _ (.tail _ hp))
      have lT3 : ∀ p ∈ own, p.1 < T := fun p hp => lT p (List.mem_append_right _ hp)
      have hoffG : ∀ p ∈ own, p.1 ≠ G := OwnOff.ne hoff (by simp)
      dsimp only at lT1 ⊢
      k_extra "ks"
      · refine turnEnd ⟨us1 ++ [Value.int (((rv * 2 ^ n + dd) / b : Nat) : Int) u1], qs1 ++ [(rv * 2 ^ n + dd) / b], k1 + 1, (rv * 2 ^ n + dd) % b, u2⟩ (by assumption) (News.perm (news' := ((G, listOf (us1 ++ [Value.int (((rv * 2 ^ n + dd) / b : Nat) : Int) u1]).toArray (k1 + 1)) :: (own1' ++ (own2 ++ news))) ++ own) (by assumption) (fun p hp => List.mem_cons_of_mem _ hp)) rfl (by simp) (by k_extra "kn_all") ⟨?_, ?_, st1, ?_, ?_⟩
        · rw [List.map_append]
          exact IntsAre.append I1 (.cons _ _ .nil)
        · simp [hl1]
        · rw [List.reverse_append, st2]
          rfl
        · intro q hq
          rcases List.mem_append.mp hq with hq | hq
          · exact hq1 q hq
          · rw [List.mem_singleton.mp hq]; exact hdd
    · intro hx9
      first | (k_extra "xq5"; clear hx9; intro us1 qs1 k1 rv tr1) | obtain ⟨us1, qs1, k1, rv, tr1⟩ := hx9
      intro rr h7 tk7 hx9
      first | (k_extra "xq5"; clear hx9; intro I1 hl1 hr1 hd1 hq1) | obtain ⟨I1, hl1, hr1, hd1, hq1⟩ := hx9
      intro F7 N7
      dsimp only at *
      rw [hlen, Nat.sub_self, Nat.mul_zero, Nat.pow_zero, Nat.div_one] at hr1 hd1
      subst hr1
      exact hN _ _ ⟨_, _, us1, qs1, _, by k_extra "lo", N7, by k_extra "li", I1, hd1, hq1⟩
  intro h6 tk6 hP
  first | (revert hP; intro hx9; k_extra "xe11"; clear hx9; intro t6 t6' us' qs k hx9; (first | (k_extra "xq2"; clear hx9; intro r6 F6) | obtain ⟨r6, F6⟩ := hx9); intro N6 hql Iq hqd hqb) | obtain ⟨t6, t6', us', qs, k, ⟨r6, F6⟩, N6, hql, Iq, hqd, hqb⟩ := hP
  clear F5 N5
  dsimp only
  have hus' : us'.length ≤ 1000 := by rw [Iq.length, List.length_map]; k_extra "li"
  refine seqQ (fun h => ∃ (t t' : Tok), Loc g L1 h [("q_digits", .ref G), ("r", .int ((a % b : Nat) : Int) t'), ("n", .int (n : Int) t), ("b", .int (b : Int) tb)] ∧ News g L1 h (own2 ++ ((G, listOf us'.reverse.toArray k) :: (own1' ++ news)))) ?_ ?_
  · intro Qn hN hRt
    k_extra "ks"
    exact hN _ _ ⟨_, _, by k_extra "lo", News.perm (by assumption) (by k_extra "psub")⟩
  intro h7 tk7 hP
  first | (revert hP; intro hx9; k_extra "xe4"; clear hx9; intro t7 t7' hx9; (first | (k_extra "xq2"; clear hx9; intro r7 F7) | obtain ⟨r7, F7⟩ := hx9); intro N7) | obtain ⟨t7, t7', ⟨r7, F7⟩, N7⟩ := hP
  clear F6 N6
  dsimp only
  have oO2 : Off own2 ((G, listOf us'.reverse.toArray k) :: (own1' ++ news)) := by
    intro p hp q hq
    rcases List.mem_cons.mp hq with rfl | hq
    · exact Nat.ne_of_gt (lG p (List.mem_append_right _ (List.mem_append_left _ hp)))
    · rcases List.mem_append.mp hq with hq | hq
      · exact (oO q hq p (List.mem_append_left _ hp)).symm
      · exact hO2 p hp q hq
  k_extra "ks"
  (k_dflt (refine' ClB.use (d2i_c _ _ _ _ _ own2 (own1' ++ news) G us'.reverse k qs.reverse n _ ?q1 ?q2 ?q3 ?q4 ?q5 ?q6 ?q7) ?k0 ?k1 ?k2 ?k3 ?k4 ?k5 ?kK ?kd ?ku ?_; k_extra "clb_use"))
  case q1 => exact hn1
  case q2 => exact hbits
  case q3 => rw [List.length_reverse, hql]; exact hnd
  case q4 => exact fun q hq => hqb q (List.mem_reverse.mp hq)
  case q5 => rw [List.map_reverse]; exact IntsAre.reverse Iq
  case q6 => exact hT2
  case q7 => exact oO2
  intro r nx h8 tk8 F8 N8 hR
  first | (revert hR; intro hx9; k_extra "xe7"; clear hx9; intro t8 own2' e1 e2 oT2 oTs2 oO2') | obtain ⟨t8, own2', e1, e2, oT2, oTs2, oO2'⟩ := hR
  subst e1
  subst e2
  rw [hqd]
  dsimp only
  replace N8 := News.perm N8 (news' := own1' ++ (own2' ++ news)) (by k_extra "psub")
  k_extra "ks"
  refine hret _ _ _ _ (by assumption) (by assumption) ⟨_, _, _, own1', own2', rfl, rfl, ⟨⟨oT, oT2, ?_, fun p hp q hq => oO2' p hp q (.tail _ (List.mem_append_right _ hq))⟩, oTs, oTs2⟩, by assumption⟩
  intro p hp q hq
  rcases List.mem_append.mp hq with hq | hq
  · exact (oO2' q hq p (.tail _ (List.mem_append_left _ hp))).symm
  · exact oO p hp q (List.mem_append_right _ hq)
end
section
theorem idm0_c (w : World) (loose : List Str) (mean : ExcName → Option Value) (mg mb : Str → Option Value) : ∀ (own1 own2 news : CbLed) (a : Nat) (ta : Tok) (b : Nat) (tb : Tok), a < 2 ^ 40 → 0 < b → b < 2 ^ 40 → Tbs own1 own2 news →
   ClB CdH PySem.Challenge.rw_sr0059_01.row.prog w (K39 w.params) topProg loose mean mg mb 147 92 1600 (own1 ++ (own2 ++ news)) [.int (a : Int) ta, .int (b : Int) tb]
     (fun r nx => ∃ (T : Addr) (t1 t2 : Tok) (own1' own2' : CbLed), r = .ref T ∧ nx = (T, tup2 (a / b : Nat) (a % b : Nat) t1 t2) :: (own1' ++ (own2' ++ news)) ∧ TbsR own1 own2 own1' own2' news ∧ ∀ p ∈ own1' ++ (own2' ++ news), p.1 < T) := by
  k_fill
  intro own1 own2 news a ta b tb ha hb0 hb hT
  refine ClB.mk ?_
  intro dp un gd cn cs ca ccd cl outer A₀ base h₀ L m s Q E kP kB kF kX kN kT kcs kd ku hret
  refine wpAny_call ?_
  k_extra "enter"
  intro g L1 h1 FG F0 N B X T
  dsimp only
  refine noE ?_
  k_fold
  try k_gentoks
  have hx9 : Loc g L1 h1 [("b", .int (b : Int) tb), ("a", .int (a : Int) ta)] := loc F0 (by k_extra "kn_all")
  first | (k_extra "xe2"; clear hx9; intro r1 F) | obtain ⟨r1, F⟩ := hx9
  clear F0
  k_extra "ks"
  · exfalso; k_extra "li"
  (k_dflt (refine' ClB.use (divpos_c _ _ _ _ _ own1 own2 news _ _ _ _ ?q1 ?q2 ?q3 ?q4) ?k0 ?k1 ?k2 ?k3 ?k4 ?k5 ?kK ?kd ?ku ?_; k_extra "clb_use"))
  case q1 => exact ha
  case q2 => exact hb0
  case q3 => exact hb
  case q4 => exact hT
  intro r nx h8 tk8 F8 N8 hR
  first | (revert hR; intro hx9; k_extra "xe9"; clear hx9; intro T t1 t2 o1 o2 e1 e2 hT' lT) | obtain ⟨T, t1, t2, o1, o2, e1, e2, hT', lT⟩ := hR
  subst e1
  subst e2
  dsimp only
  k_extra "ks"
  exact hret _ _ _ _ (by assumption) (by assumption) ⟨_, _, _, _, _, rfl, rfl, hT', lT⟩
theorem neg_div {k b : Nat} (hb : 0 < b) : (-(k : Int) - 1) / (b : Int) = -((k / b : Nat) : Int) - 1 ∧ (-(k : Int) - 1) % (b : Int) = (b : Int) - ((k % b : Nat) : Int) - 1 := by
  refine (Int.ediv_emod_unique (by k_extra "li")).mpr ⟨?_, ?_, ?_⟩
  · have h := Nat.div_add_mod k b
    have h' : ((b * (k / b) + k % b : Nat) : Int) = (k : Int) := by rw [h]
    rw [Int.natCast_add, Int.natCast_mul] at h'
    rw [Int.mul_sub, Int.mul_one, Int.mul_neg]
    k_extra "li"
  · have := Nat.mod_lt k hb
    k_extra "li"
  · k_extra "li"
theorem idm1_c (w : World) (loose : List Str) (mean : ExcName → Option Value) (mg mb : Str → Option Value) : ∀ (own1 own2 news : CbLed) (k : Nat) (a : Int) (ta : Tok) (b : Nat) (tb : Tok), a = -(k : Int) - 1 → k < 2 ^ 40 → 0 < b → b < 2 ^ 40 → Tbs own1 own2 news →
   ClB CdH PySem.Challenge.rw_sr0059_01.row.prog w (K39 w.params) topProg loose mean mg mb 147 94 1700 (own1 ++ (own2 ++ news)) [.int a ta, .int (b : Int) tb]
     (fun r nx => ∃ (T : Addr) (t1 t2 : Tok) (own1' own2' : CbLed), r = .ref T ∧ nx = (T, tup2 (a / b) (a % b) t1 t2) :: (own1' ++ (own2' ++ news)) ∧ TbsR own1 own2 own1' own2' news ∧ ∀ p ∈ own1' ++ (own2' ++ news), p.1 < T) := by
  k_fill
  intro own1 own2 news k a ta b tb hk ha hb0 hb hT
  refine ClB.mk ?_
  intro dp un gd cn cs ca ccd cl outer A₀ base h₀ L m s Q E kP kB kF kX kN kT kcs kd ku hret
  refine wpAny_call ?_
  k_extra "enter"
  intro g L1 h1 FG F0 N B X T
  dsimp only
  refine noE ?_
  k_fold
  try k_gentoks
  have hx9 : Loc g L1 h1 [("b", .int (b : Int) tb), ("a", .int a ta)] := loc F0 (by k_extra "kn_all")
  first | (k_extra "xe2"; clear hx9; intro r1 F) | obtain ⟨r1, F⟩ := hx9
  clear F0
  k_extra "ks"
  · exfalso; k_extra "li"
  have e : Builtin.bitNot a = (k : Int) := by
    show -a - 1 = _
    k_extra "li"
  rw [e]
  (k_dflt (refine' ClB.use (idm0_c _ _ _ _ _ own1 own2 news _ _ _ _ ?q1 ?q2 ?q3 ?q4) ?k0 ?k1 ?k2 ?k3 ?k4 ?k5 ?kK ?kd ?ku ?_; k_extra "clb_use"))
  case q1 => exact ha
  case q2 => exact hb0
  case q3 => exact hb
  case q4 => exact hT
  intro r nx h8 tk8 F8 N8 hR
  first | (revert hR; intro hx9; k_extra "xe9"; clear hx9; intro T t1 t2 own1' own2' e1 e2 hT' lT) | obtain ⟨T, t1, t2, own1', own2', e1, e2, hT', lT⟩ := hR
  subst e1
  subst e2
  dsimp only
  k_extra "ks"
  rename_i hh FF NN ll kF' kN' TT XX
  have hx9 := neg_div (k := k) hb0
  first | (k_extra "xe2"; clear hx9; intro f1 f2) | obtain ⟨f1, f2⟩ := hx9
  have e1 : Builtin.bitNot ((k / b : Nat) : Int) = a / (b : Int) := by rw [hk, f1]; rfl
  have e2 : (b : Int) + Builtin.bitNot ((k % b : Nat) : Int) = a % (b : Int) := by
    rw [hk, f2]
    show (b : Int) + (-((k % b : Nat) : Int) - 1) = _
    k_extra "li"
  rw [e1, e2] at kN'
  exact hret _ _ _ _ (by assumption) (News.perm kN' (by k_extra "psub")) ⟨_, _, _, own1', own2', rfl, rfl, hT', allLt_mem ll.2⟩
theorem idm2_c (w : World) (loose : List Str) (mean : ExcName → Option Value) (mg mb : Str → Option Value) : ∀ (own1 own2 news : CbLed) (a : Int) (ta : Tok) (b : Int) (tb : Tok), -(2 ^ 40) < a → a < 2 ^ 40 → b ≠ 0 → -(2 ^ 40) < b → b < 2 ^ 40 → Tbs own1 own2 news →
   ClB CdH PySem.Challenge.rw_sr0059_01.row.prog w (K39 w.params) topProg loose mean mg mb 147 96 1800 (own1 ++ (own2 ++ news)) [.int a ta, .int b tb]
     (fun r nx => ∃ (T : Addr) (t1 t2 : Tok) (own1' own2' : CbLed), r = .ref T ∧ nx = (T, tup2 (if b < 0 then (-a) / (-b) else a / b) (if b < 0 then -((-a) % (-b)) else a % b) t1 t2) :: (own1' ++ (own2' ++ news)) ∧ TbsR own1 own2 own1' own2' news ∧ ∀ p ∈ own1' ++ (own2' ++ news), p.1 < T) := by
  k_fill
  have pos : ∀ (own1 own2 news : CbLed) (a : Int) (ta : Tok) (b : Nat) (tb : Tok), -(2 ^ 40) ≤ a → a < 2 ^ 40 → 0 < b → b < 2 ^ 40 → Tbs own1 own2 news →
   ClB CdH PySem.Challenge.rw_sr0059_01.row.prog w (K39 w.params) topProg loose mean mg mb 147 94 1700 (own1 ++ (own2 ++ news)) [.int a ta, .int (b : Int) tb]
     (fun r nx => ∃ (T : Addr) (t1 t2 : Tok) (own1' own2' : CbLed), r = .ref T ∧ nx = (T, tup2 (a / b) (a % b) t1 t2) :: (own1' ++ (own2' ++ news)) ∧ TbsR own1 own2 own1' own2' news ∧ ∀ p ∈ own1' ++ (own2' ++ news), p.1 < T) := by
    intro own1 own2 news a ta b tb h1 h2 h3 h4 hT
    by_cases h0 : 0 ≤ a
    · have hx9 := Int.eq_ofNat_of_zero_le h0
      first | (k_extra "xe2"; clear hx9; intro n eq9; subst eq9) | obtain ⟨n, rfl⟩ := hx9
      have := idm0_c w loose mean mg mb own1 own2 news n ta b tb (by k_extra "li") h3 h4 hT
      unfold ClB at this ⊢
      intro dp un gd cn cs ca ccd cl outer A₀ base h₀ L m s Q E kP kB kF kX kN kT kcs kd ku hret
      refine this dp un gd cn cs ca ccd cl outer A₀ base h₀ L m s Q E kP kB kF kX kN kT kcs (by k_extra "li") (by k_extra "li") ?_
      intro r nx h' tk' F' N' hR
      refine hret r nx h' tk' F' N' ?_
      simpa using hR
    · exact idm1_c w loose mean mg mb own1 own2 news (-a - 1).toNat a ta b tb (by k_extra "li") (by k_extra "li") h3 h4 hT
  intro own1 own2 news a ta b tb ha1 ha2 hb0 hb1 hb2 hT
  by_cases hb : b < 0
  · rw [if_pos hb, if_pos hb]
    obtain ⟨n, hn⟩ : ∃ n : Nat, b = -(n : Int) := ⟨(-b).toNat, by k_extra "li"⟩
    refine ClB.mk ?_
    intro dp un gd cn cs ca ccd cl outer A₀ base h₀ L m s Q E kP kB kF kX kN kT kcs kd ku hret
    refine wpAny_call ?_
    k_extra "enter"
    intro g L1 h1 FG F0 N B X T
    dsimp only
    refine noE ?_
    k_fold
    try k_gentoks
    have hx9 : Loc g L1 h1 [("b", .int b tb), ("a", .int a ta)] := loc F0 (by k_extra "kn_all")
    first | (k_extra "xe2"; clear hx9; intro r1 F) | obtain ⟨r1, F⟩ := hx9
    clear F0
    k_extra "ks"
    · exfalso; k_extra "li"
    rw [show -b = (n : Int) from by k_extra "li"]
    (k_dflt (refine' ClB.use (pos own1 own2 news (-a) _ n _ ?q1 ?q2 ?q3 ?q4 ?q5) ?k0 ?k1 ?k2 ?k3 ?k4 ?k5 ?kK ?kd ?ku ?_; k_extra "clb_use"))
    case q1 => k_extra "li"
    case q2 => k_extra "li"
    case q3 => k_extra "li"
    case q4 => k_extra "li"
    case q5 => exact hT
    intro r nx h8 tk8 F8 N8 hR
    first | (revert hR; intro hx9; k_extra "xe9"; clear hx9; intro T t1 t2 own1' own2' e1 e2 hT' lT) | obtain ⟨T, t1, t2, own1', own2', e1, e2, hT', lT⟩ := hR
    subst e1
    subst e2
    dsimp only
    k_extra "ks"
    rename_i hh FF NN ll kF' kN' TT XX
    rw [show (n : Int) = -b from by k_extra "li"] at kN'
    exact hret _ _ _ _ (by assumption) (News.perm kN' (by k_extra "psub")) ⟨_, _, _, own1', own2', rfl, rfl, hT', allLt_mem ll.2⟩
  · rw [if_neg hb, if_neg hb]
    have hx9 := Int.eq_ofNat_of_zero_le (show 0 ≤ b by k_extra "li")
    first | (k_extra "xe2"; clear hx9; intro n eq9; subst eq9) | obtain ⟨n, rfl⟩ := hx9
    have := pos own1 own2 news a ta n tb (by k_extra "li") ha2 (by k_extra "li") (by k_extra "li") hT
    unfold ClB at this ⊢
    intro dp un gd cn cs ca ccd cl outer A₀ base h₀ L m s Q E kP kB kF kX kN kT kcs kd ku hret
    exact this dp un gd cn cs ca ccd cl outer A₀ base h₀ L m s Q E kP kB kF kX kN kT kcs (by k_extra "li") (by k_extra "li") hret
theorem idmP_c (w : World) (loose : List Str) (mean : ExcName → Option Value) (mg mb : Str → Option Value) : ∀ (own1 own2 news : CbLed) (a : Int) (ta : Tok) (b : Nat) (tb : Tok), -(2 ^ 40) < a → a < 2 ^ 40 → 0 < b → b < 2 ^ 40 → Tbs own1 own2 news →
   ClB CdH PySem.Challenge.rw_sr0059_01.row.prog w (K39 w.params) topProg loose mean mg mb 147 96 1800 (own1 ++ (own2 ++ news)) [.int a ta, .int (b : Int) tb]
     (fun r nx => ∃ (T : Addr) (t1 t2 : Tok) (own1' own2' : CbLed), r = .ref T ∧ nx = (T, tup2 (a / b) (a % b) t1 t2) :: (own1' ++ (own2' ++ news)) ∧ TbsR own1 own2 own1' own2' news ∧ ∀ p ∈ own1' ++ (own2' ++ news), p.1 < T) := by
  intro own1 own2 news a ta b tb h1 h2 h3 h4 hT
  have := idm2_c w loose mean mg mb own1 own2 news a ta b tb h1 h2 (by k_extra "li") (by k_extra "li") (by k_extra "li") hT
  rw [if_neg (by k_extra "li"), if_neg (by k_extra "li")] at this
  exact this
theorem idmN_c (w : World) (loose : List Str) (mean : ExcName → Option Value) (mg mb : Str → Option Value) : ∀ (own1 own2 news : CbLed) (a : Nat) (ta : Tok) (b : Nat) (tb : Tok), a < 2 ^ 40 → 0 < b → b < 2 ^ 40 → Tbs own1 own2 news →
   ClB CdH PySem.Challenge.rw_sr0059_01.row.prog w (K39 w.params) topProg loose mean mg mb 147 96 1800 (own1 ++ (own2 ++ news)) [.int (a : Int) ta, .int (b : Int) tb]
     (fun r nx => ∃ (T : Addr) (t1 t2 : Tok) (own1' own2' : CbLed), r = .ref T ∧ nx = (T, tup2 (a / b : Nat) (a % b : Nat) t1 t2) :: (own1' ++ (own2' ++ news)) ∧ TbsR own1 own2 own1' own2' news ∧ ∀ p ∈ own1' ++ (own2' ++ news), p.1 < T) := by
  intro own1 own2 news a ta b tb h2 h3 h4 hT
  have := idmP_c w loose mean mg mb own1 own2 news a ta b tb (by k_extra "li") (by k_extra "li") h3 h4 hT
  have e1 : (a : Int) / (b : Int) = ((a / b : Nat) : Int) := by simp
  have e2 : (a : Int) % (b : Int) = ((a % b : Nat) : Int) := by simp
  rw [e1, e2] at this
  exact this
end
section
noncomputable def lawBody : List Stmt := fdB (pwS 21)
noncomputable def lawScope : Scope := fdS (pwS 21)
noncomputable def lawStmt (i : Nat) : Stmt := (lawBody[i]?).getD (.Pass ⟨0, 0, 0, 0⟩)
noncomputable def forBody : Stmt → List Stmt | .For _ _ b .. => b | _ => []
noncomputable def turnStmt (i : Nat) : Stmt := ((forBody (lawStmt 11))[i]?).getD (.Pass ⟨0, 0, 0, 0⟩)
noncomputable abbrev LEnv (L fa : Addr) (cd : Value) : Env := envOfC (Str.ofString "law") lawScope L fa cd
structure LawCtx (w : World) (loose : List Str) (mean : ExcName → Option Value) (mg mb : Str → Option Value) (g : Heap) (L l : Addr) (vs : List Value) (ns : List Int) : Prop where
  X : (K39 w.params).In g
  T : Top topProg loose mean mg mb g
  B : Below callerA g [] g
  k1 : CodeHd g 132 128
  k2 : CodeHd g 125 121
  k3 : CodeHd g 67 63
  k4 : CodeHd g 74 70
  hI : IntsAre vs ns
  lifted : g.IsList l vs.toArray
  hns : ns.length ≤ 63
  l0 : 128 < L ∧ 121 < L ∧ 63 < L ∧ 70 < L
def Blk (w : World) (g : Heap) (L fa : Addr) (cd : Value) (st : Stmt) (locs : List (Str × Value)) (led : CbLed) (Post : (Heap → Prop) → Prop) : Prop :=
  ∀ (s : Shared) (Q : Flow → Shared → Prop), AllBare s.gens → Loc g L s.heap locs → News g L s.heap led → (∀ (g' : Array GenState) (d' : Drawn) (t' : Nat) (o' : OsState), AllBare g' → o' = s.os → Post fun h' => Q .next ⟨h', g', d', t', o'⟩) →
    wpAny (model PySem.Challenge.rw_sr0059_01.row.prog w) (callerA.deeper (LEnv L fa cd)) (exec st (LEnv L fa cd)) Q NoE s
theorem blk_mk {w : World} {g : Heap} {L fa : Addr} {cd : Value} {st st' : Stmt} {locs : List (Str × Value)} {led : CbLed} {Post : (Heap → Prop) → Prop} (e : st = st')
    (h : ∀ (h0 : Heap) (gg : Array GenState) (dr : Drawn) (tk : Nat) (oo : OsState) (Q : Flow → Shared → Prop), AllBare gg → Loc g L h0 locs → News g L h0 led → (∀ (g' : Array GenState) (d' : Drawn) (t' : Nat) (o' : OsState), AllBare g' → o' = oo → Post fun h' => Q .next ⟨h', g', d', t', o'⟩) →
      wpAny (model PySem.Challenge.rw_sr0059_01.row.prog w) (callerA.deeper (envOfC (Str.ofString "law") lawScope L fa cd)) (exec st' (envOfC (Str.ofString "law") lawScope L fa cd)) Q NoE ⟨h0, gg, dr, tk, oo⟩) : Blk w g L fa cd st locs led Post := by
  subst e
  rintro ⟨h0, gg, dr, tk, oo⟩ Q a b c d
  exact h h0 gg dr tk oo Q a b c d
theorem end_mk {w : World} {g : Heap} {L fa : Addr} {cd : Value} {st st' : Stmt} {locs : List (Str × Value)} {led : CbLed} {R : OsState → Flow → Shared → Prop} (e : st = st')
    (h : ∀ (h0 : Heap) (gg : Array GenState) (dr : Drawn) (tk : Nat) (oo : OsState), AllBare gg → Loc g L h0 locs → News g L h0 led →
      wpAny (model PySem.Challenge.rw_sr0059_01.row.prog w) (callerA.deeper (envOfC (Str.ofString "law") lawScope L fa cd)) (execs [st'] (envOfC (Str.ofString "law") lawScope L fa cd)) (R oo) NoE ⟨h0, gg, dr, tk, oo⟩) :
    ∀ (s : Shared), AllBare s.gens → Loc g L s.heap locs → News g L s.heap led → wpAny (model PySem.Challenge.rw_sr0059_01.row.prog w) (callerA.deeper (LEnv L fa cd)) (execs [st] (LEnv L fa cd)) (R s.os) NoE s := by
  subst e
  rintro ⟨h0, gg, dr, tk, oo⟩ a b c
  exact h h0 gg dr tk oo a b c
theorem blk_cons {w : World} {g : Heap} {L fa : Addr} {cd : Value} {st : Stmt} {rest : List Stmt} {locs : List (Str × Value)} {led : CbLed} {Post : (Heap → Prop) → Prop} {Q : Flow → Shared → Prop} {s : Shared} (b : Blk w g L fa cd st locs led Post) (hg : AllBare s.gens) (hl : Loc g L s.heap locs) (hn : News g L s.heap led)
    (k : ∀ (g' : Array GenState) (d' : Drawn) (t' : Nat), AllBare g' → Post fun h' => wpAny (model PySem.Challenge.rw_sr0059_01.row.prog w) (callerA.deeper (LEnv L fa cd)) (execs rest (LEnv L fa cd)) Q NoE ⟨h', g', d', t', s.os⟩) :
    wpAny (model PySem.Challenge.rw_sr0059_01.row.prog w) (callerA.deeper (LEnv L fa cd)) (execs (st :: rest) (LEnv L fa cd)) Q NoE s :=
  wpAny_execs_cons (b s _ hg hl hn fun g' d' t' o' h e => by subst e; exact k g' d' t' h)
def LawEnd (g : Heap) (tabs : List (Addr × Addr)) (os : OsState) (f : Flow) (s' : Shared) : Prop :=
  f = .ret (.bool true) ∧ (∀ b o, g.get? b = some o → s'.heap.get? b = some o) ∧ s'.os = os ∧ GrownAll tabs s'.heap ∧ AllBare s'.gens
end
section
open Builtin Builtin.ObjectAttr Builtin.Getset_descriptor
structure MkL (M : Model) (h : Heap) (C : Addr) : Prop where
  obj : ∃ oc od cd sl, h.get? C = some ⟨oc, od, .cls cd, sl⟩ ∧ cd.hasDel = false ∧ cd.mro.isEmpty = false
  made : Looks M h (Bind.madeBy (.ref C)) (some "list.__new__")
  base : Looks M h (Bind.staticBase (.ref C)) (.ref C)
  self : Looks M h (isSubtype (.ref C) (.ref C)) true
  lst : Looks M h (isSubtype (.ref C) (.type "list")) true
  call : Looks M h (specialOf (.ref C) "__call__") (some (.builtin "type.__call__"))
  typ : Looks M h (isInstance (.ref C) (.type "type")) true
noncomputable def mklIn (K : Frag) (C : Addr) : Bool := match K.lookup C with
  | some ⟨_, _, .cls cd, sl⟩ => !cd.hasDel && (sl.toList[4]?).join == some (.builtin "list.__new__") && !cd.mro.isEmpty && cd.mro.contains (.ref C) && cd.mro.contains (.type "list") &&
      specialIn K (.ref C) "__call__" == some (some (.builtin "type.__call__")) && instIn K (.ref C) (.type "type") == some true
  | _ => false
theorem mkl_of {K : Frag} {M : Model} {h : Heap} (X : K.In h) {C : Addr} (e : mklIn K C = true) : MkL M h C := by
  unfold mklIn at e
  split at e
  · rename_i oc od cd sl ho
    simp only [Bool.and_eq_true, Bool.not_eq_true', beq_iff_eq] at e
    first | (revert e; intro hx9; k_extra "xe2"; clear hx9; intro hx9; (first | (k_extra "xq2"; clear hx9; intro hx9; (first | (k_extra "xq2"; clear hx9; intro hx9; (first | (k_extra "xq2"; clear hx9; intro hx9; (first | (k_extra "xq2"; clear hx9; intro hx9; (first | (k_extra "xq2"; clear hx9; intro e2 e3) | obtain ⟨e2, e3⟩ := hx9); intro e4) | obtain ⟨⟨e2, e3⟩, e4⟩ := hx9); intro e5) | obtain ⟨⟨⟨e2, e3⟩, e4⟩, e5⟩ := hx9); intro e6) | obtain ⟨⟨⟨⟨e2, e3⟩, e4⟩, e5⟩, e6⟩ := hx9); intro e7) | obtain ⟨⟨⟨⟨⟨e2, e3⟩, e4⟩, e5⟩, e6⟩, e7⟩ := hx9); intro e8) | obtain ⟨⟨⟨⟨⟨⟨e2, e3⟩, e4⟩, e5⟩, e6⟩, e7⟩, e8⟩ := e
    have hc : clsIn K C = some cd := by unfold clsIn; rw [ho]
    have hm : Looks M h (mroOf (.ref C)) cd.mro := (looks_clsIn X hc).andThen .now
    obtain ⟨c, l, hl⟩ : ∃ c l, cd.mro = c :: l := by
      cases q : cd.mro with
      | nil => rw [q] at e4; cases e4
      | cons c l => exact ⟨c, l, rfl⟩
    have made : Looks M h (Bind.madeBy (.ref C)) (some "list.__new__") := by
      intro A Q E s k q
      unfold Bind.madeBy
      refine wpAny_bind (hm A _ E s k ?_)
      rw [hl, List.forIn_cons]
      refine wpAny_bind (wpAny_bind (wpAny_bind (wpAny_bind (wpAny_loadPart (k _ _ (X _ _ ho)) (wpAny_pure ?_)))))
      dsimp only
      rw [← Array.getElem?_toList, e3]
      exact wpAny_pure (wpAny_pure (wpAny_pure q))
    refine ⟨⟨oc, od, cd, sl, X _ _ ho, e2, e4⟩, made, ?_, looks_mroIn X ?_, looks_mroIn X ?_, looks_specialIn X e7, looks_instIn X e8⟩
    · intro A Q E s k q
      unfold Bind.staticBase
      refine wpAny_bind (hm A _ E s k ?_)
      rw [hl, List.forIn_cons]
      exact wpAny_bind (wpAny_bind (wpAny_bind (made A _ E s k (wpAny_pure (wpAny_pure (wpAny_pure q))))))
    · unfold mroIn; rw [hc, Option.bind_some, if_neg (by rw [e4]; decide), e5]
    · unfold mroIn; rw [hc, Option.bind_some, if_neg (by rw [e4]; decide), e6]
  · cases e
abbrev lstObj (C dx : Addr) (its : Array Value) (n : Nat) : Obj := { cls := .ref C, dict := some dx, data := .seq its n }
theorem ln_kind : builtinKind "list.__new__" = some .builtinFn := by decide +kernel
theorem ln_split : splitId "list.__new__" = some ("list", "__new__") := by decide +kernel
theorem ln_quiet : plainId "list.__new__" = true := by decide +kernel
noncomputable def lnSig : Manifest.Signature := (Manifest.signature? "list.__new__").getD ⟨.hand, "", "", .none, []⟩
theorem ln_sig : Manifest.signature? "list.__new__" = some lnSig := by unfold lnSig; kernel_rfl
theorem ln_args1 (C : Addr) (a : Value) : Bind.checkArgs "list.__new__" lnSig ⟨[.ref C, a], []⟩ = pure () := by unfold lnSig; kernel_rfl
theorem ln_args0 (C : Addr) : Bind.checkArgs "list.__new__" lnSig ⟨[.ref C], []⟩ = pure () := by unfold lnSig; kernel_rfl
section
variable {prog : Program} {w : World} {A : Around} {K : Frag} {C : Addr} {R : Result → Shared → Prop} {h : Heap} {g : Array GenState} {d : Drawn} {t : Nat} {os : OsState}
theorem newL {rest : List Value} (Y : MkL (model prog w) h C) (ha : Bind.checkArgs "list.__new__" lnSig ⟨.ref C :: rest, []⟩ = pure ())
    (hq : R (.ok (.ret (.ref (h.objs.size + 1)))) ⟨(h.push emptyDict).push (lstObj C h.objs.size #[] 0), g, d, t, os⟩) :
    codeAny (model prog w) A (.call (.builtin "list.__new__") ⟨.ref C :: rest, []⟩) R ⟨h, g, d, t, os⟩ := by
  first | (revert Y; intro hx9; k_extra "xe7"; clear hx9; intro hx9; (first | (k_extra "xq7"; clear hx9; intro oc od cd sl hC e2 e4) | obtain ⟨oc, od, cd, sl, hC, e2, e4⟩ := hx9); intro made base self lst call typ) | obtain ⟨⟨oc, od, cd, sl, hC, e2, e4⟩, made, base, self, lst, call, typ⟩ := Y
  refine codeAny_call_builtin_code (plainId_quiet ln_quiet _) ?_
  simp only [checkBuiltinCall, ln_kind, ln_split, ln_sig, ha]
  repeat (first | simp only [bne_self_eq_false, beq_self_eq_true, Bool.not_true, if_true, Bool.false_eq_true, if_false] | lk)
  refine codeAny_builtin_stack PySem.F.entry_list_new rfl fun p st => ?_
  have hown := owner_list_new
  simp only [hown]
  repeat (first | simp only [bne_self_eq_false, beq_self_eq_true, Bool.not_true, if_true, Bool.false_eq_true, if_false] | lk)
  refine wpAny_load (Heap.get?_push_of_some _ (Heap.get?_push_of_some _ hC)) (wpAny_pure ?_)
  try dsimp only
  rw [e2, if_neg (by decide)]
  refine wpAny_pure (wpAny_pure ?_)
  show R _ _
  rw [Heap.size_push]
  exact hq
end
end
section
open Builtin Builtin.ObjectAttr Builtin.List
section
variable {prog : Program} {w : World} {A : Around} {E : Value → Shared → Prop} {s : Shared}
theorem check_meth {M : Model} {A : Around} {E : Value → Shared → Prop} {s : Shared} {i owner n : String} {self : Value} {rest : List Value} {kw : List (Str × Value)} {Q : Unit → Shared → Prop}
    (hk : builtinKind i = some .method) (hs : splitId i = some (owner, n)) (hi : Looks M s.heap (isInstance self (.type owner)) true) (ha : argsOk i ⟨self :: rest, kw⟩) (q : Q () s) :
    wpAny M A (checkBuiltinCall i ⟨self :: rest, kw⟩) Q E s := by
  simp only [checkBuiltinCall, hk, hs]
  refine wpAny_bind (hi.here ?_)
  simp only [Bool.not_true, Bool.false_eq_true, if_false]
  cases hsig : Manifest.signature? i with
  | none => exact wpAny_pure q
  | some sig =>
    simp only [argsOk, hsig] at ha
    have h2 : Bind.checkArgs i sig ⟨self :: rest, kw⟩ = pure () := ha
    show wpAny M A (Bind.checkArgs i sig ⟨self :: rest, kw⟩) Q E s
    rw [h2]; exact wpAny_pure q
theorem sub_call {i owner n : String} {b : Builtin} {self : Value} {rest : List Value} {Q : Value → Shared → Prop} (hk : builtinKind i = some .method ∨ builtinKind i = some .slot) (hs : splitId i = some (owner, n)) (hp : plainId i = true)
    (hb : entryFor table i = some b) (hi : Looks (model prog w) s.heap (isInstance self (.type owner)) true) (ha : argsOk i ⟨self :: rest, []⟩)
    (hc : wpAny (model prog w) A.in1 (b ⟨self :: rest, []⟩) (fun fin s' => ∃ v, fin = .done (.ret v) ∧ Q v s') E s) :
    wpAny (model prog w) A (call (.builtin i) (self :: rest)) Q E s := by
  refine wpAny_call (codeAny_call_builtin hp hb ?_)
  have z : wpAny (model prog w) A.in1 (b ⟨self :: rest, []⟩) (fun fin s' => match fin with
      | .done f => (match (Except.ok f : Result) with | .ok (.ret v) => Q v s' | .ok _ => False | .error e => E e s')
      | .again c' => c'.quiet = true ∧ codeAny (model prog w) A c' (fun r s' => match r with | .ok (.ret v) => Q v s' | .ok _ => False | .error e => E e s') s') E s :=
    wpAny_mono hc (fun fin s' h' => by obtain ⟨v, rfl, hv⟩ := h'; exact hv) fun _ _ h' => h'
  rcases hk with hk | hk
  · exact check_meth hk hs hi ha z
  · exact check_slot hk hs hi ha z
end
structure LsAt (K : Frag) (h : Heap) (x C dx : Addr) (its : Array Value) (n : Nat) : Prop where
  at_ : h.get? x = some (lstObj C dx its n)
theorem inst_list {K : Frag} {M : Model} {h : Heap} (X : K.In h) {x C dx : Addr} {its : Array Value} {n : Nat} (hx : h.get? x = some (lstObj C dx its n)) (hC : mroIn K C (.type "list") = some true) :
    Looks M h (isInstance (.ref x) (.type "list")) true :=
  ((Looks.ld hx).andThen .now).andThen (looks_mroIn X hC)
theorem la_kind : builtinKind "list.append" = some .method := by decide +kernel
theorem la_split : splitId "list.append" = some ("list", "append") := by decide +kernel
theorem la_plain : plainId "list.append" = true := by decide +kernel
theorem lp_kind : builtinKind "list.pop" = some .method := by decide +kernel
theorem lp_split : splitId "list.pop" = some ("list", "pop") := by decide +kernel
theorem lp_plain : plainId "list.pop" = true := by decide +kernel
theorem ll_kind : builtinKind "list.__len__" = some .slot := by decide +kernel
theorem ll_split : splitId "list.__len__" = some ("list", "__len__") := by decide +kernel
theorem ll_plain : plainId "list.__len__" = true := by decide +kernel
theorem li_kind : builtinKind "list.__iter__" = some .slot := by decide +kernel
theorem li_split : splitId "list.__iter__" = some ("list", "__iter__") := by decide +kernel
theorem li_plain : plainId "list.__iter__" = true := by decide +kernel
theorem lg_kind : builtinKind "list.__getitem__" = some .method := by decide +kernel
theorem lg_split : splitId "list.__getitem__" = some ("list", "__getitem__") := by decide +kernel
theorem lg_plain : plainId "list.__getitem__" = true := by decide +kernel
theorem lsi_kind : builtinKind "list.__setitem__" = some .slot := by decide +kernel
theorem lsi_split : splitId "list.__setitem__" = some ("list", "__setitem__") := by decide +kernel
theorem lsi_plain : plainId "list.__setitem__" = true := by decide +kernel
theorem l0_kind : builtinKind "list.__init__" = some .slot := by decide +kernel
theorem l0_split : splitId "list.__init__" = some ("list", "__init__") := by decide +kernel
theorem l0_plain : plainId "list.__init__" = true := by decide +kernel
theorem lg_args (a b : Value) : argsOk "list.__getitem__" ⟨[a, b], []⟩ := by unfold argsOk; kernel_rfl
theorem lsi_args (a b c : Value) : argsOk "list.__setitem__" ⟨[a, b, c], []⟩ := by unfold argsOk; kernel_rfl
theorem ll_args (a : Value) : argsOk "list.__len__" ⟨[a], []⟩ := by unfold argsOk; kernel_rfl
theorem li_args (a : Value) : argsOk "list.__iter__" ⟨[a], []⟩ := by unfold argsOk; kernel_rfl
theorem lp_args (a : Value) : argsOk "list.pop" ⟨[a], []⟩ := by unfold argsOk; kernel_rfl
theorem l0_args (a : Value) : argsOk "list.__init__" ⟨[a], []⟩ := by unfold argsOk; kernel_rfl
theorem e_len : entryFor table "list.__len__" = some Builtin.«list.__len__» := entryFor_of_tree (by kernel_rfl)
theorem e_iter : entryFor table "list.__iter__" = some Builtin.«list.__iter__» := entryFor_of_tree (by kernel_rfl)
theorem e_get : entryFor table "list.__getitem__" = some Builtin.«list.__getitem__» := entryFor_of_tree (by kernel_rfl)
theorem e_set : entryFor table "list.__setitem__" = some Builtin.«list.__setitem__» := entryFor_of_tree (by kernel_rfl)
theorem e_pop : entryFor table "list.pop" = some Builtin.«list.pop» := entryFor_of_tree (by kernel_rfl)
theorem e_init : entryFor table "list.__init__" = some Builtin.«list.__init__» := entryFor_of_tree (by kernel_rfl)
section
variable {prog : Program} {w : World} {A : Around} {E : Value → Shared → Prop} {K : Frag} {x C dx : Addr} {its : List Value} {n : Nat} {h : Heap} {g : Array GenState} {d : Drawn} {t : Nat} {os : OsState} {Q : Value → Shared → Prop}
theorem upd_get {h : Heap} {x C dx : Addr} {its its' : Array Value} {n : Nat} {f : Array Value → Array Value} (hx : h.get? x = some (lstObj C dx its n)) (e : f its = its') :
    ∃ n', (h.update x (Obj.mapSeq f)).get? x = some (lstObj C dx its' n') := by
  subst e
  have hx9 := Obj.data_mapSeq (o := lstObj C dx its n) rfl f
  first | (k_extra "xe2"; clear hx9; intro n' hn) | obtain ⟨n', hn⟩ := hx9
  refine ⟨n', ?_⟩
  rw [Heap.get?_update_self _ hx (Obj.isFreed_of_seq hn)]
  rcases q : Obj.mapSeq f (lstObj C dx its n) with ⟨c, di, da, sl⟩
  rw [q] at hn
  cases hn
  have e1 : (Obj.mapSeq f (lstObj C dx its n)).cls = .ref C := rfl
  have e2 : (Obj.mapSeq f (lstObj C dx its n)).dict = some dx := rfl
  have e3 : (Obj.mapSeq f (lstObj C dx its n)).slots = #[] := rfl
  rw [q] at e1 e2 e3
  cases e1; cases e2; cases e3
  rfl
theorem append_L (X : K.In h) (hx : h.get? x = some (lstObj C dx its.toArray n)) (hC : mroIn K C (.type "list") = some true) (v : Value) (hsz : its.length ≤ 1000)
    (hq : ∀ h' n', h'.get? x = some (lstObj C dx (its ++ [v]).toArray n') → Heap.SameBut x h h' → Q .none ⟨h', g, d, t, os⟩) :
    wpAny (model prog w) A (call (.builtin "list.append") [.ref x, v]) Q E ⟨h, g, d, t, os⟩ := by
  refine sub_call (.inl la_kind) la_split la_plain entry_list_append (inst_list X hx hC) (args_list_append _ _) ?_
  show wpAny _ _ (updateSeq x (·.push v) >>= fun _ => ret .none) _ _ _
  have hx9 := upd_get (f := (·.push v)) hx (its' := (its ++ [v]).toArray) (by simp)
  first | (k_extra "xe2"; clear hx9; intro n' hn) | obtain ⟨n', hn⟩ := hx9
  refine wpAny_bind (wpAny_updateSeq hx rfl (wpAny_pure ⟨.none, rfl, hq _ n' hn (Heap.SameBut.update ..)⟩) (by rw [List.size_toArray, sizeLine_eq]; k_extra "li") (by simp [sizeLine_eq]; k_extra "li"))
theorem len_B (hx : h.get? x = some (lstObj C dx its.toArray n))
    (hq : ∀ t', Q (.int (its.length : Nat) t) ⟨h, g, d, t', os⟩) :
    wpAny (model prog w) A (Builtin.«list.__len__» ⟨[.ref x], []⟩) (fun fin s' => ∃ v, fin = .done (.ret v) ∧ Q v s') E ⟨h, g, d, t, os⟩ := by
  unfold Builtin.«list.__len__»
  repeat lk
  exact ⟨_, rfl, by rw [List.size_toArray]; exact hq _⟩
theorem len_L (X : K.In h) (hx : h.get? x = some (lstObj C dx its.toArray n)) (hC : mroIn K C (.type "list") = some true)
    (hq : ∀ t', Q (.int (its.length : Nat) t) ⟨h, g, d, t', os⟩) :
    wpAny (model prog w) A (call (.builtin "list.__len__") [.ref x]) Q E ⟨h, g, d, t, os⟩ :=
  sub_call (.inr ll_kind) ll_split ll_plain e_len (inst_list X hx hC) (ll_args _) (len_B hx hq)
theorem iter_L (X : K.In h) (hx : h.get? x = some (lstObj C dx its.toArray n)) (hC : mroIn K C (.type "list") = some true)
    (hq : Q (.ref h.objs.size) ⟨h.push { cls := .type "list_iterator", data := .fields #[.ref x, .int 0 0] }, g, d, t, os⟩) :
    wpAny (model prog w) A (call (.builtin "list.__iter__") [.ref x]) Q E ⟨h, g, d, t, os⟩ := by
  refine sub_call (.inr li_kind) li_split li_plain e_iter (inst_list X hx hC) (li_args _) ?_
  unfold Builtin.«list.__iter__»
  repeat lk
  exact ⟨_, rfl, hq⟩
theorem wpAny_listUpdate {its its' : Array Value} {f : Array Value → Array Value} {Q : Unit → Shared → Prop} (hx : h.get? x = some (lstObj C dx its n)) (e : f its = its') (h1 : its.size ≤ 1000) (h2 : its'.size ≤ 1001)
    (hq : ∀ h' n', h'.get? x = some (lstObj C dx its' n') → Heap.SameBut x h h' → Q () ⟨h', g, d, t, os⟩) : wpAny (model prog w) A (listUpdate (.ref x) f) Q E ⟨h, g, d, t, os⟩ := by
  show wpAny _ _ (updateSeq x f) _ _ _
  have hx9 := upd_get (f := f) hx e
  first | (k_extra "xe2"; clear hx9; intro n' hn) | obtain ⟨n', hn⟩ := hx9
  exact wpAny_updateSeq hx rfl (hq _ n' hn (Heap.SameBut.update ..)) (by rw [sizeLine_eq]; k_extra "li") (by rw [e, sizeLine_eq]; k_extra "li")
theorem pop_B (v : Value) (hx : h.get? x = some (lstObj C dx (its ++ [v]).toArray n)) (hsz : its.length < 1000)
    (hq : ∀ h' n' t', h'.get? x = some (lstObj C dx its.toArray n') → Heap.SameBut x h h' → Q v ⟨h', g, d, t', os⟩) :
    wpAny (model prog w) A (Builtin.«list.pop» ⟨[.ref x], []⟩) (fun fin s' => ∃ v, fin = .done (.ret v) ∧ Q v s') E ⟨h, g, d, t, os⟩ := by
  unfold Builtin.«list.pop»
  repeat lk
  rw [if_neg (by simp)]
  have e : (seqIndex? (-1) (its ++ [v]).toArray.size).bind (fun k => Option.map (fun x => (k, x)) (its ++ [v]).toArray[k]?) = some (its.length, v) := by
    have e1 : seqIndex? (-1) (its ++ [v]).toArray.size = some its.length := by
      unfold seqIndex?
      simp
      k_extra "li"
    rw [e1]; simp
  rw [e]
  refine wpAny_bind (wpAny_listUpdate hx (its' := its.toArray) ?_ (by simp; k_extra "li") (by simp; k_extra "li") fun h' n' hn hs => wpAny_pure ⟨_, rfl, hq h' n' t hn hs⟩)
  rw [Array.eraseIdxIfInBounds_eq]
  simp
  rw [List.eraseIdx_append_of_length_le (Nat.le_refl _)]
  simp
theorem pop_L (X : K.In h) (v : Value) (hx : h.get? x = some (lstObj C dx (its ++ [v]).toArray n)) (hC : mroIn K C (.type "list") = some true) (hsz : its.length < 1000)
    (hq : ∀ h' n' t', h'.get? x = some (lstObj C dx its.toArray n') → Heap.SameBut x h h' → Q v ⟨h', g, d, t', os⟩) :
    wpAny (model prog w) A (call (.builtin "list.pop") [.ref x]) Q E ⟨h, g, d, t, os⟩ :=
  sub_call (.inl lp_kind) lp_split lp_plain e_pop (inst_list X hx hC) (lp_args _) (pop_B v hx hsz hq)
theorem init_B (hx : h.get? x = some (lstObj C dx #[] n))
    (hq : ∀ h' n' t', h'.get? x = some (lstObj C dx #[] n') → Heap.SameBut x h h' → Q .none ⟨h', g, d, t', os⟩) :
    wpAny (model prog w) A (Builtin.«list.__init__» ⟨[.ref x], []⟩) (fun fin s' => ∃ v, fin = .done (.ret v) ∧ Q v s') E ⟨h, g, d, t, os⟩ := by
  unfold Builtin.«list.__init__»
  repeat (first | (with_reducible refine wpAny_listUpdate hx rfl (by simp) (by simp) fun h' n' hn hs => wpAny_bind (wpAny_letGo (wpAny_pure ⟨_, rfl, hq h' n' _ hn hs⟩))) | lk)
theorem init_L (X : K.In h) (hx : h.get? x = some (lstObj C dx #[] n)) (hC : mroIn K C (.type "list") = some true)
    (hq : ∀ h' n' t', h'.get? x = some (lstObj C dx #[] n') → Heap.SameBut x h h' → Q .none ⟨h', g, d, t', os⟩) :
    wpAny (model prog w) A (call (.builtin "list.__init__") [.ref x]) Q E ⟨h, g, d, t, os⟩ :=
  sub_call (.inr l0_kind) l0_split l0_plain e_init (inst_list X hx hC) (l0_args _) (init_B hx hq)
theorem drop_slice (i : Nat) (hi : i ≤ its.length) :
   List.filterMap (fun x => its.toArray[x]?) (sliceRange (Max.max 0 (Min.min (if (i : Int) < 0 then (i : Int) + its.toArray.size else (i : Int)) its.toArray.size)) (if (1 : Int) > 0 then (its.toArray.size : Int) else -1) 1) = its.drop i := by
  rw [if_neg (by k_extra "li"), if_pos (by k_extra "li"), List.size_toArray]
  have e : Max.max 0 (Min.min (i : Int) its.length) = (i : Int) := by k_extra "li"
  rw [e, sliceRange_one, List.filterMap_map]
  apply List.ext_getElem?
  intro j
  have e2 : (fun x => its.toArray[x]?) ∘ (fun x => i + x) = fun x => its[i + x]? := by funext x; simp
  rw [e2]
  have e3 : List.filterMap (fun x => its[i + x]?) (List.range (its.length - i)) = its.drop i := by
    apply List.ext_getElem?
    intro j
    have : List.filterMap (fun x => its[i + x]?) (List.range (its.length - i)) = (List.range (its.length - i)).map (fun x => its.getD (i + x) .none) := by
      have gen : ∀ l : List Nat, (∀ x ∈ l, i + x < its.length) → List.filterMap (fun x => its[i + x]?) l = l.map (fun x => its.getD (i + x) .none) := by
        intro l
        induction l with
        | nil => intro _; rfl
        | cons a l ih =>
          intro hl
          have ha := hl a (.head _)
          rw [List.filterMap_cons, List.getElem?_eq_getElem ha]
          simp only [List.map_cons]
          rw [ih fun x hx => hl x (.tail _ hx), List.getD_eq_getElem?_getD, List.getElem?_eq_getElem ha]
          rfl
      exact gen _ fun x hx => by have := List.mem_range.mp hx; k_extra "li"
    rw [this, List.getElem?_map, List.getElem?_drop]
    by_cases hj : j < its.length - i
    · rw [List.getElem?_range hj]; simp [List.getElem?_eq_getElem (show i + j < its.length by k_extra "li")]
    · rw [List.getElem?_eq_none (by simp; k_extra "li"), List.getElem?_eq_none (by k_extra "li")]; rfl
  rw [e3]
theorem get_L (X : K.In h) (hx : h.get? x = some (lstObj C dx its.toArray n)) (hC : mroIn K C (.type "list") = some true) (sl : Addr) (i : Nat) (ti : Tok) (hsl : h.get? sl = some { cls := .type "slice", data := .fields #[.int (i : Int) ti, .none, .none] }) (hi : i ≤ its.length) (hsz : its.length ≤ 1000)
    (hq : ∀ t', Q (.ref h.objs.size) ⟨h.push (listOf (its.drop i).toArray 0), g, d, t', os⟩) :
    wpAny (model prog w) A (call (.builtin "list.__getitem__") [.ref x, .ref sl]) Q E ⟨h, g, d, t, os⟩ := by
  refine sub_call (.inl lg_kind) lg_split lg_plain e_get (inst_list X hx hC) (lg_args _ _) ?_
  unfold Builtin.«list.__getitem__»
  repeat lk
  simp only [drop_slice i hi]
  rw [if_neg (by simp [sizeLine_eq]; k_extra "li")]
  repeat lk
  exact ⟨_, rfl, hq _⟩
theorem set_L (X : K.In h) (hx : h.get? x = some (lstObj C dx its.toArray n)) (hC : mroIn K C (.type "list") = some true) (sl em : Addr) (i : Nat) (ti : Tok) (ne : Nat) (hsl : h.get? sl = some { cls := .type "slice", data := .fields #[.int (i : Int) ti, .none, .none] })
    (hem : h.get? em = some (listOf #[] ne)) (hxe : x ≠ em) (hi : i ≤ its.length) (hsz : its.length ≤ 1000)
    (hq : ∀ h' n' t', h'.get? x = some (lstObj C dx (its.take i).toArray n') → Heap.SameBut x h h' → Q .none ⟨h', g, d, t', os⟩) :
    wpAny (model prog w) A (call (.builtin "list.__setitem__") [.ref x, .ref sl, .ref em]) Q E ⟨h, g, d, t, os⟩ := by
  refine sub_call (.inr lsi_kind) lsi_split lsi_plain e_set (inst_list X hx hC) (lsi_args _ _ _) ?_
  have hne : listSameRef (.ref x) (.ref em) = false := by simp [listSameRef, hxe]
  unfold Builtin.«list.__setitem__»
  repeat lk
  rw [hne, if_neg (by decide)]
  repeat lk
  rw [if_neg (by simp [listTooLong, sizeLine_eq]; k_extra "li"), if_pos (show (1 : Int) > 0 by k_extra "li"), if_neg (show ¬ (i : Int) < 0 by k_extra "li"), List.size_toArray]
  have e : Max.max 0 (Min.min (i : Int) its.length) = (i : Int) := by k_extra "li"
  have e2 : Max.max (i : Int) (its.length : Int) = (its.length : Int) := by k_extra "li"
  rw [e, e2]
  refine wpAny_bind (wpAny_listUpdate hx (its' := (its.take i).toArray) ?_ (by simp; k_extra "li") (by simp; k_extra "li") fun h' n' hn hs => wpAny_bind (wpAny_letGo (wpAny_bind (wpAny_pure (wpAny_pure ⟨_, rfl, hq h' n' _ hn hs⟩)))))
  simp

end
end
section
open Builtin Builtin.ObjectAttr
noncomputable def mro3 (K : Frag) (C : Addr) : Bool := (clsIn K C).any fun cd => cd.mro == [.ref C, .type "list", .type "object"]
theorem mro3_of {K : Frag} {C : Addr} (e : mro3 K C = true) : ∃ cd, clsIn K C = some cd ∧ cd.mro = [.ref C, .type "list", .type "object"] := by
  have hx9 := any_some e
  first | (k_extra "xe3"; clear hx9; intro cd h1 h2) | obtain ⟨cd, h1, h2⟩ := hx9
  exact ⟨cd, h1, beq_iff_eq.mp h2⟩
theorem mro3_in {K : Frag} {C : Addr} (e : mro3 K C = true) : mroIn K C (.type "list") = some true ∧ mroIn K C (.type "object") = some true := by
  have hx9 := mro3_of e
  first | (k_extra "xe3"; clear hx9; intro cd h1 h2) | obtain ⟨cd, h1, h2⟩ := hx9
  refine ⟨?_, ?_⟩ <;> (unfold mroIn; rw [h1, Option.bind_some, h2]; simp)
theorem list_passes (self : Value) : refuseLoop self "__setattr__" [.type "list", .type "object"] = pure () := by kernel_rfl
section
variable {prog : Program} {w : World} {A : Around} {E : Value → Shared → Prop} {s : Shared} {K : Frag} {x C dx L : Addr} {h₀ : Heap} {m : Str → Option Value} {news news' pre post : List (Addr × Obj)} {ox od od' : Obj} {es es' : List DictEntry} {n n' : Nat} {name : Str} {v : Value}
theorem osa_list {R : Result → Shared → Prop} {tk : Tok} (F : Fr h₀ L s.heap m) (N : News h₀ L s.heap (pre ++ (dx, od) :: post)) (X : K.In s.heap)
    (I : InstAt s.heap x ox C (some od)) (hd : ox.dict = some dx) (hm : mro3 K C = true) (ht : takerIn K C name = some none) (hh : (clsIn K C).any (·.hasDict) = true)
    (hl : (lookIn name od).isSome = true) (h1 : ∀ p ∈ pre, p.1 ≠ dx) (h2 : ∀ p ∈ post, p.1 ≠ dx)
    (e : Obj.putName name (PyData.keyHash w.params name) (.str name s.toks) v od = od') (e' : od'.data = .dict es.toArray n) (hz : es.length ≤ 1000)
    (h : ∀ h', Fr h₀ L h' m → News h₀ L h' (pre ++ (dx, od') :: post) → R (.ok (.ret .none)) { s with heap := h', toks := s.toks + 1 }) :
    codeAny (model prog w) A (.call (.builtin "object.__setattr__") ⟨[.ref x, .str name tk, v], []⟩) R s := by
  have SF := PySem.F.store_object
  have hx9 := mro3_of hm
  first | (k_extra "xe3"; clear hx9; intro cd hc hmr) | obtain ⟨cd, hc, hmr⟩ := hx9
  have sub : Looks (model prog w) s.heap (isInstance (.ref x) (.type "object")) true := I.type.andThen (looks_mroIn X (mro3_in hm).2)
  have hx9 := Option.bind_eq_some_iff.mp ht
  first | (k_extra "xe3"; clear hx9; intro attr ha hr) | obtain ⟨attr, ha, hr⟩ := hx9
  have L2 : Looks (model prog w) s.heap (mroOf (.ref C)) cd.mro := (looks_clsIn X hc).andThen .now
  have L3 : Looks (model prog w) s.heap (storeTaker? attr) none := by
    cases attr with
    | none => exact .now
    | some a =>
      have hx9 := Option.map_eq_some_iff.mp hr
      first | (k_extra "xe3"; clear hx9; intro b hb hb2) | obtain ⟨b, hb, hb2⟩ := hx9
      cases b with
      | true => cases hb2
      | false => exact (looks_takesIn X hb).andThen .now
  refine codeAny_call_builtin SF.slot.plain SF.entry (@check_slot (model prog w) _ _ s "object.__setattr__" "object" "__setattr__" (.ref x) [.str name tk, v] [] _ SF.kind SF.split sub (SF.args (.ref x) (.str name tk) v) ?_)
  rw [osa_eq, refuse_eq]
  refine wpAny_bind (wpAny_bind (I.type.here (wpAny_bind (L2.here ?_))))
  rw [hmr, refuseLoop_ref, list_passes]
  refine wpAny_pure (wpAny_bind (I.type.here (wpAny_bind ((looks_findIn X ha).here (wpAny_bind (L3.here ?_))))))
  have hx9 := any_some hh
  first | (k_extra "xe3"; clear hx9; intro cd' hc' hd') | obtain ⟨cd', hc', hd'⟩ := hx9
  have hx9 := news_upd (f := Obj.putName name (PyData.keyHash w.params name) (.str name s.toks) v) F N h1 h2 e (by obtain ⟨_, _, dd, _⟩ := od'; cases e'; rfl)
  first | (k_extra "xe2"; clear hx9; intro U1 U2) | obtain ⟨U1, U2⟩ := hx9
  have D := (N (dx, od) (by simp)).1
  have D' := (U2 (dx, od') (by simp)).1
  obtain ⟨hx, hcl, hn, -⟩ := I
  first | (revert ox; intro hx9; k_extra "xe4"; clear hx9; intro oc odi oda osl) | obtain ⟨oc, odi, oda, osl⟩ := ox
  dsimp only at hcl hd
  subst hcl hd
  have LC := looks_clsIn (M := model prog w) X hc'
  dsimp only
  refine wpAny_bind (wpAny_pure (wpAny_bind (wpAny_bind (wpAny_loadPart hx (wpAny_bind (LC.here ?_))))))
  rw [hd']
  refine wpAny_pure (a := some dx) (wpAny_bind (wpAny_pure (wpAny_bind ?_)))
  unfold nsSet
  refine wpAny_bind (wpAny_bind (wpAny_askSetting (wpAny_pure (wpAny_bind (wpAny_mkText (wpAny_bind (wpAny_loadPart D ?_)))))))
  unfold lookIn at hl
  split at hl
  · rename_i es₀ n₀ q
    rw [q]
    dsimp only
    have c : (!es₀.any (·.key.isStr name) && es₀.any (·.refKey)) = false := by
      rw [← Array.any_toList, ← Array.any_toList]
      split at hl
      · rename_i en he
        rw [List.any_eq_true.mpr ⟨en, List.mem_of_find?_eq_some he, List.find?_some he⟩]; rfl
      · split at hl
        · cases hl
        · rename_i z; rw [Bool.not_eq_true] at z; rw [z, Bool.and_false]
    rw [aRefKeyMayBeTheName_at, c]
    refine wpAny_updatePart D ?_
    refine wpAny_bind (wpAny_lookBehind D' (by rw [e']; exact pastItsLine_dict (by rw [List.size_toArray, sizeLine_eq]; k_extra "li")) ?_)
    exact wpAny_pure (h _ U1 U2)
  · cases hl
theorem set_dictL {Q : Unit → Shared → Prop} (F : Fr h₀ L s.heap m) (X₀ : K.In h₀) (N : News h₀ L s.heap news) (I : InstAt s.heap x ox C (some (dictOf es n))) (hd : ox.dict = some dx)
    (hs : findIn K (.ref C) "__setattr__" = some (some (.builtin "object.__setattr__"))) (hp : mro3 K C = true) (ht : takerIn K C name = some none) (hh : hasDictIn K C = true) (hl : (getL name es).isSome = true)
    (e : (putL name (PyData.keyHash w.params name) (.str name (s.toks + 1)) v es, putN name es n) = (es', n')) (U : Upd dx (dictOf es n) (dictOf es' n') news news') (hz : es'.length ≤ 1000)
    (h : ∀ h', Fr h₀ L h' m → News h₀ L h' news' → Q () { s with heap := h', toks := s.toks + 2 }) :
    wpAny (model prog w) A (setAttr (.ref x) name v) Q E s := by
  have hx9 := U.split
  first | (k_extra "xe6"; clear hx9; intro pre post eq9; subst eq9; intro eq9; subst eq9; intro a b) | obtain ⟨pre, post, rfl, rfl, a, b⟩ := hx9
  have hx9 := Prod.mk.inj e
  first | (k_extra "xe2"; clear hx9; intro e1 e2) | obtain ⟨e1, e2⟩ := hx9
  exact set_plain (X₀.keeps F.keep) I hs (osa_list (s := { s with toks := s.toks + 1 }) F N (X₀.keeps F.keep) I hd hp ht hh hl a b (by rw [putName_dict, e1, e2]) rfl hz fun h' F' N' => h h' F' N')
theorem method_any {pl : Sem Bool} {Q : Value × List Value → Shared → Prop} {ga : String} {f t : Value} {od : Option Obj} (X : K.In s.heap) (I : InstAt s.heap x ox C od) (hga : findIn K (.ref C) "__getattribute__" = some (some (.builtin ga))) (hcan : Manifest.canonical ga = "object.__getattribute__") (hk : findIn K (.ref C) "__getattr__" = some none)
    (hf : findIn K (.ref C) name = some (some f)) (ht : typeIn K f = some t) (ht2 : (t != .type "function" && t != .type "method_descriptor" && t != .type "wrapper_descriptor") = false) (hs : shadowIn od name = some false) (h : Q (f, [.ref x]) s) :
    wpAny (model prog w) A (getMethod (.ref x) name pl) Q E s := by
  unfold getMethod specialOf
  refine wpAny_bind (wpAny_bind (I.type.here ((looks_findIn X hga).here ?_)))
  dsimp only
  rw [hcan, if_neg (by decide)]
  refine wpAny_bind (wpAny_bind (I.type.here ((looks_findIn X hk).here ?_)))
  refine wpAny_bind (wpAny_bind (I.type.here ((looks_findIn X hf).here (wpAny_bind ((looks_typeIn X ht).here ?_)))))
  rw [ht2, if_neg (by decide)]
  refine wpAny_bind (wpAny_loadPart I.at_ ?_)
  have hd := I.dict
  cases e : ox.dict with
  | none => exact wpAny_bind (wpAny_rule (wpAny_pure h))
  | some dx =>
    cases od with
    | none => rw [e] at hd; exact hd.elim
    | some o =>
      rw [e] at hd
      have hx9 := Option.map_eq_some_iff.mp hs
      first | (k_extra "xe3"; clear hx9; intro r a b) | obtain ⟨r, a, b⟩ := hx9
      refine wpAny_bind (wpAny_bind (wpAny_loadPart hd ?_))
      rw [nsLook_of a]
      refine wpAny_pure ?_
      rw [b]
      exact wpAny_bind (wpAny_rule (wpAny_pure h))
end
end
section
open Builtin Builtin.ObjectAttr
theorem bind_bi {T n : String} {name : Str} {id : String} (S : Slot T name id) (self : Value) : bindSpecial (.builtin id) self = pure (.builtin id, [self]) := S.bind self
section
variable {prog : Program} {w : World} {A : Around} {E : Value → Shared → Prop} {s : Shared} {K : Frag} {x C dx L : Addr} {h₀ : Heap} {m : Str → Option Value} {news news' pre post : List (Addr × Obj)} {ox od od' : Obj} {es es' : List DictEntry} {n n' : Nat} {name : Str} {v : Value} {its : List Value}
theorem sub_upd {o : Obj} {o' : Nat → Obj} {news : List (Addr × Obj)} (F : Fr h₀ L s.heap m) (N : News h₀ L s.heap news) (hx : (x, o) ∈ news) :
    s.heap.get? x = some o ∧ ∀ h' k, h'.get? x = some (o' k) → Heap.SameBut x s.heap h' → Fr h₀ L h' m ∧ ∀ news', Upd x o (o' k) news news' → News h₀ L h' news' := by
  have z := N _ hx
  refine ⟨z.1, fun h' k ho hs => ⟨F.change hs z.2.1 z.2.2, fun news' U => ?_⟩⟩
  have hx9 := U.split
  first | (k_extra "xe6"; clear hx9; intro pre post e1 e2 a b) | obtain ⟨pre, post, e1, e2, a, b⟩ := hx9
  subst e1
  rw [e2]
  exact news_set N a b hs ho
theorem useU {α : Type} {U P : α → Prop} {n : α} {G : Prop} (h : ∀ n', U n' → P n') (u : U n) (k : P n → G) : G := k (h n u)
theorem append_LK {Q : Value → Shared → Prop} (F : Fr h₀ L s.heap m) (X₀ : K.In h₀) (N : News h₀ L s.heap news) (hp : mro3 K C = true)
    (hxm : (x, lstObj C dx its.toArray n) ∈ news) (hsz : its.length ≤ 1000)
    (h : ∀ h' k, Fr h₀ L h' m → (∀ news', Upd x (lstObj C dx its.toArray n) (lstObj C dx (its ++ [v]).toArray k) news news' → News h₀ L h' news') → Q .none { s with heap := h' }) : wpAny (model prog w) A (call (.builtin "list.append") [.ref x, v]) Q E s := by
  have hx9 := sub_upd (o' := fun k => lstObj C dx (its ++ [v]).toArray k) F N hxm
  first | (k_extra "xe2"; clear hx9; intro hx k) | obtain ⟨hx, k⟩ := hx9
  have X := X₀.keeps F.keep
  first | (revert s; intro hx9; k_extra "xe5"; clear hx9; intro hh g d t os) | obtain ⟨hh, g, d, t, os⟩ := s
  exact append_L X hx (mro3_in hp).1 v hsz fun h' n' ho hs => h h' n' (k h' n' ho hs).1 (k h' n' ho hs).2
theorem pop_LK {Q : Value → Shared → Prop} (F : Fr h₀ L s.heap m) (X₀ : K.In h₀) (N : News h₀ L s.heap news) (hp : mro3 K C = true)
    (hxm : (x, lstObj C dx (its ++ [v]).toArray n) ∈ news) (hsz : its.length < 1000)
    (h : ∀ h' k tk, Fr h₀ L h' m → (∀ news', Upd x (lstObj C dx (its ++ [v]).toArray n) (lstObj C dx its.toArray k) news news' → News h₀ L h' news') → Q v { s with heap := h', toks := tk }) : wpAny (model prog w) A (call (.builtin "list.pop") [.ref x]) Q E s := by
  have hx9 := sub_upd (o' := fun k => lstObj C dx its.toArray k) F N hxm
  first | (k_extra "xe2"; clear hx9; intro hx k) | obtain ⟨hx, k⟩ := hx9
  have X := X₀.keeps F.keep
  first | (revert s; intro hx9; k_extra "xe5"; clear hx9; intro hh g d t os) | obtain ⟨hh, g, d, t, os⟩ := s
  exact pop_L X v hx (mro3_in hp).1 hsz fun h' n' t' ho hs => h h' n' t' (k h' n' ho hs).1 (k h' n' ho hs).2
theorem init_LK {Q : Value → Shared → Prop} (F : Fr h₀ L s.heap m) (X₀ : K.In h₀) (N : News h₀ L s.heap news) (hp : mro3 K C = true)
    (hxm : (x, lstObj C dx #[] n) ∈ news)
    (h : ∀ h' k tk, Fr h₀ L h' m → (∀ news', Upd x (lstObj C dx #[] n) (lstObj C dx #[] k) news news' → News h₀ L h' news') → Q .none { s with heap := h', toks := tk }) : wpAny (model prog w) A (call (.builtin "list.__init__") [.ref x]) Q E s := by
  have hx9 := sub_upd (o' := fun k => lstObj C dx #[] k) F N hxm
  first | (k_extra "xe2"; clear hx9; intro hx k) | obtain ⟨hx, k⟩ := hx9
  have X := X₀.keeps F.keep
  first | (revert s; intro hx9; k_extra "xe5"; clear hx9; intro hh g d t os) | obtain ⟨hh, g, d, t, os⟩ := s
  exact init_L X hx (mro3_in hp).1 fun h' n' t' ho hs => h h' n' t' (k h' n' ho hs).1 (k h' n' ho hs).2
theorem len_LK {Q : Value → Shared → Prop} (F : Fr h₀ L s.heap m) (X₀ : K.In h₀) (N : News h₀ L s.heap news) (hp : mro3 K C = true)
    (hx : (x, lstObj C dx its.toArray n) ∈ news)
    (h : ∀ tk t', Q (.int (its.length : Nat) t') { s with toks := tk }) : wpAny (model prog w) A (call (.builtin "list.__len__") [.ref x]) Q E s := by
  have X := X₀.keeps F.keep
  have hx := (N _ hx).1
  first | (revert s; intro hx9; k_extra "xe5"; clear hx9; intro hh g d t os) | obtain ⟨hh, g, d, t, os⟩ := s
  exact len_L X hx (mro3_in hp).1 fun t' => h t' t
theorem getitem_open {sl : Addr} {Q : Value → Shared → Prop} (X : K.In s.heap) (I : InstAt s.heap x ox C (some od)) (hq : noSeq K C = true) (hs : findIn K (.ref C) "__getitem__" = some (some (.builtin "list.__getitem__")))
    (h : wpAny (model prog w) A (call (.builtin "list.__getitem__") [.ref x, .ref sl]) Q E s) : wpAny (model prog w) A (getItem (.ref x) (.ref sl)) Q E s := by
  unfold getItem sequenceKey
  refine wpAny_holding (wpAny_bind (wpAny_bind (I.type.here ?_)))
  refine wpAny_bind ((anyM_none X hq).here ?_)
  rw [if_pos (show (!false) = true from rfl)]
  refine wpAny_pure ?_
  refine wpAny_bind (wpAny_bind (wpAny_bind (I.type.here ((looks_findIn X hs).here ?_))))
  dsimp only
  refine wpAny_holding (wpAny_bind ?_)
  rw [slot_list_getitem.bind]
  exact wpAny_pure (wpAny_bind (wpAny_mono h (fun v s' z => wpAny_pure (wpAny_pure z)) fun _ _ z => z))
theorem slice_LK {value slice : Expr} {sl : Addr} {i : Nat} {ti : Tok} {Q : Value → Shared → Prop} (F : Fr h₀ L s.heap m) (X₀ : K.In h₀) (N : News h₀ L s.heap news) (hp : mro3 K C = true) (hq : noSeq K C = true) (hs : findIn K (.ref C) "__getitem__" = some (some (.builtin "list.__getitem__")))
    (hx : (x, lstObj C dx its.toArray n) ∈ news) (hdx : (dx, od) ∈ news) (hsl : s.heap.get? sl = some { cls := .type "slice", data := .fields #[.int (i : Int) ti, .none, .none] }) (hi : i ≤ its.length) (hsz : its.length ≤ 1000)
    (h : ∀ l h' tk, Fr h₀ L h' m → News h₀ L h' ((l, listOf (its.drop i).toArray 0) :: news) → (∀ p ∈ news, p.1 < l) → Q (.ref l) { s with heap := h', toks := tk })
    (hsb : ∀ b, subscripted slice b (.ref x) (.ref sl) = operate [.ref sl, .ref x] (getItem (.ref x) (.ref sl))) :
    wpAny (model prog w) A (subscriptTail value slice (.ref x) (.ref sl)) Q E s := by
  have X := X₀.keeps F.keep
  have I : InstAt s.heap x (lstObj C dx its.toArray n) C (some od) := ⟨(N _ hx).1, rfl, rfl, (N _ hdx).1⟩
  have hx' := (N _ hx).1
  unfold subscriptTail getitemInPython
  refine wpAny_bind (wpAny_bind (wpAny_bind (I.type.here ((looks_findIn X hs).here ?_))))
  dsimp only
  refine wpAny_pure ?_
  rw [hsb]
  refine wpAny_bind (wpAny_operating (getitem_open X I hq hs ?_))
  first | (revert s; intro hx9; k_extra "xe5"; clear hx9; intro hh g d t os) | obtain ⟨hh, g, d, t, os⟩ := s
  refine get_L X hx' (mro3_in hp).1 sl i ti hsl hi hsz fun t' => ?_
  have hx9 := ks_newsPush (s := ⟨hh, g, d, t, os⟩) (o := listOf (its.drop i).toArray 0) F N rfl (Heap.get?_push_at rfl rfl) (fun b o e => Heap.get?_push_of_some _ e)
  first | (k_extra "xe3"; clear hx9; intro F' N' l') | obtain ⟨F', N', l'⟩ := hx9
  exact wpAny_bind (wpAny_letTemporaryGo (wpAny_pure (h _ _ _ F' N' l')))
theorem setslice_LK {sl em : Addr} {i ne : Nat} {ti : Tok} {Q : Unit → Shared → Prop} (F : Fr h₀ L s.heap m) (X₀ : K.In h₀) (N : News h₀ L s.heap news) (hp : mro3 K C = true) (hq : noSeq K C = true) (hs : findIn K (.ref C) "__setitem__" = some (some (.builtin "list.__setitem__")))
    (hxm : (x, lstObj C dx its.toArray n) ∈ news) (hdx : (dx, od) ∈ news) (hem : (em, listOf #[] ne) ∈ news)
    (hsl : s.heap.get? sl = some { cls := .type "slice", data := .fields #[.int (i : Int) ti, .none, .none] }) (hi : i ≤ its.length) (hsz : its.length ≤ 1000)
    (h : ∀ h' k tk, Fr h₀ L h' m → (∀ news', Upd x (lstObj C dx its.toArray n) (lstObj C dx (its.take i).toArray k) news news' → News h₀ L h' news') → Q () { s with heap := h', toks := tk }) :
    wpAny (model prog w) A (setItem (.ref x) (.ref sl) (.ref em)) Q E s := by
  have hx9 := sub_upd (o' := fun k => lstObj C dx (its.take i).toArray k) F N hxm
  first | (k_extra "xe2"; clear hx9; intro hx k) | obtain ⟨hx, k⟩ := hx9
  have X := X₀.keeps F.keep
  have I : InstAt s.heap x (lstObj C dx its.toArray n) C (some od) := ⟨hx, rfl, rfl, (N _ hdx).1⟩
  have hem' := (N _ hem).1
  unfold setItem sequenceKey
  refine wpAny_holding (wpAny_bind (wpAny_bind (I.type.here ?_)))
  refine wpAny_bind ((anyM_none X hq).here ?_)
  rw [if_pos (show (!false) = true from rfl)]
  refine wpAny_pure ?_
  refine wpAny_bind (wpAny_bind (wpAny_bind (I.type.here ((looks_findIn X hs).here ?_))))
  dsimp only
  refine wpAny_holding (wpAny_bind ?_)
  rw [slot_list_setitem.bind]
  refine wpAny_pure (wpAny_bind ?_)
  first | (revert s; intro hx9; k_extra "xe5"; clear hx9; intro hh g d t os) | obtain ⟨hh, g, d, t, os⟩ := s
  refine set_L X hx (mro3_in hp).1 sl em i ti ne hsl hem' (fun e => ?_) hi hsz fun h' n' t' ho hs => wpAny_pure (wpAny_pure (h h' n' t' (k h' n' ho hs).1 (k h' n' ho hs).2))
  subst e
  rw [hx] at hem'
  cases hem'
end
section
variable {prog : Program} {w : World} {A : Around} {E : Value → Shared → Prop} {s : Shared} {K : Frag} {x C dx L : Addr} {h₀ : Heap} {m : Str → Option Value} {news news' pre post : List (Addr × Obj)} {ox : Obj} {od : Option Obj} {es es' : List DictEntry} {n n' : Nat} {name : Str} {v : Value} {its : List Value}
theorem getval_L {expr : Bool} {Q : Value → Shared → Prop} (X : K.In s.heap) (I : InstAt s.heap x ox C od) (hga : findIn K (.ref C) "__getattribute__" = some (some (.builtin "list.__getattribute__"))) (hk : findIn K (.ref C) "__getattr__" = some none) (hm : mro3 K C = true)
    (hf : findObj K C od name = some (.value v)) (hh : handedIn v = true) (h : ∀ tk, s.toks ≤ tk → Q v { s with toks := tk }) : wpAny (model prog w) A (getAttr (.ref x) name expr) Q E s := by
  first | (revert s; intro hx9; k_extra "xe5"; clear hx9; intro hp g d t os) | obtain ⟨hp, g, d, t, os⟩ := s
  have L0 := I.type (M := model prog w)
  have L1 := looks_findIn (M := model prog w) X hga
  have L2 := looks_findIn (M := model prog w) X hk
  have L3 := looks_find (M := model prog w) X I hf
  have hsub : Looks (model prog w) hp (isInstance (.ref x) (.type "list")) true := I.type.andThen (looks_mroIn X (mro3_in hm).1)
  have hb := F.slot_list_getattribute.bind (.ref x)
  unfold getAttr getAttrBy
  refine wpAny_bind (wpAny_mkText (wpAny_holding (wpAny_bind (L0.at (wpAny_bind (L1.at ?_))))))
  dsimp only
  rw [if_neg (show ¬ (onTheHeap (.ref C) && Value.builtin "list.__getattribute__" == Value.builtin "object.__getattribute__") = true from by
    rw [show (Value.builtin "list.__getattribute__" == Value.builtin "object.__getattribute__") = false from by decide, Bool.and_false]; decide)]
  unfold getAttrByItsOwn hookBefore callGetattribute boundAndCalled
  refine wpAny_bind ?_
  rw [show onTheHeap (.ref C) = true from rfl, if_pos rfl]
  refine L2.at ?_
  refine wpAny_bind (wpAny_attempt (wpAny_holding ?_))
  rw [show (expr && onTheHeap (.builtin "list.__getattribute__")) = false from by cases expr <;> rfl, if_neg (by decide), hb]
  refine wpAny_bind (wpAny_pure ?_)
  refine sub_call (.inr (by decide +kernel)) (by decide +kernel : splitId "list.__getattribute__" = some ("list", "__getattribute__")) (by decide +kernel) F.entry_list_ga hsub (by unfold argsOk; kernel_rfl) ?_
  unfold Builtin.«object.__getattribute__»
  repeat lk
  refine ⟨_, rfl, ?_⟩
  rw [handedOut_of hh]
  exact wpAny_pure (h _ (by show t ≤ _; k_extra "li"))
end
end
section
open Builtin Builtin.ObjectAttr Builtin.List
noncomputable def SeqAt (h : Heap) (l : Addr) (its : Array Value) : Prop := ∃ o n, h.get? l = some o ∧ o.data = .seq its n
theorem SeqAt.extBut {h h' : Heap} {a b : Addr} {its : Array Value} (x : SeqAt h a its) (hs : Heap.ExtBut b h h') (hab : a ≠ b) : SeqAt h' a its :=
  let ⟨o, n, ho, r⟩ := x; ⟨o, n, hs a o hab ho, r⟩
theorem SeqAt.at {h h' : Heap} {a : Addr} {its : Array Value} (x : SeqAt h a its) (k : ∀ o, h.get? a = some o → h'.get? a = some o) : SeqAt h' a its :=
  let ⟨o, n, ho, r⟩ := x; ⟨o, n, k o ho, r⟩
section
variable {prog : Program} {w : World} {A : Around} {E : Value → Shared → Prop} {s : Shared}
theorem next_item {it l : Addr} {i : Nat} {items : Array Value} {x : Value} {Q : Option Value → Shared → Prop} (hit : s.heap.IsListIter it l i) (hl : SeqAt s.heap l items) (hx : items[i]? = some x)
    (hQ : ∀ h', h'.IsListIter it l (i + 1) → Heap.SameBut it s.heap h' → Q (some x) { s with heap := h' }) : wpAny (model prog w) A (pyNext (.ref it)) Q E s := by
  have hx9 := id hit
  first | (k_extra "xe4"; clear hx9; intro o ho hc hd) | obtain ⟨o, ho, hc, hd⟩ := hx9
  first | (revert hl; intro hx9; k_extra "xe4"; clear hx9; intro ol nl hol hdl) | obtain ⟨ol, nl, hol, hdl⟩ := hl
  unfold pyNext
  refine wpAny_bind (wpAny_attempt (wpAny_callSpecial?_slot (name := Str.ofString "__next__") hit.typeIs slot_listiter_next
    (wpAny_call_entry slot_listiter_next hit.typeIs entry_listiter_next ?_ (args_listiter_next _))))
  show wpAny _ _ (field (.ref it) 0 >>= _) _ _ s
  refine wpAny_bind (wpAny_field ho hd (x := .ref l) rfl ?_)
  show wpAny _ _ (if (Value.ref l == Value.none) = true then _ else _) _ _ s
  rw [if_neg (show ¬ ((Value.ref l == Value.none) = true) from Bool.false_ne_true)]
  show wpAny _ _ (field (.ref it) 1 >>= _) _ _ s
  refine wpAny_bind (wpAny_field ho hd (x := .int i 0) rfl ?_)
  show wpAny _ _ (seqItems? (.ref l) >>= _) _ _ s
  refine wpAny_bind (wpAny_seqItems hol hdl ?_)
  simp only [Int.toNat_natCast, hx]
  refine wpAny_bind (wpAny_setField ho hd (by simp) (wpAny_pure ⟨x, rfl, wpAny_pure (hQ _ ?_ (Heap.SameBut.update ..))⟩))
  exact ⟨_, Heap.get?_update_self _ ho (Obj.isFreed_of_fields (Obj.data_mapFields hd _)), (Obj.cls_mapFields ..).trans hc, by
    rw [Obj.data_mapFields hd]; simp [rawInt]⟩
theorem next_end {it l : Addr} {i : Nat} {items : Array Value} {Q : Option Value → Shared → Prop} (hh : A.handled = none) (hit : s.heap.IsListIter it l i) (hl : SeqAt s.heap l items) (hx : items[i]? = none)
    (hQ : ∀ h', Heap.ExtBut it s.heap h' → Q none { s with heap := h' }) : wpAny (model prog w) A (pyNext (.ref it)) Q E s := by
  have hx9 := id hit
  first | (k_extra "xe4"; clear hx9; intro o ho hc hd) | obtain ⟨o, ho, hc, hd⟩ := hx9
  first | (revert hl; intro hx9; k_extra "xe4"; clear hx9; intro ol nl hol hdl) | obtain ⟨ol, nl, hol, hdl⟩ := hl
  unfold pyNext
  refine wpAny_bind (wpAny_attempt (wpAny_callSpecial?_slot (name := Str.ofString "__next__") hit.typeIs slot_listiter_next
    (wpAny_call_entry slot_listiter_next hit.typeIs entry_listiter_next ?_ (args_listiter_next _))))
  show wpAny _ _ (field (.ref it) 0 >>= _) _ _ s
  refine wpAny_bind (wpAny_field ho hd (x := .ref l) rfl ?_)
  show wpAny _ _ (if (Value.ref l == Value.none) = true then _ else _) _ _ s
  rw [if_neg (show ¬ ((Value.ref l == Value.none) = true) from Bool.false_ne_true)]
  show wpAny _ _ (field (.ref it) 1 >>= _) _ _ s
  refine wpAny_bind (wpAny_field ho hd (x := .int i 0) rfl ?_)
  show wpAny _ _ (seqItems? (.ref l) >>= _) _ _ s
  refine wpAny_bind (wpAny_seqItems hol hdl ?_)
  simp only [Int.toNat_natCast, hx]
  refine wpAny_bind (wpAny_rule (wpAny_bind (wpAny_setField ho hd (by simp) ?_)))
  show wpAny _ _ (newExc (.type "StopIteration") [] >>= _) _ _ _
  refine wpAny_bind ?_
  simp only [newExc, newTuple]
  refine wpAny_bind (wpAny_newObj_type ?_ (by size_fits))
  refine wpAny_bind (m := firstArgMember _ _) (wpAny_of_eq (a := Value.none) (by first | rfl | (simp only [firstArgMember]; rfl)) ?_)
  refine wpAny_newObj_type ?_ (by size_fits)
  simp only [raiseNew]
  refine wpAny_bind (wpAny_handled ?_)
  rw [show A.in1.handled = none from hh]
  refine wpAny_bind (wpAny_pure (wpAny_throw ?_))
  refine wpAny_bind (wpAny_isInstance (T := "StopIteration") (b := true) ⟨_, Heap.get?_push_size _ rfl, rfl⟩ isSubtype_stop ?_)
  exact wpAny_pure (hQ _ (((Heap.SameBut.update ..).extBut.push _).push _))
end
theorem walksTup {prog : Program} {w : World} {A : Around} (hh : A.handled = none) (I ax : Addr) (hne : ax ≠ I) (items : Array Value) (Ts : Nat → Addr) (vals : Nat → Array Value)
    (hit : ∀ j, j < items.size → items[j]? = some (.ref (Ts j))) (hTI : ∀ j, j < items.size → Ts j ≠ I) :
    WalksU prog w A I (I :: ax :: (List.range items.size).map Ts) [I] items.size (fun j v => v = vals j)
      (fun j h => h.IsListIter I ax j ∧ SeqAt h ax items ∧ ∀ k, k < items.size → h.IsTuple (Ts k) (vals k))
      (fun j T h => (j < items.size ∧ T = Ts j) ∧ h.IsListIter I ax (j + 1) ∧ SeqAt h ax items ∧ ∀ k, k < items.size → h.IsTuple (Ts k) (vals k)) where
  sub := fun b hb => by simp at hb; simp [hb]
  frame := fun _ _ _ st hk => ⟨st.1.at fun o e => hk I (by simp) o e, st.2.1.at fun o e => hk ax (by simp) o e,
    fun k hk' => (st.2.2 k hk').at fun o e => hk (Ts k) (List.mem_cons_of_mem _ (List.mem_cons_of_mem _ (List.mem_map.mpr ⟨k, List.mem_range.mpr hk', rfl⟩))) o e⟩
  item := fun i s Q E hi st hQ => by
    refine next_item st.1 st.2.1 (x := .ref (Ts i)) (hit i hi) fun h' hit' hs' => ?_
    have tup : ∀ k, k < items.size → h'.IsTuple (Ts k) (vals k) := fun k hk' => (st.2.2 k hk').extBut hs'.extBut (hTI k hk')
    exact hQ (Ts i) (vals i) h' s.toks rfl (tup i hi) ⟨⟨hi, rfl⟩, hit', st.2.1.extBut hs'.extBut hne, tup⟩ fun b o hb e => hs'.extBut b o (fun h => hb (by simp [h])) e
  go := fun _ _ _ _ _ s Q _ hm hQ => wpAny_letOwnedTupleGo_listiter hm.2.1 (hQ s.heap hm.2 fun _ _ _ e => e)
  apart := fun j T _ hm hmem => by
    rcases List.mem_cons.mp hmem with e | e
    · exact hTI j hm.1.1 (hm.1.2 ▸ e)
    · cases e
  done := fun s Q E st hQ => next_end hh st.1 st.2.1 (by simp) fun h' he' => hQ h' s.toks fun b o hb e => he' b o (fun h => hb (by simp [h])) e
  self := fun _ _ _ _ st hQ => wpAny_pyIter_listiter st.1 hQ
section
variable {prog : Program} {w : World} {A : Around} {E : Value → Shared → Prop} {K : Frag} {x C dx : Addr} {its : List Value} {n : Nat} {h : Heap} {g : Array GenState} {d : Drawn} {t : Nat} {os : OsState} {Q : Value → Shared → Prop}
theorem pyIter_L {od : Option Obj} (X : K.In h) (I : InstAt h x (lstObj C dx its.toArray n) C od) (hs : findIn K (.ref C) "__iter__" = some (some (.builtin "list.__iter__"))) (hC : mroIn K C (.type "list") = some true)
    (hq : Q (.ref h.objs.size) ⟨h.push { cls := .type "list_iterator", data := .fields #[.ref x, .int 0 0] }, g, d, t, os⟩) :
    wpAny (model prog w) A (pyIter (.ref x)) Q E ⟨h, g, d, t, os⟩ := by
  have L0 := I.type (M := model prog w)
  have L1 := looks_findIn (M := model prog w) X hs
  unfold pyIter
  refine wpAny_bind (wpAny_bind (L0.at (L1.at ?_)))
  dsimp only
  unfold callSpecialIfBoundUnlessNone?
  refine wpAny_bind (wpAny_holding (wpAny_bind ?_))
  unfold bindSpecialIfBound?
  refine wpAny_bind (wpAny_bind (L0.at (L1.at ?_)))
  have L2 : Looks (model prog w) h (bindSpecial (.builtin "list.__iter__") (.ref x)) (.builtin "list.__iter__", [.ref x]) := Looks.of_pure (slot_list_iter.bind _)
  have hx := I.at_
  have hi : (h.push { cls := .type "list_iterator", data := .fields #[.ref x, .int 0 0] }).get? h.objs.size = some { cls := .type "list_iterator", data := .fields #[.ref x, .int 0 0] } := Heap.get?_push_at rfl rfl
  have L3 : Looks (model prog w) (h.push { cls := .type "list_iterator", data := .fields #[.ref x, .int 0 0] }) (typeOf (.ref h.objs.size)) (.type "list_iterator") := (Looks.ld hi).andThen .now
  have L4 : Looks (model prog w) (h.push { cls := .type "list_iterator", data := .fields #[.ref x, .int 0 0] }) (typeLookup (.type "list_iterator") "__next__") (some (.builtin "list_iterator.__next__")) := Looks.of_pure slot_listiter_next.lookup
  repeat lk
  split
  · refine wpAny_bind (L2.at (wpAny_pure ?_))
    dsimp only
    repeat (first | (with_reducible refine iter_L X hx hC ?_) | lk)
    exact hq
  · refine wpAny_tryCatch (wpAny_bind (L2.at (wpAny_pure ?_)))
    repeat (first | (with_reducible refine iter_L X hx hC ?_) | lk)
    exact hq
end
end
section
section
variable {prog : Program} {w : World} {A : Around} {E : Value → Shared → Prop} {s : Shared}
theorem genexprCode_hit {M : Model} {env : Env} {c P : Addr} {ps : Array Value} {pos : Pos} {qualname : Str} {scope : Scope} {cv : Value} {Q : Value → Shared → Prop} (hc : env.code = .ref c) (hok : s.heap.IsCode c P ps) (hf : codeAmong pos ps.toList = some cv) (h : Q cv s) :
    wpAny M A (genexprCode env pos qualname scope) Q E s := by
  obtain ⟨o, vs, file, tf, flags, tg, inF, text, tt, op, ho, hd, h11, h2, h7, h9, h10, hop, hpd, htr, hne⟩ := id hok
  unfold genexprCode codeAt
  rw [hc, if_neg (show ¬ ((Value.ref c == Value.none) = true) from Bool.false_ne_true)]
  refine wpAny_bind (wpAny_fieldsOf ho hd ?_)
  rw [h11]
  refine wpAny_bind (wpAny_fieldsOf hop hpd ?_)
  rw [hf]
  exact wpAny_pure h
variable {h₀ : Heap} {L x dx c P : Addr} {m mg mb : Str → Option Value} {K : Frag} {p : Program} {loose : List Str} {mean : ExcName → Option Value} {news : List (Addr × Obj)} {its : List Value} {n : Nat} {od : Obj} {ps : Array Value}
theorem genx {C : Addr} {env : Env} {elt iter : Expr} {xa xb : Str} {pa pb pt : Pos} {kt : Nat} {scope : Scope} {cl : List (Str × Addr)} {pos : Pos} {Q : Value → Shared → Prop} {Ts : Nat → Addr} {va vb : Nat → Value} {Fv : Nat → Value → Prop}
    (hh : A.handled = none) (F : Fr h₀ L s.heap m) (X₀ : K.In h₀) (N : News h₀ L s.heap news) (T : Top p loose mean mg mb h₀) (G : AllBare s.gens)
    (hC : CodeHd h₀ c P) (hcode : env.code = .ref c) (hP : (P, tabObj ps) ∈ news) (htr : TriplesOk ps.toList)
    (hx : (x, lstObj C dx its.toArray n) ∈ news) (hdx : (dx, od) ∈ news) (hit : ∀ i, i < its.length → its[i]? = some (.ref (Ts i)) ∧ (Ts i, ({ cls := .type "tuple", data := .seq #[va i, vb i] } : Obj)) ∈ news)
    (his : findIn K (.ref C) "__iter__" = some (some (.builtin "list.__iter__"))) (hm3 : mroIn K C (.type "list") = some true)
    (hgl : env.globals = mainGlobals)
    (hco : scope.isCoroutine = false) (hclos : closureFor scope env = pure cl) (hcell : ∀ y ∈ scope.names, y.2 ≠ .cell) (h0 : scope.names.lookup (".0" : Str) = some NameKind.local)
    (hxa : scope.names.lookup xa = some .local) (hxb : scope.names.lookup xb = some .local) (hab : xa ≠ xb) (hkind : scope.kind = .function) (hroom : A.depth < recursionLimit) (hs : ∀ x, genFold iter env x = pure x)
    (hiter : ∀ Q', Q' (.ref x) s → wpAny (model prog w) A (eval iter env) Q' E s)
    (hel : ∀ (C' : Addr) (code : Value) (A' : Around) E' i (t : Shared) m₂, A'.handled = none → A'.depth ≤ A.depth + 1 → A'.units ≤ A.units + 8 → i < its.length → Fr h₀ C' t.heap m₂ → m₂ xa = some (va i) → m₂ xb = some (vb i) →
      wpAny (model prog w) A' (eval elt (genEnv scope cl C' code builtinsNs env)) (fun y s₃ => Fv i y ∧ Keeps t s₃) E' t)
    (h : ∀ (s₅ : Shared) (a Kb : Addr) (ps' : Array Value), Fr h₀ L s₅.heap m → (∀ news', Upd P (tabObj ps) (tabObj ps') news news' → News h₀ L s₅.heap news') → TriplesOk ps'.toList → AllBare s₅.gens → s₅.os = s.os → s₅.drawn = s.drawn →
      s.heap.objs.size = Kb + 1 → Gen prog w A Kb a its.length Fv s₅ → Q (.ref a) s₅) :
    wpAny (model prog w) A (eval (.GeneratorExp elt [⟨.Tuple [.Name xa pa, .Name xb pb] kt pt, iter, [], 0⟩] scope pos) env) Q E s := by
  have X := X₀.keeps F.keep
  have I : InstAt s.heap x (lstObj C dx its.toArray n) C (some od) := ⟨(N _ hx).1, rfl, rfl, (N _ hdx).1⟩
  have hNL : s.heap.NoLimit := T.nolimit.keeps F.keep
  have hCs := hC.keeps F.keep
  have hPs := (N _ hP).1
  have hP0 := (N _ hP).2.2
  have hPL := (N _ hP).2.1
  refine wpAny_GeneratorExp_walksQTD hh hco hclos hcell h0 hxa hxb hab hkind hroom (hiter _ ?_) hs
  first | (revert s; intro hx9; k_extra "xe5"; clear hx9; intro hp g d t os) | obtain ⟨hp, g, d, t, os⟩ := s
  dsimp only at *
  refine pyIter_L X I his hm3 ?_
  have hpush : ∀ b o, hp.get? b = some o → (hp.push { cls := .type "list_iterator", data := .fields #[.ref x, .int 0 0] }).get? b = some o := fun b o e => Heap.get?_push_of_some _ e
  have hI : (hp.push { cls := .type "list_iterator", data := .fields #[.ref x, .int 0 0] }).get? hp.objs.size = some { cls := .type "list_iterator", data := .fields #[.ref x, .int 0 0] } := Heap.get?_push_at rfl rfl
  have hIsz : (hp.push { cls := .type "list_iterator", data := .fields #[.ref x, .int 0 0] }).objs.size = hp.objs.size + 1 := Heap.size_push ..
  generalize hh2 : hp.push { cls := .type "list_iterator", data := .fields #[.ref x, .int 0 0] } = h₂ at *
  have hL : L < hp.objs.size := F.ns.lt
  have hPlt : P < hp.objs.size := Heap.lt_size hPs
  have hxP : x ≠ P := fun e => by have := (N _ hx).1; rw [e, hPs] at this; cases this
  have hTP : ∀ i, i < its.length → Ts i ≠ P := fun i hi e => by have := (N _ (hit i hi).2).1; rw [e, hPs] at this; cases this
  have h0P : ∀ b o, h₀.get? b = some o → b ≠ P := fun b o e q => by rw [q, hP0] at e; cases e
  have hcsP : cStatics ≠ P := by
    have hx9 := T.nolimit
    first | (k_extra "xe3"; clear hx9; intro mc hx9; (first | (k_extra "xq5"; clear hx9; intro o es ep ho _) | obtain ⟨o, es, ep, ho, _⟩ := hx9); intro _) | obtain ⟨mc, ⟨o, es, ep, ho, _⟩, _⟩ := hx9
    exact h0P _ _ ho
  have hcslt : cStatics < hp.objs.size := let ⟨_, hn, _⟩ := hNL; hn.lt
  have hsz : its.toArray.size = its.length := List.size_toArray
  refine ⟨hNL.keeps hpush, ?_⟩
  have body : ∀ (h₃ : Heap) (tk₃ : Nat) (code : Value) (ps' : Array Value), Heap.ExtBut P h₂ h₃ → h₂.objs.size ≤ h₃.objs.size → h₃.get? P = some (tabObj ps') → TriplesOk ps'.toList →
      wpAny (model prog w) A (builtinsFor env.globals env.builtins) (fun bi s₄ =>
        ∃ I fp wr n₀ Pt St₀ Mid pz F, (Value.ref hp.objs.size) = .ref I ∧ (∀ A' : Around, A'.handled = none → WalksU prog w A' I fp wr n₀ Pt St₀ Mid) ∧ (∀ i vals, Pt i vals → ∃ va vb, vals = #[va, vb]) ∧ St₀ 0 s₄.heap ∧ (∀ b ∈ fp, b < s₄.heap.objs.size) ∧ s₄.heap.NoLimit ∧ cStatics ∉ wr ∧
          (∀ href : Heap, (∀ b o, s₄.heap.get? b = some o → href.get? b = some o) →
            QuietGenTD prog w (genEnv scope cl s₄.heap.objs.size code bi env) xa xb [] elt (List.range s₄.heap.objs.size) wr Pt pz F href (A.depth + 1) (A.units + 8)) ∧
          (∀ a h₅ tk gs, gs.bare = true → s₄.heap.objs.size < a → h₅.objs.size = a + 1 → (∀ b o, s₄.heap.get? b = some o → h₅.get? b = some o) →
            WalksS prog w A.in4 a (a :: s₄.heap.objs.size :: List.range s₄.heap.objs.size) (s₄.heap.objs.size :: wr) (GenOnlyQ s₄.gens.size) (passing pz n₀ 0).length
              (fun j y => ∃ i, (passing pz n₀ 0)[j]? = some i ∧ F i y) (GenAt prog w A.in4 a s₄.gens.size s₄.heap.objs.size (List.range s₄.heap.objs.size) wr pz n₀ F) →
            GenAt prog w A.in4 a s₄.gens.size s₄.heap.objs.size (List.range s₄.heap.objs.size) wr pz n₀ F 0 { s₄ with gens := s₄.gens.push gs, toks := tk, heap := h₅ } →
            Q (.ref a) { s₄ with gens := s₄.gens.push gs, toks := tk, heap := h₅ })) E ⟨h₃, g, d, tk₃, os⟩ := by
    intro h₃ tk₃ code ps' hx₃ hge hP3 htr3
    have keepP : ∀ b o, b ≠ P → hp.get? b = some o → h₃.get? b = some o := fun b o hb e => hx₃ b o hb (hpush b o e)
    have keep03 : ∀ b o, h₀.get? b = some o → h₃.get? b = some o := fun b o e => keepP b o (h0P b o e) (F.keep b o e)
    have hIP : hp.objs.size ≠ P := Nat.ne_of_gt hPlt
    have hI3 := hx₃ _ _ hIP hI
    have hx3 := keepP _ _ hxP (N _ hx).1
    have hT3 : ∀ i, i < its.length → h₃.get? (Ts i) = some { cls := .type "tuple", data := .seq #[va i, vb i] } := fun i hi => keepP _ _ (hTP i hi) (N _ (hit i hi).2).1
    have hNL3 : h₃.NoLimit := T.nolimit.keeps keep03
    have hx9 := T.bmain
    first | (k_extra "xe8"; clear hx9; intro bm ob b1 b2 b3 b4 b5 b6) | obtain ⟨bm, ob, b1, b2, b3, b4, b5, b6⟩ := hx9
    rw [hgl]
    refine wpAny_builtinsFor (T.g.keeps keep03) b1 b2 (keep03 _ _ b3) b4 b5 b6 ?_
    have hlt : hp.objs.size < h₃.objs.size := Nat.lt_of_lt_of_le (by rw [hIsz]; exact Nat.lt_succ_self _) hge
    have W0 := fun (A' : Around) (hA : A'.handled = none) => (walksTup (prog := prog) (w := w) hA hp.objs.size x (Nat.ne_of_lt (Heap.lt_size (N _ hx).1)) its.toArray Ts (fun i => #[va i, vb i]) (fun j hj => by rw [hsz] at hj; simpa using (hit j hj).1) (fun j hj => by rw [hsz] at hj; exact Nat.ne_of_lt (Heap.lt_size (N _ (hit j hj).2).1))).bound
    refine ⟨_, _, _, _, _, _, _, (fun _ => true), Fv, rfl, W0, fun i vals e => ⟨_, _, e.2⟩, ?_, ?_, hNL3, ?_, ?_, ?_⟩
    · exact ⟨⟨_, hI3, rfl, rfl⟩, ⟨_, _, hx3, rfl⟩, fun k hk => by rw [hsz] at hk; exact ⟨_, hT3 k hk, rfl, _, rfl⟩⟩
    · intro b hb
      rcases List.mem_cons.mp hb with rfl | hb
      · exact hlt
      · rcases List.mem_cons.mp hb with rfl | hb
        · exact Heap.lt_size hx3
        · have hx9 := List.mem_map.mp hb
          first | (k_extra "xe3"; clear hx9; intro i hi eq9; subst eq9) | obtain ⟨i, hi, rfl⟩ := hx9
          have hi' := List.mem_range.mp hi
          rw [hsz] at hi'
          exact Heap.lt_size (hT3 i hi')
    · intro hm
      rw [List.mem_singleton] at hm
      exact absurd hcslt (by rw [hm]; exact Nat.lt_irrefl _)
    · intro href hhref
      refine ⟨fun A' E' i va' vb' s₂ m₂ hA hD hU hP' hn hma hmb hkp => wpAny_pure ⟨rfl, _, _, rfl, fun _ _ e => e⟩, fun A' E' i va' vb' s₂ m₂ hA hD hU hP' hpz hn hma hmb hkp => ?_⟩
      first | (revert hP'; intro hx9; k_extra "xe2"; clear hx9; intro hi hv) | obtain ⟨hi, hv⟩ := hP'
      rw [hsz] at hi
      obtain ⟨e1, e2⟩ : va' = va i ∧ vb' = vb i := by simpa using congrArg Array.toList hv
      subst e1 e2
      refine hel _ _ A' E' i s₂ m₂ hA hD hU hi ⟨hn, fun b o e => ?_, ?_⟩ hma hmb
      · have hb : b < hp.objs.size := Heap.lt_size (F.keep b o e)
        refine hkp b (List.mem_range.mpr (Nat.lt_trans hb hlt)) (fun hm => ?_) o (hhref b o (keep03 b o e))
        rw [List.mem_singleton] at hm
        exact absurd hb (by rw [hm]; exact Nat.lt_irrefl _)
      · exact Nat.le_trans F.above (Nat.le_of_lt (Nat.lt_trans hL hlt))
    · intro a h₅ tk gs hgb hag hsz₅ hk₅ W hat
      obtain ⟨Kb, hKb⟩ : ∃ Kb, hp.objs.size = Kb + 1 := ⟨hp.objs.size - 1, (Nat.succ_pred_eq_of_pos (Nat.lt_of_le_of_lt (Nat.zero_le _) hL)).symm⟩
      have hpass : passing (fun _ => true) its.toArray.size 0 = List.range its.length := by simp [passing]
      have keep5 : ∀ b o, b ≠ P → hp.get? b = some o → h₅.get? b = some o := fun b o hb e => hk₅ b o (keepP b o hb e)
      refine h _ a Kb ps' ⟨?_, fun b o e => keep5 b o (h0P b o e) (F.keep b o e), F.above⟩ (fun news' U q hq => ?_) htr3 (G.push hgb) rfl rfl hKb ?_
      · have hx9 := F.ns
        first | (k_extra "xe5"; clear hx9; intro oL es ep e1 e2) | obtain ⟨oL, es, ep, e1, e2⟩ := hx9
        exact ⟨oL, es, ep, keep5 _ _ (fun e => hPL e.symm) e1, e2⟩
      · have hx9 := U.split
        first | (k_extra "xe6"; clear hx9; intro pre post e1 e2 n1 n2) | obtain ⟨pre, post, e1, e2, n1, n2⟩ := hx9
        subst e1 e2
        rcases List.mem_append.mp hq with hq | hq
        · have z := N q (List.mem_append.mpr (.inl hq))
          exact ⟨keep5 _ _ (n1 q hq) z.1, z.2⟩
        · rcases List.mem_cons.mp hq with rfl | hq
          · exact ⟨hk₅ _ _ hP3, hPL, hP0⟩
          · have z := N q (List.mem_append.mpr (.inr (.tail _ hq)))
            exact ⟨keep5 _ _ (n2 q hq) z.1, z.2⟩
      · have X5 : Gen prog w A Kb a (passing (fun _ => true) its.toArray.size 0).length (fun j y => ∃ i, (passing (fun _ => true) its.toArray.size 0)[j]? = some i ∧ Fv i y) ⟨h₅, g.push gs, d, tk, os⟩ := by
          refine ⟨_, _, _, _, W, hat, (fun i s' st => st.1.typeIs), List.mem_cons_self, ?_, ?_⟩
          · intro b hb
            show b < h₅.objs.size
            rw [hsz₅]
            rcases List.mem_cons.mp hb with rfl | hb
            · exact Nat.lt_succ_self _
            · rcases List.mem_cons.mp hb with rfl | hb
              · exact Nat.lt_succ_of_lt hag
              · exact Nat.lt_succ_of_lt (Nat.lt_trans (List.mem_range.mp hb) hag)
          · intro b hb
            rcases List.mem_cons.mp hb with rfl | hb
            · exact Nat.lt_trans (by rw [hKb]; exact Nat.lt_succ_self _) hlt
            · rw [List.mem_singleton.mp hb, hKb]; exact Nat.lt_succ_self _
        rw [hpass, List.length_range] at X5
        refine X5.imp fun j y hy => ?_
        first | (revert hy; intro hx9; k_extra "xe3"; clear hx9; intro i hij hF) | obtain ⟨i, hij, hF⟩ := hy
        have hx9 := List.getElem?_eq_some_iff.mp hij
        first | (k_extra "xe2"; clear hx9; intro hj e) | obtain ⟨hj, e⟩ := hx9
        simp at e
        rw [e]
        exact hF
  have hC2 := hCs.keeps hpush
  have hP2 := hpush _ _ hPs
  cases hf : codeAmong pos ps.toList with
  | some cv => exact genexprCode_hit hcode (hC2.code hP2 htr) hf (body h₂ t cv ps (fun b o _ e => e) (Nat.le_refl _) hP2 htr)
  | none =>
    refine wpAny_genexprCodeX hcode (hC2.code hP2 htr) (hC2.tab hP2) hf fun c' h₃ tk₃ hx₃ hge hlt hcode₃ _ htab₃ _ => ?_
    obtain ⟨_, _, _, _, _, _, _, _, _, _, _, _, _, _, _, _, _, _, _, htr3, _⟩ := hcode₃
    exact body h₃ tk₃ (.ref c') _ hx₃ (Nat.le_trans hge (Nat.le_of_lt hlt)) htab₃.2 htr3
end
end
section
theorem args_sum2 (a b : Value) : argsOk "sum" ⟨[a, b], []⟩ := by unfold argsOk; kernel_rfl
section
variable {prog : Program} {w : World} {A : Around} {E : Value → Shared → Prop} {s : Shared}
theorem shiftS {I : Addr} {fp wr : List Addr} {G : Array GenState → Array GenState → Prop} {n : Nat} {P : Nat → Value → Prop} {St : Nat → Shared → Prop} (W : WalksS prog w A I fp wr G n P St) :
    WalksS prog w A I fp wr G (n + 1) (fun i v => match i with | 0 => False | i + 1 => P i v) (fun i s => match i with | 0 => False | i + 1 => St i s) where
  sub := W.sub
  grefl := W.grefl
  gtrans := W.gtrans
  frame := fun i s h' tk st ht hk => by cases i with | zero => exact st | succ i => exact W.frame i s h' tk st ht hk
  item := fun i s Q E hi st hQ => by cases i with | zero => exact st.elim | succ i => exact W.item i s Q E (Nat.lt_of_succ_lt_succ hi) st fun v s' hP hst hm => hQ v s' hP hst hm
  done := fun s Q E st hQ => W.done s Q E st hQ
  self := fun i s Q E st hQ => by cases i with | zero => exact st.elim | succ i => exact W.self i s Q E st hQ
noncomputable def shVal (z : Int) (val : Nat → Int) : Nat → Int
  | 0 => z
  | i + 1 => val i
theorem preSum_sh (z : Int) (val : Nat → Int) : ∀ n, preSum (shVal z val) (n + 1) = z + preSum val n
  | 0 => by simp [preSum, shVal]
  | n + 1 => by rw [preSum, preSum_sh z val n, preSum]; simp [shVal]; k_extra "li"
theorem call_sum2 {x : Value} {z : Int} {tz : Tok} {Q : Value → Shared → Prop}
    (h : wpAny (model prog w) A.in1 (pyIter x) (fun it s₂ => ∃ I fp wr G n P St val, it = .ref I ∧ WalksS prog w A.in1 I fp wr G n P St ∧ St 0 s₂ ∧ (∀ b ∈ fp, b < s₂.heap.objs.size) ∧
      (∀ i v, P i v → ∃ t, v = .int (val i) t) ∧
      ∀ s' t', Moved wr G s₂ s' → Q (.int (z + preSum val n) t') s') E s) :
    wpAny (model prog w) A (call (.builtin "sum") [x, .int z tz]) Q E s := by
  refine call_function_tree F.kind_sum F.plain_sum F.entry_sum (args_sum2 _ _) ?_
  unfold Builtin.«sum»
  simp only [List.length_cons, List.length_nil]
  rw [if_neg (by decide)]
  refine wpAny_bind (wpAny_of_eq (show Builtin.Builtins.bindParams "sum" ["start"] 0 { pos := [.int z tz] } = pure [some (.int z tz)] from rfl) ?_)
  refine wpAny_bind (wpAny_mono h (fun it s₂ h₂ => ?_) fun _ _ e => e)
  first | (revert h₂; intro hx9; k_extra "xe14"; clear hx9; intro I fp wr G n P St val eq9; subst eq9; intro W hst hfp hval hQ) | obtain ⟨I, fp, wr, G, n, P, St, val, rfl, W, hst, hfp, hval, hQ⟩ := h₂
  have rest : ∀ (tA : Tok) (stg : Int) (tk : Nat), (stg = 0 ∨ stg = 2) → s₂.toks ≤ tk → wpAny (model prog w) A.in1 (do
      for (ty, what, hint) in [("str", "strings", "''"), ("bytes", "bytes", "b''"), ("bytearray", "bytearray", "b''")] do
        if ← isInstance (.int z tA) (.type ty) then
          rule "sum.start-refused"; raiseError "TypeError" s!"sum() can't sum {what} [use {hint}.join(seq) instead]"
      again (.builtin "sum.loop" ⟨[.ref I, ← newList [.int z tA], rawInt stg, rawInt 0], []⟩))
      (fun fin s' => match fin with
      | .done f => (match (Except.ok f : Result) with | .ok (.ret v) => Q v s' | .ok _ => False | .error e => E e s')
      | .again c' => c'.quiet = true ∧ codeAny (model prog w) A c' (fun r s' => match r with | .ok (.ret v) => Q v s' | .ok _ => False | .error e => E e s') s') E { s₂ with toks := tk } := by
    intro tA stg tk hstg htk
    simp only [List.forIn_cons, List.forIn_nil]
    refine wpAny_bind (wpAny_bind (wpAny_bind (wpAny_isInstance (T := "int") (b := false) (typeIs_int _ _ _) PySem.sub_int_str ?_)))
    simp only [Bool.false_eq_true, if_false]
    refine wpAny_pure (wpAny_bind (wpAny_bind (wpAny_isInstance (T := "int") (b := false) (typeIs_int _ _ _) PySem.sub_int_bytes ?_)))
    simp only [Bool.false_eq_true, if_false]
    refine wpAny_pure (wpAny_bind (wpAny_bind (wpAny_isInstance (T := "int") (b := false) (typeIs_int _ _ _) PySem.sub_int_bytearray ?_)))
    simp only [Bool.false_eq_true, if_false]
    refine wpAny_pure (wpAny_pure ?_)
    refine wpAny_bind (wpAny_newObj_type ?_)
    have hSf : s₂.heap.objs.size ∉ fp := fun hm => Nat.lt_irrefl _ (hfp _ hm)
    refine wpAny_pure ⟨plainId_quiet F.plain_sum_loop _, codeAny_sum_loopAnyS (shiftS W) (shVal z val) (fun i v hv => by
        cases i with
        | zero => exact hv.elim
        | succ i => exact hval i v hv) s₂.heap.objs.size hSf n 1 _ tA 0 stg hstg rfl (Nat.succ_le_succ (Nat.zero_le _))
      (W.frame 0 s₂ _ _ hst htk fun b _ o e => Heap.get?_push_of_some _ e) (by
        rw [show preSum (shVal z val) 1 = z from by simp [preSum, shVal]]
        exact Heap.get?_push_size _ rfl) fun s' t' hm => ?_⟩
    rw [preSum_sh]
    exact hQ s' t' (hm.drop_new htk)
  dsimp only
  split
  · refine wpAny_bind (wpAny_rule ?_)
    refine wpAny_bind (wpAny_mkInt (wpAny_bind (wpAny_pure ?_)))
    exact rest _ 0 _ (.inl rfl) (Nat.le_succ _)
  · refine wpAny_bind (wpAny_pure ?_)
    exact rest _ 2 _ (.inr rfl) (Nat.le_refl _)
variable {h₀ : Heap} {L Kb a : Addr} {m : Str → Option Value} {n : Nat} {Fv : Nat → Value → Prop}
theorem gen_toks {tk : Nat} (X : Gen prog w A Kb a n Fv s) (h : s.toks ≤ tk) : Gen prog w A Kb a n Fv { s with toks := tk } := by
  first | (revert X; intro hx9; k_extra "xe10"; clear hx9; intro fp wr g St W hst h1 h2 hfp hwr) | obtain ⟨fp, wr, g, St, W, hst, h1, h2, hfp, hwr⟩ := X
  exact ⟨fp, wr, g, St, W, W.frame 0 s _ tk hst h fun b _ o e => e, h1, h2, hfp, hwr⟩
theorem sum_gen2 {z : Int} {tz : Tok} {Q : Value → Shared → Prop} (Fh : Fr h₀ L s.heap m) (G : AllBare s.gens) (X : Gen prog w A Kb a n Fv s) (hLK : L ≤ Kb) (val : Nat → Int) (hval : ∀ j v, Fv j v → ∃ t, v = .int (val j) t)
    (hQ : ∀ s' t', Fr h₀ L s'.heap m → AllBare s'.gens → s'.os = s.os → (∀ b o, b ≤ Kb → s.heap.get? b = some o → s'.heap.get? b = some o) → Q (.int (z + preSum val n) t') s') : wpAny (model prog w) A (call (.builtin "sum") [.ref a, .int z tz]) Q E s := by
  first | (revert X; intro hx9; k_extra "xe10"; clear hx9; intro fp wr g St W hst _ _ hfp hwr) | obtain ⟨fp, wr, g, St, W, hst, _, _, hfp, hwr⟩ := X
  have W := W.in4_1
  exact call_sum2 (W.self 0 _ _ _ hst ⟨a, _, _, _, _, _, _, val, rfl, W, hst, hfp, hval, fun s' t' hm => hQ s' t' (Fh.moved hm fun b hb => Nat.lt_of_le_of_lt hLK (hwr b hb)) (G.movedS hm) hm.os fun b o hb e => hm.heap b o (fun hmem => Nat.lt_irrefl _ (Nat.lt_of_lt_of_le (hwr b hmem) hb)) e⟩)
end
end
section
theorem acc_mro (P : Params) : mro3 (K39 P) 101 = true := by kernel_rfl
theorem acc_mk (P : Params) : mklIn (K39 P) 101 = true := by kernel_rfl
theorem acc_noSeq (P : Params) : noSeq (K39 P) 101 = true := by kernel_rfl
theorem acc_ga (P : Params) : findIn (K39 P) (.ref 101) "__getattribute__" = some (some (.builtin "list.__getattribute__")) := by kernel_rfl
theorem acc_gk (P : Params) : findIn (K39 P) (.ref 101) "__getattr__" = some none := by kernel_rfl
theorem acc_has (P : Params) : hasDictIn (K39 P) 101 = true := by kernel_rfl
theorem acc_can : Manifest.canonical "list.__getattribute__" = "object.__getattribute__" := by decide +kernel
theorem acc_append (P : Params) : findIn (K39 P) (.ref 101) "append" = some (some (.builtin "list.append")) := by kernel_rfl
theorem acc_getitem (P : Params) : findIn (K39 P) (.ref 101) "__getitem__" = some (some (.builtin "list.__getitem__")) := by kernel_rfl
theorem acc_setitem (P : Params) : findIn (K39 P) (.ref 101) "__setitem__" = some (some (.builtin "list.__setitem__")) := by kernel_rfl
theorem acc_iter (P : Params) : findIn (K39 P) (.ref 101) "__iter__" = some (some (.builtin "list.__iter__")) := by kernel_rfl
theorem acc_setattr (P : Params) : findIn (K39 P) (.ref 101) "__setattr__" = some (some (.builtin "object.__setattr__")) := by kernel_rfl
theorem InstAt.of_newsL {h₀ h : Heap} {L x C dx : Addr} {news : List (Addr × Obj)} {od : Obj} {its : Array Value} {n : Nat} (N : News h₀ L h news) (h1 : (x, lstObj C dx its n) ∈ news) (h2 : (dx, od) ∈ news) :
    InstAt h x (lstObj C dx its n) C (some od) := ⟨(N _ h1).1, rfl, rfl, (N _ h2).1⟩
section
variable {prog : Program} {w : World} {A : Around} {E : Value → Shared → Prop} {s : Shared} {K : Frag} {x dx L : Addr} {h₀ : Heap} {m : Str → Option Value} {news : List (Addr × Obj)} {es : List DictEntry} {n k : Nat} {name : Str} {its : Array Value}
theorem method_acc {pl : Sem Bool} {Q : Value × List Value → Shared → Prop} {f t : Value} (F : Fr h₀ L s.heap m) (X₀ : (K39 w.params).In h₀) (N : News h₀ L s.heap news) (h1 : (x, lstObj 101 dx its k) ∈ news) (h2 : (dx, dictOf es n) ∈ news)
    (hf : findIn (K39 w.params) (.ref 101) name = some (some f)) (ht : typeIn (K39 w.params) f = some t) (ht2 : (t != .type "function" && t != .type "method_descriptor" && t != .type "wrapper_descriptor") = false) (hl : getL name es = some none) (h : Q (f, [.ref x]) s) : wpAny (model prog w) A (getMethod (.ref x) name pl) Q E s :=
  method_any (X₀.keeps F.keep) (Mine.InstAt.of_newsL N h1 h2) (acc_ga _) acc_can (acc_gk _) hf ht ht2 (by show (lookIn name (dictOf es n)).map _ = _; rw [lookIn_dict, hl]; rfl) h
theorem getval_acc {expr : Bool} {v : Value} {Q : Value → Shared → Prop} (F : Fr h₀ L s.heap m) (X₀ : (K39 w.params).In h₀) (N : News h₀ L s.heap news) (h1 : (x, lstObj 101 dx its k) ∈ news) (h2 : (dx, dictOf es n) ∈ news)
    (ha : findIn (K39 w.params) (.ref 101) name = some none) (hl : getL name es = some (some v)) (hh : handedIn v = true) (h : ∀ tk, s.toks ≤ tk → Q v { s with toks := tk }) : wpAny (model prog w) A (getAttr (.ref x) name expr) Q E s :=
  getval_L (X₀.keeps F.keep) (Mine.InstAt.of_newsL N h1 h2) (acc_ga _) (acc_gk _) (acc_mro _) (findObj_own (acc_has _) ha rfl hl) hh h
end

theorem ne_cls {h₀ h : Heap} {L x : Addr} {o : Obj} {news rest : List (Addr × Obj)} (N : News h₀ L h news) (hx : (x, o) ∈ news) (hs : ∀ p ∈ rest, p ∈ news) (hc : ∀ p ∈ rest, p.2.cls ≠ o.cls) : ∀ p ∈ rest, p.1 ≠ x := fun p hp e => by
  have h1 := (N _ hx).1
  have h2 := (N p (hs p hp)).1
  rw [e, h1] at h2
  exact hc p hp (by rw [← Option.some.inj h2])
abbrev NoAcc (x : Addr) (news : List (Addr × Obj)) : Prop := ∀ p ∈ news, p.1 ≠ x
theorem acc_ne {h₀ h : Heap} {L x dx : Addr} {od : List DictEntry} {nd n : Nat} {its : Array Value} {news : List (Addr × Obj)} (N : News h₀ L h ((x, lstObj 101 dx its n) :: (dx, dictOf od nd) :: news)) (hc : NoAcc x news) : (∀ p ∈ news, p.1 ≠ x) ∧ @Ne Nat dx x :=
  ⟨hc, ne_cls (rest := [(dx, dictOf od nd)]) N (.head _) (fun p hp => by rw [List.mem_singleton.mp hp]; exact .tail _ (.head _)) (fun p hp => by rw [List.mem_singleton.mp hp]; exact fun e => by cases e) (dx, dictOf od nd) (.head _)⟩
noncomputable def NotAcc (p : Addr × Obj) : Prop := p.2.cls ≠ .ref 101 ∨ ∀ a n, p.2.data ≠ .seq a n
theorem apart_acc {h₀ h : Heap} {L x dx : Addr} {n : Nat} {its : Array Value} {news all : List (Addr × Obj)} (N : News h₀ L h all) (hx : (x, lstObj 101 dx its n) ∈ all) (hs : ∀ p ∈ news, p ∈ all) (hc : ∀ p ∈ news, NotAcc p) : NoAcc x news := fun p hp e => by
  have h1 := (N _ hx).1
  have h2 := (N p (hs p hp)).1
  rw [e, h1] at h2
  have h3 := Option.some.inj h2
  rcases hc p hp with hc | hc
  · exact hc (by rw [← h3])
  · exact hc _ _ (by rw [← h3])
end
section
open Builtin Builtin.ObjectAttr
theorem md_slot : Slot "method_descriptor" "__get__" "method_descriptor.__get__" := .of (owner := "method_descriptor") (n := "__get__") (by rw [typeLookup_type, builtinLookup_eq_fast]; kernel_rfl) (by decide +kernel) (by decide +kernel) (by decide +kernel)
  (by first | exact .inl (by decide +kernel) | exact .inr (by decide +kernel)) (by rw [isSubtype_type]; kernel_rfl)
theorem md_entry : entryFor table "method_descriptor.__get__" = some Builtin.«method_descriptor.__get__» := entryFor_of_tree (by kernel_rfl)
theorem md_args (a b c : Value) : argsOk "method_descriptor.__get__" ⟨[a, b, c], []⟩ := by unfold argsOk; kernel_rfl
theorem wd_slot : Slot "wrapper_descriptor" "__get__" "wrapper_descriptor.__get__" := .of (owner := "wrapper_descriptor") (n := "__get__") (by rw [typeLookup_type, builtinLookup_eq_fast]; kernel_rfl) (by decide +kernel) (by decide +kernel) (by decide +kernel)
  (by first | exact .inl (by decide +kernel) | exact .inr (by decide +kernel)) (by rw [isSubtype_type]; kernel_rfl)
theorem wd_entry : entryFor table "wrapper_descriptor.__get__" = some Builtin.«wrapper_descriptor.__get__» := entryFor_of_tree (by kernel_rfl)
theorem wd_args (a b c : Value) : argsOk "wrapper_descriptor.__get__" ⟨[a, b, c], []⟩ := by unfold argsOk; kernel_rfl
section
variable {prog : Program} {w : World} {A : Around} {E : Value → Shared → Prop} {h : Heap} {g : Array GenState} {d : Drawn} {t : Nat} {os : OsState}
theorem ty_of {i T : String} (e : builtinType i = pure (.type T)) : typeOf (.builtin i) = pure (.type T) := e
theorem md_get {x C : Addr} {Q : Value → Shared → Prop} (hT : typeOf (.builtin "list.pop") = pure (.type "method_descriptor")) (hi : Looks (model prog w) h (isInstance (.ref x) (.type "list")) true)
   (hq : Q (.ref h.objs.size) ⟨h.push { cls := .type "builtin_function_or_method", data := .fields #[.builtin "list.pop", .ref x] }, g, d, t, os⟩) :
   wpAny (model prog w) A (call (.builtin "method_descriptor.__get__") [.builtin "list.pop", .ref x, .ref C]) Q E ⟨h, g, d, t, os⟩ := by
  have hTf : (⟨h, g, d, t, os⟩ : Shared).TypeIs (.builtin "list.pop") "method_descriptor" := hT
  refine wpAny_call_entry md_slot hTf md_entry ?_ (md_args _ _ _)
  have hi2 : Looks (model prog w) h (isInstance (.ref x) (.type (".".intercalate ("list.pop".cutAt '.').dropLast))) true := by
    rw [show ".".intercalate ("list.pop".cutAt '.').dropLast = "list" from by decide +kernel]; exact hi
  unfold Builtin.«method_descriptor.__get__»
  repeat lk
  exact ⟨_, rfl, hq⟩
theorem wd_get {i : String} (hown : ".".intercalate (i.cutAt '.').dropLast = "list") {x C : Addr} {Q : Value → Shared → Prop} (hT : typeOf (.builtin i) = pure (.type "wrapper_descriptor")) (hi : Looks (model prog w) h (isInstance (.ref x) (.type "list")) true)
   (hq : Q (.ref h.objs.size) ⟨h.push { cls := .type "method-wrapper", data := .fields #[.builtin i, .ref x] }, g, d, t, os⟩) :
   wpAny (model prog w) A (call (.builtin "wrapper_descriptor.__get__") [.builtin i, .ref x, .ref C]) Q E ⟨h, g, d, t, os⟩ := by
  have hTf : (⟨h, g, d, t, os⟩ : Shared).TypeIs (.builtin i) "wrapper_descriptor" := hT
  refine wpAny_call_entry wd_slot hTf wd_entry ?_ (wd_args _ _ _)
  have hi2 : Looks (model prog w) h (isInstance (.ref x) (.type (".".intercalate (i.cutAt '.').dropLast))) true := by
    rw [hown]; exact hi
  unfold Builtin.«wrapper_descriptor.__get__»
  repeat lk
  exact ⟨_, rfl, hq⟩
theorem own_len : ".".intercalate ("list.__len__".cutAt '.').dropLast = "list" := by decide +kernel
theorem own_init : ".".intercalate ("list.__init__".cutAt '.').dropLast = "list" := by decide +kernel
theorem super_ga {so D x C : Addr} {i T gid bt : String} {l₀ l : List Value} {K : Frag} {name : Str} {tk : Tok} {Q : Fin → Shared → Prop}
    (hso : h.get? so = some { cls := .type "super", dict := none, data := .fields #[.ref D, .ref x, .ref C], slots := #[] }) (hno : Looks (model prog w) h (opaqueClassAbove (.ref C)) none)
    (hC : Looks (model prog w) h (mroOf (.ref C)) l₀) (hl : (l₀.dropWhile (· != .ref D)).drop 1 = l) (X : K.In h)
    (hf : alongIn K name l = some (some (.builtin i))) (hT : typeOf (.builtin i) = pure (.type T)) (hg : typeLookup (.type T) "__get__" = pure (some (.builtin gid))) (hxC : x ≠ C) (hn : (name == ("__class__" : Str)) = false)
    (hget : ∀ A' (Q' : Value → Shared → Prop) (E' : Value → Shared → Prop), Q' (.ref h.objs.size) ⟨h.push { cls := .type bt, data := .fields #[.builtin i, .ref x] }, g, d, t, os⟩ → wpAny (model prog w) A' (call (.builtin gid) [.builtin i, .ref x, .ref C]) Q' E' ⟨h, g, d, t, os⟩)
    (hq : Q (.done (.ret (.ref h.objs.size))) ⟨h.push { cls := .type bt, data := .fields #[.builtin i, .ref x] }, g, d, t, os⟩) :
    wpAny (model prog w) A (Builtin.«super.__getattribute__» ⟨[.ref so, .str name tk], []⟩) Q E ⟨h, g, d, t, os⟩ := by
  have hne : (Value.ref x == Value.ref C) = false := by simp [hxC]
  have hTf : (⟨h, g, d, t, os⟩ : Shared).TypeIs (.builtin i) T := hT
  have hdt : ({ cls := .type "super", dict := none, data := .fields #[.ref D, .ref x, .ref C], slots := #[] } : Obj).data = .fields #[.ref D, .ref x, .ref C] := rfl
  have f0 : (#[.ref D, .ref x, .ref C] : Array Value)[0]? = some (.ref D) := rfl
  have f1 : (#[.ref D, .ref x, .ref C] : Array Value)[1]? = some (.ref x) := rfl
  have f2 : (#[.ref D, .ref x, .ref C] : Array Value)[2]? = some (.ref C) := rfl
  unfold Builtin.«super.__getattribute__»
  repeat (first
    | (with_reducible refine wpAny_field hso hdt f0 ?_) | (with_reducible refine wpAny_field hso hdt f1 ?_) | (with_reducible refine wpAny_field hso hdt f2 ?_)
    | (with_reducible refine ks_wpAny_notOpaque hno ?_)
    | (with_reducible refine Looks.at hC ?_; rw [hl])
    | (refine ks_forIn_along X (fun _ _ => rfl) rfl ?_ hf)
    | (with_reducible refine wpAny_typeOf hTf ?_)
    | (rw [hg])
    | (with_reducible refine hget _ _ _ ?_)
    | (with_reducible refine ⟨_, rfl, ?_⟩)
    | (simp only [hn, hne, Bool.or_false, Bool.false_eq_true, if_false])
    | wp_step
    | dsimp only)
  all_goals exact hq
theorem super_meth {so D x C : Addr} {i T gid bt : String} {l₀ l : List Value} {K : Frag} {name : Str} {pl : Sem Bool} {Q : Value × List Value → Shared → Prop}
    (hso : h.get? so = some { cls := .type "super", dict := none, data := .fields #[.ref D, .ref x, .ref C], slots := #[] }) (hno : Looks (model prog w) h (opaqueClassAbove (.ref C)) none)
    (hC : Looks (model prog w) h (mroOf (.ref C)) l₀) (hl : (l₀.dropWhile (· != .ref D)).drop 1 = l) (X : K.In h)
    (hf : alongIn K name l = some (some (.builtin i))) (hT : typeOf (.builtin i) = pure (.type T)) (hg : typeLookup (.type T) "__get__" = pure (some (.builtin gid))) (hxC : x ≠ C) (hn : (name == ("__class__" : Str)) = false)
    (hget : ∀ A' t' (Q' : Value → Shared → Prop) (E' : Value → Shared → Prop), Q' (.ref h.objs.size) ⟨h.push { cls := .type bt, data := .fields #[.builtin i, .ref x] }, g, d, t', os⟩ → wpAny (model prog w) A' (call (.builtin gid) [.builtin i, .ref x, .ref C]) Q' E' ⟨h, g, d, t', os⟩)
    (hq : Q (.ref h.objs.size, []) ⟨h.push { cls := .type bt, data := .fields #[.builtin i, .ref x] }, g, d, t + 1, os⟩) :
    wpAny (model prog w) A (getMethod (.ref so) name pl) Q E ⟨h, g, d, t, os⟩ := by
  have hlk := F.ks_slot_super_ga.lookup
  have hcan := F.ks_canon_super_ga
  have hTs : ∀ t', (⟨h, g, d, t', os⟩ : Shared).TypeIs (.ref so) "super" := fun _ => ⟨_, hso, rfl⟩
  unfold getMethod
  refine wpAny_bind (wpAny_specialOf (hTs _) hlk ?_)
  show wpAny _ _ (if (Manifest.canonical "super.__getattribute__" != "object.__getattribute__") = true then _ else _) _ _ _
  rw [if_pos hcan]
  unfold getAttr getAttrBy
  refine wpAny_bind (wpAny_bind (wpAny_mkText (wpAny_holding (wpAny_bind (wpAny_typeOf (hTs _) (wpAny_bind (wpAny_of_eq hlk ?_)))))))
  show wpAny _ _ (getAttrByItsOwn (.ref so) (.str name t) (.type "super") (.builtin "super.__getattribute__") true false) _ _ _
  unfold getAttrByItsOwn hookBefore callGetattribute boundAndCalled
  refine wpAny_bind (wpAny_of_eq (show (if onTheHeap (.type "super") then typeLookup (.type "super") "__getattr__" else pure none) = pure none from rfl) ?_)
  refine wpAny_bind (wpAny_attempt (wpAny_holding ?_))
  show wpAny _ _ (bindSpecial (.builtin "super.__getattribute__") (.ref so) >>= _) _ _ _
  refine wpAny_bind (wpAny_of_eq (F.ks_slot_super_ga.bind _) ?_)
  refine wpAny_mono (Q := fun v s' => v = .ref h.objs.size ∧ s' = ⟨h.push { cls := .type bt, data := .fields #[.builtin i, .ref x] }, g, d, t + 1, os⟩) (E := fun _ _ => False)
    (wpAny_call_entry F.ks_slot_super_ga (hTs _) F.ks_entry_super_ga (super_ga hso hno hC hl X hf hT hg hxC hn (fun A' => hget A' _) ⟨_, rfl, rfl, rfl⟩) (F.ks_gaArgs_super _ _)) (fun v s' hv => ?_) fun _ _ z => z.elim
  first | (revert hv; intro hx9; k_extra "xe2"; clear hx9; intro eq9; subst eq9; intro eq9; subst eq9) | obtain ⟨rfl, rfl⟩ := hv
  exact wpAny_pure (wpAny_pure hq)
theorem bound_call {q x : Addr} {i bt : String} {b : Builtin} {s : Shared} {Q : Value → Shared → Prop} (hq : s.heap.get? q = some { cls := .type bt, data := .fields #[.builtin i, .ref x] }) (hbt : bt = "builtin_function_or_method" ∨ bt = "method-wrapper")
    (hck : ∀ A' (Q' : Unit → Shared → Prop) E', Q' () s → wpAny (model prog w) A' (checkBoundCall i ⟨[.ref x], []⟩) Q' E' s) (hp : plainId i = true) (hb : entryFor table i = some b)
    (h : wpAny (model prog w) A.in1 (b ⟨[.ref x], []⟩) (fun fin s' => ∃ v, fin = .done (.ret v) ∧ Q v s') E s) : wpAny (model prog w) A (call (.ref q) []) Q E s := by
  refine wpAny_call (codeAny_of_tree ?_)
  show wpAny _ _ (callAny (.ref q) _) _ _ _
  refine nd_load hq ?_
  rcases hbt with rfl | rfl
  all_goals
    repeat (first | ((with_reducible show wpAny _ _ (checkBoundCall _ _) _ _ _); refine hck _ _ _ ?_) | lk)
    refine ⟨plainId_quiet hp _, codeAny_builtin hb ?_⟩
    rw [Around.under_plainId hp]
    refine wpAny_mono h (fun fin s' h' => ?_) fun _ _ h' => h'
    obtain ⟨v, rfl, hv⟩ := h'; exact hv
theorem ck_len {x : Addr} {s : Shared} {Q' : Unit → Shared → Prop} {E' : Value → Shared → Prop} (h : Q' () s) : wpAny (model prog w) A (checkBoundCall "list.__len__" ⟨[.ref x], []⟩) Q' E' s := by
  rw [show checkBoundCall "list.__len__" ⟨[.ref x], []⟩ = pure () from by kernel_rfl]
  exact wpAny_pure h
theorem ck_init {x : Addr} {s : Shared} {Q' : Unit → Shared → Prop} {E' : Value → Shared → Prop} (h : Q' () s) : wpAny (model prog w) A (checkBoundCall "list.__init__" ⟨[.ref x], []⟩) Q' E' s := by
  rw [show checkBoundCall "list.__init__" ⟨[.ref x], []⟩ = pure () from by kernel_rfl]
  exact wpAny_pure h
noncomputable def popSig : Manifest.Signature := (Manifest.signature? "list.pop").getD ⟨.hand, "", "", .none, []⟩
theorem pop_sig : Manifest.signature? "list.pop" = some popSig := by unfold popSig; kernel_rfl
theorem pop_ck (x : Addr) : Bind.checkArgs "list.pop" { popSig with full := toString (Str.toString (Str.ofString "_Accumulator")) ++ toString "." ++ toString (Bind.lastOf "list.pop") } ⟨[.ref x], []⟩ = pure () := by unfold popSig; kernel_rfl
theorem ck_pop {K : Frag} {x C dx : Addr} {its : Array Value} {n : Nat} {Q' : Unit → Shared → Prop} {E' : Value → Shared → Prop} (X : K.In h) (hx : h.get? x = some (lstObj C dx its n)) (hm : mroIn K C (.type "module") = some false) (hC : typeIn K (.ref C) = some (.type "type")) (hcl : (clsIn K C).any (fun cd => cd.qualname == Str.ofString "_Accumulator") = true) (hq : Q' () ⟨h, g, d, t, os⟩) :
    wpAny (model prog w) A (checkBoundCall "list.pop" ⟨[.ref x], []⟩) Q' E' ⟨h, g, d, t, os⟩ := by
  have L1 : Looks (model prog w) h (isInstance (.ref x) (.type "module")) false := ((Looks.ld hx).andThen .now).andThen (looks_mroIn X hm)
  have L2 := looks_typeIn (M := model prog w) X hC
  have hx9 := any_some hcl
  first | (k_extra "xe3"; clear hx9; intro cd hcd hqn) | obtain ⟨cd, hcd, hqn⟩ := hx9
  have hqn := beq_iff_eq.mp hqn
  have L3 := looks_clsIn (M := model prog w) X hcd
  unfold checkBoundCall
  rw [pop_sig, lp_kind]
  have ck := pop_ck x
  rw [← hqn] at ck
  repeat (first | (with_reducible refine wpAny_of_eq ck ?_) | lk)
  exact hq
end
end
section
abbrev bdObj (bt i : String) (x : Addr) : Obj := { cls := .type bt, data := .fields #[.builtin i, .ref x] }
noncomputable def Bd (q : Addr) (h : Heap) : Prop := ∃ bt i x, (bt = "builtin_function_or_method" ∨ bt = "method-wrapper") ∧ h.get? q = some (bdObj bt i x)
section
variable {M : Model} {prog : Program} {w : World} {A : Around} {E : Value → Shared → Prop} {s : Shared} {K : Frag} {x dx so q L : Addr} {h₀ : Heap} {m : Str → Option Value} {news : List (Addr × Obj)} {es : List DictEntry} {n k : Nat} {name : Str} {its : Array Value}
theorem keeps_bd (h : Heap) (X : Bd q h) : ∃ k, (k = Keeper.frame ∨ k = Keeper.machine ∨ k = Keeper.boundFrame) ∧ Looks M h (keeperOf (.ref q)) k := by
  first | (revert X; intro hx9; k_extra "xe5"; clear hx9; intro bt i x hb e) | obtain ⟨bt, i, x, hb, e⟩ := X
  refine ⟨.machine, .inr (.inl rfl), (Looks.ld (part := none) e).andThen ?_⟩
  rcases hb with rfl | rfl <;> exact .now
theorem callWith_bd {pos : Pos} {env : Env} {Q : Value → Shared → Prop} (X : Bd q s.heap) (h : wpAny M A (call (.ref q) []) Q E s) : wpAny M A (callWith pos (.ref q) [] (backTo pos (starEach [] env)) []) Q E s :=
  callWith_of rfl keeps_bd (evalArgs_nil3 ⟨X, h⟩)
theorem ty_pop : typeOf (.builtin "list.pop") = pure (.type "method_descriptor") := by show builtinType _ = _; rw [builtinType_eq_fast]; kernel_rfl
theorem ty_len : typeOf (.builtin "list.__len__") = pure (.type "wrapper_descriptor") := by show builtinType _ = _; rw [builtinType_eq_fast]; kernel_rfl
theorem ty_init : typeOf (.builtin "list.__init__") = pure (.type "wrapper_descriptor") := by show builtinType _ = _; rw [builtinType_eq_fast]; kernel_rfl
theorem al_pop (P : Params) : alongIn (K39 P) "pop" [.type "list", .type "object"] = some (some (.builtin "list.pop")) := by kernel_rfl
theorem al_len (P : Params) : alongIn (K39 P) "__len__" [.type "list", .type "object"] = some (some (.builtin "list.__len__")) := by kernel_rfl
theorem al_init (P : Params) : alongIn (K39 P) "__init__" [.type "list", .type "object"] = some (some (.builtin "list.__init__")) := by kernel_rfl
theorem acc_opaque (P : Params) : nsIn (K39 P) cStatics "thirdparty.any" = some none := by kernel_rfl
theorem acc_nomod (P : Params) : mroIn (K39 P) 101 (.type "module") = some false := by kernel_rfl
theorem acc_typ (P : Params) : typeIn (K39 P) (.ref 101) = some (.type "type") := by kernel_rfl
theorem acc_qn (P : Params) : (clsIn (K39 P) 101).any (fun cd => cd.qualname == Str.ofString "_Accumulator") = true := by kernel_rfl
theorem acc_drop : ((([.ref 101, .type "list", .type "object"] : List Value).dropWhile (· != .ref 101)).drop 1) = [.type "list", .type "object"] := by decide
theorem super_acc {pl : Sem Bool} {Q : Value × List Value → Shared → Prop} {i T gid bt : String} (F : Fr h₀ L s.heap m) (X₀ : (K39 w.params).In h₀) (N : News h₀ L s.heap news) (hso : (so, ks_superObj 101 x 101) ∈ news) (h1 : (x, lstObj 101 dx its k) ∈ news) (h2 : (dx, dictOf es n) ∈ news)
    (hf : alongIn (K39 w.params) name [.type "list", .type "object"] = some (some (.builtin i))) (hT : typeOf (.builtin i) = pure (.type T)) (hg : typeLookup (.type T) "__get__" = pure (some (.builtin gid))) (hn : (name == ("__class__" : Str)) = false)
    (hget : ∀ (h : Heap) g d t os A' (Q' : Value → Shared → Prop) (E' : Value → Shared → Prop), Looks (model prog w) h (isInstance (.ref x) (.type "list")) true → Q' (.ref h.objs.size) ⟨h.push (bdObj bt i x), g, d, t, os⟩ → wpAny (model prog w) A' (call (.builtin gid) [.builtin i, .ref x, .ref 101]) Q' E' ⟨h, g, d, t, os⟩)
    (h : ∀ q h' tk, Fr h₀ L h' m → News h₀ L h' ((q, bdObj bt i x) :: news) → (∀ p ∈ news, p.1 < q) → Q (.ref q, []) { s with heap := h', toks := tk }) : wpAny (model prog w) A (getMethod (.ref so) name pl) Q E s := by
  have X := X₀.keeps F.keep
  have I := Mine.InstAt.of_newsL N h1 h2
  have hx9 := mro3_of (acc_mro w.params)
  first | (k_extra "xe3"; clear hx9; intro cd hc hmr) | obtain ⟨cd, hc, hmr⟩ := hx9
  have hC : Looks (model prog w) s.heap (mroOf (.ref 101)) [.ref 101, .type "list", .type "object"] := by rw [← hmr]; exact (looks_clsIn X hc).andThen .now
  have hxC : x ≠ 101 := ks_ne X I hc
  have hso' := (N _ hso).1
  have hx' := (N _ h1).1
  first | (revert s; intro hx9; k_extra "xe5"; clear hx9; intro hh g d t os) | obtain ⟨hh, g, d, t, os⟩ := s
  refine super_meth hso' (looks_opaque X (acc_opaque _)) hC acc_drop X hf hT hg hxC hn (fun A' t' Q' E' => hget hh g d t' os A' Q' E' (inst_list X hx' (mro3_in (acc_mro _)).1)) ?_
  have hx9 := ks_newsPush (s := ⟨hh, g, d, t, os⟩) (o := bdObj bt i x) F N rfl (Heap.get?_push_at rfl rfl) (fun b o e => Heap.get?_push_of_some _ e)
  first | (k_extra "xe3"; clear hx9; intro F' N' l') | obtain ⟨F', N', l'⟩ := hx9
  exact h _ _ _ F' N' l'
theorem super_len {pl : Sem Bool} {Q : Value × List Value → Shared → Prop} (F : Fr h₀ L s.heap m) (X₀ : (K39 w.params).In h₀) (N : News h₀ L s.heap news) (hso : (so, ks_superObj 101 x 101) ∈ news) (h1 : (x, lstObj 101 dx its k) ∈ news) (h2 : (dx, dictOf es n) ∈ news)
    (h : ∀ q h' tk, Fr h₀ L h' m → News h₀ L h' ((q, bdObj "method-wrapper" "list.__len__" x) :: news) → (∀ p ∈ news, p.1 < q) → Q (.ref q, []) { s with heap := h', toks := tk }) : wpAny (model prog w) A (getMethod (.ref so) (Str.ofString "__len__") pl) Q E s :=
  super_acc F X₀ N hso h1 h2 (al_len _) ty_len wd_slot.lookup (by decide) (fun h g d t os A' Q' E' hi => wd_get own_len ty_len hi) h
theorem super_init {pl : Sem Bool} {Q : Value × List Value → Shared → Prop} (F : Fr h₀ L s.heap m) (X₀ : (K39 w.params).In h₀) (N : News h₀ L s.heap news) (hso : (so, ks_superObj 101 x 101) ∈ news) (h1 : (x, lstObj 101 dx its k) ∈ news) (h2 : (dx, dictOf es n) ∈ news)
    (h : ∀ q h' tk, Fr h₀ L h' m → News h₀ L h' ((q, bdObj "method-wrapper" "list.__init__" x) :: news) → (∀ p ∈ news, p.1 < q) → Q (.ref q, []) { s with heap := h', toks := tk }) : wpAny (model prog w) A (getMethod (.ref so) (Str.ofString "__init__") pl) Q E s :=
  super_acc F X₀ N hso h1 h2 (al_init _) ty_init wd_slot.lookup (by decide) (fun h g d t os A' Q' E' hi => wd_get own_init ty_init hi) h
theorem super_pop {pl : Sem Bool} {Q : Value × List Value → Shared → Prop} (F : Fr h₀ L s.heap m) (X₀ : (K39 w.params).In h₀) (N : News h₀ L s.heap news) (hso : (so, ks_superObj 101 x 101) ∈ news) (h1 : (x, lstObj 101 dx its k) ∈ news) (h2 : (dx, dictOf es n) ∈ news)
    (h : ∀ q h' tk, Fr h₀ L h' m → News h₀ L h' ((q, bdObj "builtin_function_or_method" "list.pop" x) :: news) → (∀ p ∈ news, p.1 < q) → Q (.ref q, []) { s with heap := h', toks := tk }) : wpAny (model prog w) A (getMethod (.ref so) (Str.ofString "pop") pl) Q E s :=
  super_acc F X₀ N hso h1 h2 (al_pop _) ty_pop md_slot.lookup (by decide) (fun h g d t os A' Q' E' hi => md_get ty_pop hi) h
theorem cb_len {Q : Value → Shared → Prop} {its : List Value} (N : News h₀ L s.heap news) (hq : (q, bdObj "method-wrapper" "list.__len__" x) ∈ news) (h1 : (x, lstObj 101 dx its.toArray k) ∈ news)
    (h : ∀ tk t', Q (.int (its.length : Nat) t') { s with toks := tk }) : wpAny (model prog w) A (call (.ref q) []) Q E s := by
  have hq' := (N _ hq).1
  have hx' := (N _ h1).1
  refine bound_call hq' (.inr rfl) (fun A' Q' E' hh => ck_len hh) ll_plain e_len ?_
  first | (revert s; intro hx9; k_extra "xe5"; clear hx9; intro hh g d t os) | obtain ⟨hh, g, d, t, os⟩ := s
  exact len_B hx' fun t' => h t' t
theorem cb_init {Q : Value → Shared → Prop} (F : Fr h₀ L s.heap m) (N : News h₀ L s.heap news) (hq : (q, bdObj "method-wrapper" "list.__init__" x) ∈ news) (h1 : (x, lstObj 101 dx #[] k) ∈ news)
    (h : ∀ h' k' tk, Fr h₀ L h' m → (∀ news', Upd x (lstObj 101 dx #[] k) (lstObj 101 dx #[] k') news news' → News h₀ L h' news') → Q .none { s with heap := h', toks := tk }) : wpAny (model prog w) A (call (.ref q) []) Q E s := by
  have hq' := (N _ hq).1
  have hx9 := sub_upd (o' := fun k => lstObj 101 dx #[] k) F N h1
  first | (k_extra "xe2"; clear hx9; intro hx' kk) | obtain ⟨hx', kk⟩ := hx9
  refine bound_call hq' (.inr rfl) (fun A' Q' E' hh => ck_init hh) l0_plain e_init ?_
  first | (revert s; intro hx9; k_extra "xe5"; clear hx9; intro hh g d t os) | obtain ⟨hh, g, d, t, os⟩ := s
  exact init_B hx' fun h' n' t' ho hs => h h' n' t' (kk h' n' ho hs).1 (kk h' n' ho hs).2
theorem cb_pop {Q : Value → Shared → Prop} {its : List Value} {v : Value} (F : Fr h₀ L s.heap m) (X₀ : (K39 w.params).In h₀) (N : News h₀ L s.heap news) (hq : (q, bdObj "builtin_function_or_method" "list.pop" x) ∈ news) (h1 : (x, lstObj 101 dx (its ++ [v]).toArray k) ∈ news) (hsz : its.length < 1000)
    (h : ∀ h' k' tk, Fr h₀ L h' m → (∀ news', Upd x (lstObj 101 dx (its ++ [v]).toArray k) (lstObj 101 dx its.toArray k') news news' → News h₀ L h' news') → Q v { s with heap := h', toks := tk }) : wpAny (model prog w) A (call (.ref q) []) Q E s := by
  have hq' := (N _ hq).1
  have X := X₀.keeps F.keep
  have hx9 := sub_upd (o' := fun k => lstObj 101 dx its.toArray k) F N h1
  first | (k_extra "xe2"; clear hx9; intro hx' kk) | obtain ⟨hx', kk⟩ := hx9
  first | (revert s; intro hx9; k_extra "xe5"; clear hx9; intro hh g d t os) | obtain ⟨hh, g, d, t, os⟩ := s
  refine bound_call hq' (.inl rfl) (fun A' Q' E' hh => ck_pop X hx' (acc_nomod _) (acc_typ _) (acc_qn _) hh) lp_plain e_pop ?_
  exact pop_B v hx' hsz fun h' n' t' ho hs => h h' n' t' (kk h' n' ho hs).1 (kk h' n' ho hs).2
theorem bd_of {bt i : String} (N : News h₀ L s.heap news) (hq : (q, bdObj bt i x) ∈ news) (hb : bt = "builtin_function_or_method" ∨ bt = "method-wrapper") : Bd q s.heap := ⟨bt, i, x, hb, (N _ hq).1⟩
end
end
section
section
variable {M : Model} {prog : Program} {w : World} {A : Around} {E : Value → Shared → Prop} {s : Shared} {x dx em L : Addr} {h₀ : Heap} {m : Str → Option Value} {news : List (Addr × Obj)} {es : List DictEntry} {n k ne : Nat} {its : List Value}
theorem slice_acc {value slice : Expr} {i : Nat} {ti : Tok} {Q : Value → Shared → Prop} (F : Fr h₀ L s.heap m) (X₀ : (K39 w.params).In h₀) (N : News h₀ L s.heap news)
    (h1 : (x, lstObj 101 dx its.toArray k) ∈ news) (h2 : (dx, dictOf es n) ∈ news) (hi : i ≤ its.length) (hsz : its.length ≤ 1000)
    (h : ∀ l h' tk, Fr h₀ L h' m → News h₀ L h' ((l, listOf (its.drop i).toArray 0) :: news) → (∀ p ∈ news, p.1 < l) → Q (.ref l) { s with heap := h', toks := tk })
    (hsb : ∀ b, subscripted slice b (.ref x) (.ref s.heap.objs.size) = operate [.ref s.heap.objs.size, .ref x] (getItem (.ref x) (.ref s.heap.objs.size))) :
    wpAny (model prog w) A (subscriptTail value slice (.ref x) (.ref s.heap.objs.size)) Q E { s with heap := s.heap.push { cls := .type "slice", data := .fields #[.int (i : Int) ti, .none, .none] } } := by
  have hx9 := ks_newsPush (s := s) (o := { cls := .type "slice", data := .fields #[.int (i : Int) ti, .none, .none] }) F N rfl (Heap.get?_push_at rfl rfl) (fun b o e => Heap.get?_push_of_some _ e)
  first | (k_extra "xe3"; clear hx9; intro F' N' l') | obtain ⟨F', N', l'⟩ := hx9
  refine slice_LK (s := { s with heap := s.heap.push { cls := .type "slice", data := .fields #[.int (i : Int) ti, .none, .none] } }) F' X₀ N' (acc_mro _) (acc_noSeq _) (acc_getitem _) (.tail _ h1) (.tail _ h2) (N' _ (.head _)).1 hi hsz (fun l h' tk F2 N2 l2 => ?_) hsb
  exact h l h' tk F2 (fun p hp => by
    rcases List.mem_cons.mp hp with rfl | hp
    · exact N2 _ (.head _)
    · exact N2 _ (.tail _ (.tail _ hp))) fun p hp => l2 p (.tail _ hp)
theorem setslice_acc {i : Nat} {ti : Tok} {Q : Unit → Shared → Prop} (F : Fr h₀ L s.heap m) (X₀ : (K39 w.params).In h₀) (N : News h₀ L s.heap news)
    (h1 : (x, lstObj 101 dx its.toArray k) ∈ news) (h2 : (dx, dictOf es n) ∈ news) (h3 : (em, listOf #[] ne) ∈ news) (hi : i ≤ its.length) (hsz : its.length ≤ 1000)
    (h : ∀ h' k' tk, Fr h₀ L h' m → (∀ news', Upd x (lstObj 101 dx its.toArray k) (lstObj 101 dx (its.take i).toArray k') news news' → News h₀ L h' news') → Q () { s with heap := h', toks := tk }) :
    wpAny (model prog w) A (setItem (.ref x) (.ref s.heap.objs.size) (.ref em)) Q E { s with heap := s.heap.push { cls := .type "slice", data := .fields #[.int (i : Int) ti, .none, .none] } } := by
  have hx9 := ks_newsPush (s := s) (o := { cls := .type "slice", data := .fields #[.int (i : Int) ti, .none, .none] }) F N rfl (Heap.get?_push_at rfl rfl) (fun b o e => Heap.get?_push_of_some _ e)
  first | (k_extra "xe3"; clear hx9; intro F' N' l') | obtain ⟨F', N', l'⟩ := hx9
  refine setslice_LK (s := { s with heap := s.heap.push { cls := .type "slice", data := .fields #[.int (i : Int) ti, .none, .none] } }) F' X₀ N' (acc_mro _) (acc_noSeq _) (acc_setitem _) (.tail _ h1) (.tail _ h2) (.tail _ h3) (N' _ (.head _)).1 hi hsz (fun h' k' tk F2 hN2 => ?_)
  refine h h' k' tk F2 fun news' U => ?_
  have hlt : x < s.heap.objs.size := l' _ h1
  have N3 := hN2 _ (Upd.tail (Nat.ne_of_gt hlt) U)
  exact fun p hp => N3 p (.tail _ hp)
end
end
section
noncomputable def ClG (Pb : Heap → Prop) (prog : Program) (w : World) (K : Frag) (p : Program) (loose : List Str) (mean : ExcName → Option Value) (mg mb : Str → Option Value) (f : Addr) (d u : Nat) (news : List (Addr × Obj)) (vs : List Value)
    (R : Value → List (Addr × Obj) → Prop) : Prop :=
  ∀ (dp un : Nat) (gd : Option (List Code)) (cn : Str) (cs : Scope) (ca : Addr) (ccd : Value) (cl : List (Str × Addr)) (outer : List Env) (A₀ : Around) (base h₀ : Heap) (L : Addr) (m : Str → Option Value) (s : Shared) (Q E : Value → Shared → Prop),
    Pb base → AllBare s.gens → Below A₀ base outer h₀ → Fr h₀ L s.heap m → K.In h₀ → News h₀ L s.heap news → Top p loose mean mg mb h₀ → cs.kind = .function → dp + d < recursionLimit → un + u < cLine →
    (∀ (r : Value) (news' : List (Addr × Obj)) (s' : Shared), Fr h₀ L s'.heap m → News h₀ L s'.heap news' → AllBare s'.gens → s'.os = s.os → R r news' → Q r s') →
      wpAny (model prog w) (ktrTop dp un gd cn cs L ca ccd cl outer) (call (.ref f) vs) Q E s
theorem ClG.mk {Pb : Heap → Prop} {prog : Program} {w : World} {K : Frag} {p : Program} {loose : List Str} {mean : ExcName → Option Value} {mg mb : Str → Option Value} {f : Addr} {d u : Nat} {news : List (Addr × Obj)} {vs : List Value} {R : Value → List (Addr × Obj) → Prop}
    (h : ∀ (dp un : Nat) (gd : Option (List Code)) (cn : Str) (cs : Scope) (ca : Addr) (ccd : Value) (cl : List (Str × Addr)) (outer : List Env) (A₀ : Around) (base h₀ : Heap) (L : Addr) (m : Str → Option Value) (s : Shared) (Q E : Value → Shared → Prop),
    Pb base → AllBare s.gens → Below A₀ base outer h₀ → Fr h₀ L s.heap m → K.In h₀ → News h₀ L s.heap news → Top p loose mean mg mb h₀ → cs.kind = .function → dp + d < recursionLimit → un + u < cLine →
    (∀ (r : Value) (news' : List (Addr × Obj)) (s' : Shared), Fr h₀ L s'.heap m → News h₀ L s'.heap news' → AllBare s'.gens → s'.os = s.os → R r news' → Q r s') →
      wpAny (model prog w) (ktrTop dp un gd cn cs L ca ccd cl outer) (call (.ref f) vs) Q E s) :
    ClG Pb prog w K p loose mean mg mb f d u news vs R := h
theorem ClG.use {Pb : Heap → Prop} {prog : Program} {w : World} {K : Frag} {p : Program} {loose : List Str} {mean : ExcName → Option Value} {mg mb : Str → Option Value} {f : Addr} {d u : Nat} {news : List (Addr × Obj)} {vs : List Value} {R : Value → List (Addr × Obj) → Prop} (C : ClG Pb prog w K p loose mean mg mb f d u news vs R)
    {dp un : Nat} {gd : Option (List Code)} {cn : Str} {cs : Scope} {ca : Addr} {ccd : Value} {cl : List (Str × Addr)} {outer : List Env} {A₀ : Around} {base h₀ : Heap} {L : Addr} {m : Str → Option Value} {s : Shared} {Q E : Value → Shared → Prop}
    (kP : Pb base) (kG : AllBare s.gens) (kB : Below A₀ base outer h₀) (kF : Fr h₀ L s.heap m) (kX : K.In h₀) (kN : News h₀ L s.heap news) (kT : Top p loose mean mg mb h₀) (kc : cs.kind = .function) (kd : dp + d < recursionLimit) (ku : un + u < cLine)
    (kR : ∀ (r : Value) (news' : List (Addr × Obj)) (s' : Shared), Fr h₀ L s'.heap m → News h₀ L s'.heap news' → AllBare s'.gens → s'.os = s.os → R r news' → Q r s') :
    wpAny (model prog w) (ktrTop dp un gd cn cs L ca ccd cl outer) (call (.ref f) vs) Q E s := C dp un gd cn cs ca ccd cl outer A₀ base h₀ L m s Q E kP kG kB kF kX kN kT kc kd ku kR
structure Pr where
  a : Addr
  b : Str
  tb : Tok
  s : Str
  ts : Tok
abbrev Pr.obj (q : Pr) : Obj := { cls := .type "tuple", data := .seq #[.str q.b q.tb, .str q.s q.ts] }
noncomputable def tups (l : List Pr) : List (Addr × Obj) := l.map fun q => (q.a, q.obj)
noncomputable def refs (l : List Pr) : List Value := l.map fun q => .ref q.a
abbrev NoTab (P : Nat) (news : List (Addr × Obj)) : Prop := ∀ p ∈ news, p.2.cls ≠ .none ∨ @Ne Nat p.1 P
theorem tab_ne {h₀ h : Heap} {L P : Addr} {ps : Array Value} {news rest : List (Addr × Obj)} (N : News h₀ L h news) (hP : (P, tabObj ps) ∈ news) (hs : ∀ p ∈ rest, p ∈ news) (hr : NoTab P rest) : ∀ p ∈ rest, p.1 ≠ P := fun p hp => by
  rcases hr p hp with hc | hc
  · intro e
    have h1 := (N _ hP).1
    have h2 := (N _ (hs p hp)).1
    rw [e, h1] at h2
    exact hc (by rw [← Option.some.inj h2])
  · exact hc
theorem tups_cls {l : List Pr} {p : Addr × Obj} (h : p ∈ tups l) : p.2.cls = .type "tuple" := by
  have hx9 := List.mem_map.mp h
  first | (k_extra "xe3"; clear hx9; intro q _ eq9; subst eq9) | obtain ⟨q, _, rfl⟩ := hx9
  rfl
theorem refs_get {l : List Pr} {i : Nat} (hi : i < l.length) : (refs l)[i]? = some (.ref ((l.map Pr.a).getD i 0)) := by
  simp [refs, List.getD_eq_getElem?_getD, hi]
theorem tups_mem {l : List Pr} {q : Pr} (h : q ∈ l) : (q.a, q.obj) ∈ tups l := List.mem_map_of_mem h
end
section
section
variable {prog : Program} {w : World} {M : Model} {A : Around} {E : Value → Shared → Prop} {s : Shared} {h₀ : Heap} {C bi : Addr} {m mg mb : Str → Option Value} {K : Frag} {p : Program} {loose : List Str} {mean : ExcName → Option Value}
  {scope : Scope} {cl : List (Str × Addr)} {code : Value} {env : Env} {x : Str} {pos px pl : Pos} {v : Value} {Q : Value → Shared → Prop}
theorem g_local (F : Fr h₀ C s.heap m) (hv : m x = some v) (hk : scope.kind = .function) (hx : scope.names.lookup x = some .local) (hd : (x == ("__debug__" : Str)) = false) (h : Q v s) :
    wpAny M A (eval (.Name x pos) (genEnv scope cl C code bi env)) Q E s :=
  wpAny_Name (wpAny_loadName_local hk hx F.ns hv h) hd
theorem g_builtin (F : Fr h₀ C s.heap m) (X : K.In h₀) (T : Top p loose mean mg mb h₀) (hg : env.globals = mainGlobals) (e : nsIn K mainGlobals x = some none) (hv : bootBuiltins x = some v) (hn : x ≠ "__name__")
    (hk : scope.kind = .function) (hx : scope.names.lookup x = some .globalImplicit) (hd : (x == ("__debug__" : Str)) = false) (h : Q v s) :
    wpAny M A (eval (.Name x pos) (genEnv scope cl C code builtinsNs env)) Q E s :=
  wpAny_Name (ks_loadName_global hk hx (loadGlobal_builtin (by show s.heap.Ns env.globals mg; rw [hg]; exact T.g.keeps F.keep) (mg_none_of X T.g e) (T.b.keeps F.keep) ((T.builtins _ hn).trans hv) h)) hd
theorem g_main (F : Fr h₀ C s.heap m) (X : K.In h₀) (T : Top p loose mean mg mb h₀) (hg : env.globals = mainGlobals) (e : nsIn K mainGlobals x = some (some v))
    (hk : scope.kind = .function) (hx : scope.names.lookup x = some .globalImplicit) (hd : (x == ("__debug__" : Str)) = false) (h : Q v s) :
    wpAny M A (eval (.Name x pos) (genEnv scope cl C code builtinsNs env)) Q E s :=
  wpAny_Name (ks_loadName_global hk hx (loadGlobal_global (by show s.heap.Ns env.globals mg; rw [hg]; exact T.g.keeps F.keep) (mg_of X T.g e) h)) hd
theorem sp1 {env : Env} {e : Expr} {Q : List Value → Shared → Prop} (h : wpAny M A (eval e env) (fun v s' => Q [v] s') E s) (he : starEach [e] env = [(false, eval e env)]) : wpAny M A (spliced (backTo pos (starEach [e] env))) Q E s := by
  rw [he]
  refine spliced_cons ?_
  exact wpAny_mono h (fun v s' h' => spliced_nil h') fun _ _ x => x
theorem sp2 {env : Env} {e f : Expr} {Q : List Value → Shared → Prop} (h : wpAny M A (eval e env) (fun v s' => wpAny M A (eval f env) (fun u s₂ => Q [v, u] s₂) E s') E s) (he : starEach [e, f] env = [(false, eval e env), (false, eval f env)]) : wpAny M A (spliced (backTo pos (starEach [e, f] env))) Q E s := by
  rw [he]
  refine spliced_cons ?_
  exact wpAny_mono h (fun v s' h' => spliced_cons (wpAny_mono h' (fun u s₂ h₂ => spliced_nil h₂) fun _ _ x => x)) fun _ _ x => x
theorem g_len {y : Str} {ty : Tok} {x : Str} (F : Fr h₀ C s.heap m) (X : K.In h₀) (T : Top p loose mean mg mb h₀) (hg : env.globals = mainGlobals) (e : nsIn K mainGlobals "len" = some none) (hv : bootBuiltins "len" = some (.builtin "len"))
    (hk : scope.kind = .function) (hx : scope.names.lookup (Str.ofString "len") = some .globalImplicit) (hx2 : scope.names.lookup x = some .local) (hd2 : (x == ("__debug__" : Str)) = false) (hy : m x = some (.str y ty)) (hlen : y.length ≤ 1000)
    (h : ∀ t' tk, Q (.int (y.length : Nat) t') { s with toks := tk }) :
    wpAny (model prog w) A (eval (.Call (.Name "len" pl) [.Name x px] [] pos) (genEnv scope cl C code builtinsNs env)) Q E s := by
  refine wpAny_Call_NameR (g_builtin F X T hg e hv (by decide) hk hx (by decide) ?_)
  refine PyProof.Rows.callWith_builtin1 (sp1 (g_local F hy hk hx2 hd2 ?_) (by rfl))
  exact PyProof.Rows.len_str (by k_extra "li") (h _ _)
end
end
section
open Builtin Builtin.ObjectAttr Builtin.Getset_descriptor
section
variable {prog : Program} {w : World} {A : Around} {K : Frag} {C : Addr} {R : Result → Shared → Prop} {h : Heap} {g : Array GenState} {d : Drawn} {t : Nat} {os : OsState}
theorem make_L {a : Value} {fI : Addr} (X : K.In h) (Y : MkL (model prog w) h C) (hi : findIn K (.ref C) "__init__" = some (some (.ref fI)))
    (hf : typeIn K (.ref fI) = some (.type "function"))
    (hq : codeAny (model prog w) (A.under (.builtin "type.__call__" ⟨[.ref C, a], []⟩)) (.call (.ref fI) ⟨[.ref (h.objs.size + 1), a], []⟩) (InitBack (h.objs.size + 1) R) ⟨(h.push emptyDict).push (lstObj C h.objs.size #[] 0), g, d, t, os⟩) :
    codeAny (model prog w) A (.call (.ref C) ⟨[a], []⟩) R ⟨h, g, d, t, os⟩ := by
  have Y' := Y
  have hin := looks_findIn (M := model prog w) X hi
  have hbd := fun self => bind_fn (M := model prog w) X self hf
  first | (revert Y; intro hx9; k_extra "xe7"; clear hx9; intro hx9; (first | (k_extra "xq7"; clear hx9; intro oc od cd sl hC e2 e4) | obtain ⟨oc, od, cd, sl, hC, e2, e4⟩ := hx9); intro made base self lst call typ) | obtain ⟨⟨oc, od, cd, sl, hC, e2, e4⟩, made, base, self, lst, call, typ⟩ := Y
  refine codeAny_of_tree ?_
  show wpAny _ _ (callAny (.ref C) _) _ _ _
  refine nd_load hC ?_
  show wpAny _ _ (callAny.viaDunder (.ref C) _) _ _ _
  unfold callAny.viaDunder
  refine wpAny_bind (call.at ?_)
  dsimp only
  rw [tc_bind]
  refine wpAny_bind (wpAny_pure (wpAny_bind (wpAny_pure ?_)))
  refine wpAny_pure (a := Fin.again (.call (.builtin "type.__call__") ⟨[.ref C, a], []⟩)) (And.intro rfl ?_)
  refine codeAny_call_builtin_at (Code.quiet_builtin _ (by decide +kernel)) entry_typeCall (check_slot tc_kind tc_split typ (tc_args _ _ _) ?_)
  unfold Builtin.«type.__call__»
  have hm : Looks (model prog w) h (mroOf (.ref C)) cd.mro := ((Looks.ld (part := none) hC).andThen .now).andThen .now
  repeat (first | simp only [e4, Bool.false_eq_true, if_false] | with_reducible refine wpAny_call ?_ | lk)
  refine newL Y' (ln_args1 C a) ?_
  have k : ∀ b o, h.get? b = some o → ((h.push emptyDict).push (lstObj C h.objs.size #[] 0)).get? b = some o := fun b o e => Heap.get?_push_of_some _ (Heap.get?_push_of_some _ e)
  have hx : ((h.push emptyDict).push (lstObj C h.objs.size #[] 0)).get? (h.objs.size + 1) = some (lstObj C h.objs.size #[] 0) := by heap_get
  have t1 : Looks (model prog w) ((h.push emptyDict).push (lstObj C h.objs.size #[] 0)) (typeOf (.ref (h.objs.size + 1))) (.ref C) := (Looks.ld hx).andThen .now
  have s1 := self.keeps k
  have i1 := hin.keeps k
  have b1 := (hbd (.ref (h.objs.size + 1))).keeps k
  unfold isInstance callSpecial? specialOf
  repeat (first | with_reducible refine wpAny_call ?_ | lk)
  refine codeAny_mono hq fun r s' z => ?_
  rcases r with e | (v | _ | _ | _) <;> first | exact z | exact z.elim | skip
  first | (revert z; intro hx9; k_extra "xe2"; clear hx9; intro eq9; subst eq9; intro z) | obtain ⟨rfl, z⟩ := z
  exact wpAny_pure (wpAny_pure z)
end
section
variable {prog : Program} {w : World} {A : Around} {E : Value → Shared → Prop} {s : Shared} {L : Addr} {h₀ : Heap} {m : Str → Option Value} {news : List (Addr × Obj)}
theorem acc_init (P : Params) : findIn (K39 P) (.ref 101) "__init__" = some (some (.ref 38)) := by kernel_rfl
theorem acc_fn (P : Params) : typeIn (K39 P) (.ref 38) = some (.type "function") := by kernel_rfl
theorem make_acc {a : Value} {Q : Value → Shared → Prop} (F : Fr h₀ L s.heap m) (X₀ : (K39 w.params).In h₀) (N : News h₀ L s.heap news)
    (h : ∀ x dx h', Fr h₀ L h' m → News h₀ L h' ((x, lstObj 101 dx #[] 0) :: (dx, dictOf [] 0) :: news) → (∀ p ∈ news, p.1 < dx) → dx < x →
      codeAny (model prog w) (A.under (.builtin "type.__call__" ⟨[.ref 101, a], []⟩)) (.call (.ref 38) ⟨[.ref x, a], []⟩) (InitBack x fun r s' => match r with | .ok (.ret v) => Q v s' | .ok _ => False | .error e => E e s') { s with heap := h' }) :
    wpAny (model prog w) A (call (.ref 101) [a]) Q E s := by
  have X := X₀.keeps F.keep
  first | (revert s; intro hx9; k_extra "xe5"; clear hx9; intro hh g d t os) | obtain ⟨hh, g, d, t, os⟩ := s
  refine wpAny_call (make_L X (mkl_of X (acc_mk _)) (acc_init _) (acc_fn _) (h _ hh.objs.size _ ((F.push _).push _) ?_ (fun p hp => Heap.lt_size (N p hp).1) (Nat.lt_succ_self _)))
  have := (N.push F emptyDict).push (F.push _) (lstObj 101 hh.objs.size #[] 0)
  rwa [Heap.size_push] at this
end
end
section
noncomputable def Ltr (c : Nat) : Prop := (65 ≤ c ∧ c ≤ 90) ∨ (97 ≤ c ∧ c ≤ 122)
noncomputable def sw (c : Nat) : Nat := if c ≤ 90 then c + 32 else c - 32
noncomputable def lo (c : Nat) : Nat := if c ≤ 90 then c + 32 else c
theorem swap_one : ∀ c, c < 123 → Ltr c → Txt.swapcase (tx [c]) = tx [sw c] :=
  (by decide +kernel : ∀ c, c < 123 → ((65 ≤ c ∧ c ≤ 90) ∨ (97 ≤ c ∧ c ≤ 122)) → Txt.swapcase (tx [c]) = tx [sw c])
theorem ltr_sw {c : Nat} (h : Ltr c) : Ltr (sw c) := by
  unfold Ltr sw at *
  split <;> k_extra "li"
theorem ltr_lt {c : Nat} (h : Ltr c) : c < 123 := by unfold Ltr at h; k_extra "li"
theorem lower_tx {l : List Nat} (h : ∀ c ∈ l, Ltr c) : Txt.lower (tx l) = tx (l.map lo) := by
  rw [lower_ascii (fun c hc => Nat.lt_of_lt_of_le (ltr_lt (h c hc)) (by decide))]
  unfold tx
  congr 1
  apply Array.toList_inj.mp
  simp only [Array.toList_map, List.map_inj_left]
  intro c hc
  have hl := h c hc
  unfold Ltr at hl
  unfold lo1 lo
  split <;> split <;> k_extra "li"
theorem ltr_get {l : List Nat} (h : ∀ c ∈ l, Ltr c) {k : Nat} (hk : k < l.length) : Ltr (l.getD k 0) := by
  have : l.getD k 0 = l[k] := by simp [List.getD, hk]
  rw [this]; exact h _ (List.getElem_mem hk)
section
variable {prog : Program} {w : World} {A : Around} {E : Value → Shared → Prop} {s : Shared} {h₀ : Heap} {L : Addr} {m : Str → Option Value} {news : List (Addr × Obj)} {Q : Value → Shared → Prop} {t u : Tok}
theorem swap_tx {c : Nat} (hc : Ltr c) (h : ∀ t' tk, Q (.str (tx [sw c]) t') { s with toks := tk }) : wpAny (model prog w) A (call (.builtin "str.swapcase") [.str (tx [c]) t]) Q E s := by
  have e := swap_one c (ltr_lt hc) hc
  refine KXw.swapcase e ?_ h
  rw [e]
  rfl
theorem lower_c {l : List Nat} (hl : ∀ c ∈ l, Ltr c) (hz : l.length ≤ 1000) (h : ∀ t' tk, Q (.str (tx (l.map lo)) t') { s with toks := tk }) : wpAny (model prog w) A (call (.builtin "str.lower") [.str (tx l) t]) Q E s := by
  refine KXw.lower (lower_tx hl) ?_ h
  rw [lower_tx hl, tx_len, List.length_map]
  show decide (l.length > sizeLine) = false
  exact decide_eq_false (by rw [sizeLine_eq]; k_extra "li")
theorem cat_tx {a b : List Nat} (hz : a.length + b.length ≤ 1000000) (h : ∀ t' tk, Q (.str (tx (a ++ b)) t') { s with toks := tk }) : wpAny (model prog w) A (binaryOp .Add (.str (tx a) t) (.str (tx b) u)) Q E s := by
  refine PyProof.Rows.add_str (fun t' tk => ?_) (by rw [tx_len, tx_len, sizeLine_eq]; k_extra "li")
  have e : tx a ++ tx b = tx (a ++ b) := by
    unfold tx
    show Str.append _ _ = _
    simp [Str.append]
  rw [e]; exact h t' tk
theorem it_last {value slice : Expr} {D : Addr} {us : List Value} {kk : Nat} {ks : List Int} (N : News h₀ L s.heap news) (hm : (D, listOf us.toArray kk) ∈ news) (hi : IntsAre us ks) (h1 : 0 < ks.length) (hz : ks.length ≤ 1000000) (h : ∀ t', Q (.int (ks.getD (ks.length - 1) 0) t') s)
    (hs : subscripted slice false (.ref D) (.int (-1) u) = operate [.ref D, .int (-1) u] (getItem (.ref D) (.int (-1) u))) :
    wpAny (model prog w) A (subscriptTail value slice (.ref D) (.int (-1) u)) Q E s := by
  have hl : s.heap.IsList D us.toArray := PySem.IsL.isList (n := kk) (N _ hm).1
  have hg : ks[ks.length - 1]? = some (ks.getD (ks.length - 1) 0) := by
    rw [List.getElem?_eq_getElem (by k_extra "li")]
    simp [List.getD, show ks.length - 1 < ks.length from by k_extra "li"]
  have hx9 := hi.get _ _ hg
  first | (k_extra "xe2"; clear hx9; intro t' ht) | obtain ⟨t', ht⟩ := hx9
  have hlen := hi.length
  refine tail_any hl.typeIs slot_list_getitem.lookup (wpAny_getItem_list_neg (x := .int (ks.getD (ks.length - 1) 0) t') hl (by decide) ?_ (by decide) ?_ (h t')) hs
  · rw [List.size_toArray, hlen]; k_extra "li"
  · rw [List.size_toArray, hlen, show ((-1 : Int) + (ks.length : Nat)).toNat = ks.length - 1 from by k_extra "li"]
    simpa using ht
end
theorem rangeDown (n : Nat) (hn : n ≤ 1000) : Builtin.Range.small (n : Int) 0 (-1) = true ∧ Builtin.Range.rangeSize (n : Int) 0 (-1) = (n : Int) := by
  have e : Builtin.Range.rangeSize (n : Int) 0 (-1) = (n : Int) := by
    unfold Builtin.Range.rangeSize
    rw [if_neg (by decide), show -(-1 : Int) = 1 from rfl, Int.ediv_one]
    split <;> k_extra "li"
  refine ⟨?_, e⟩
  unfold Builtin.Range.small
  rw [e, fits_long (i := -1) (by k_extra "li") (by k_extra "li"), fits_long (i := 0) (by k_extra "li") (by k_extra "li"), fits_long (i := (n : Int)) (by k_extra "li") (by k_extra "li"), if_neg (by k_extra "li"), fits_long (by k_extra "li") (by k_extra "li")]
  simp
theorem forDown {prog : Program} {w : World} {A : Around} {E : Value → Shared → Prop} {s : Shared} {env : Env} {h₀ : Heap} {σ : Type} {x : Str} {body : List Stmt} {Q : Flow → Shared → Prop} {r : Addr} {a₀ b₀ c₁ : Int} {t₀ u₀ v₀ : Tok} {n : Nat} {m₀ : Str → Option Value} (Led : σ → List (Addr × Obj)) (ps : σ → List (Str × Value)) (Inv : Nat → σ → Prop) (c₀ : σ)
    (hh : A.handled = none) (hr : IsRange s.heap r a₀ b₀ c₁ t₀ u₀ v₀) (ha : a₀ = (n : Int)) (hb : b₀ = 0) (hc : c₁ = -1) (hz : n ≤ 1000) (F : Fr h₀ env.locals s.heap m₀) (N : News h₀ env.locals s.heap (Led c₀))
    (hk : ∀ p ∈ ps c₀, m₀ p.1 = some p.2) (hi : Inv 0 c₀)
    (turn : ∀ (c : σ) (i : Nat) t rr h tk own, i < n → OwnOff own ((Led c₀).map (·.1)) → Inv i c → Fr h₀ env.locals h (kstB rr ((x, .int ((n - i : Nat) : Int) t) :: ps c)) → News h₀ env.locals h (Led c ++ own) →
      wpAny (model prog w) A (execs body env) (InvPostN h₀ env.locals (TurnJ Led ps Inv (i + 1)) own ((Led c₀).map (·.1)) { s with heap := h, toks := tk } Q) E { s with heap := h, toks := tk })
    (done : ∀ (c : σ) rr h tk, Inv n c → Fr h₀ env.locals h (kstB rr (ps c)) → News h₀ env.locals h (Led c) → Q .next { s with heap := h, toks := tk }) :
    wpAny (model prog w) A (pyIter (.ref r)) (fun it s₂ => LoopAtV prog w A h₀ env x body Q E it s₂) E s := by
  subst ha hb hc
  have hx9 := rangeDown n hz
  first | (k_extra "xe2"; clear hx9; intro hsm hsz) | obtain ⟨hsm, hsz⟩ := hx9
  refine wpAny_pyIter_range hr hsm ?_
  have W : Walks prog w A s.heap.objs.size [s.heap.objs.size] [s.heap.objs.size] n (fun i v => i < n ∧ ∃ t, v = .int ((n : Int) + i * (-1)) t)
      (fun i h => IsRangeIter h s.heap.objs.size ((n : Int) + (i : Nat) * (-1)) ((n : Int) - (i : Nat)) (-1)) := (Walks.range hh _ (n : Int) (-1) n).bound
  refine forWalks Led ps Inv c₀ W ?_ ?_ ?_ (by show IsRangeIter _ _ _ _ _; rw [hsz]; simpa using Heap.get?_push_size _ rfl) (F.push _) (fun p hp => ⟨Heap.get?_push_of_some _ (N p hp).1, (N p hp).2⟩) hk hi ?_ done
  · intro hm
    exact absurd F.ns.lt ((List.mem_singleton.mp hm) ▸ Nat.lt_irrefl _)
  · intro b hb
    rw [List.mem_singleton.mp hb]
    exact next_is_new F
  · intro p hp hI
    exact absurd (Heap.lt_size (N p hp).1) ((List.mem_singleton.mp hI) ▸ Nat.lt_irrefl _)
  · intro c i v rr h tk own hin hx9
    first | (k_extra "xq3"; clear hx9; intro _ t eq9; subst eq9) | obtain ⟨_, t, rfl⟩ := hx9
    intro hoff hi' F₁ N₁
    have e1 : (n : Int) + (i : Int) * (-1) = ((n - i : Nat) : Int) := by k_extra "li"
    rw [e1] at F₁
    exact turn c i t rr h tk own hin hoff hi' F₁ N₁
end
section
noncomputable def rnd (k : Nat) (t : List Nat) : List Nat := [sw (t.getD (k - 1) 0)] ++ t.take (k - 1) ++ t.drop k
noncomputable def rnds (k : Nat) : Nat → List Nat → List Nat
  | 0, t => t
  | n + 1, t => rnd k (rnds k n t)
noncomputable def toldGo (l : List Nat) : Nat → Nat → List Nat → List Nat
  | 0, _, t => t
  | k + 1, rest, t => toldGo l k (rest % l.getD k 1) (rnds (k + 1) (rest / l.getD k 1) t)
theorem rnd_len {k : Nat} {t : List Nat} (h1 : 0 < k) (h : k ≤ t.length) : (rnd k t).length = t.length := by
  unfold rnd
  simp only [List.length_append, List.length_take, List.length_drop, List.length_cons, List.length_nil]
  lia
theorem rnd_ltr {k : Nat} {t : List Nat} (h1 : 0 < k) (h : k ≤ t.length) (ht : ∀ c ∈ t, Ltr c) : ∀ c ∈ rnd k t, Ltr c := by
  intro c hc
  unfold rnd at hc
  simp only [List.mem_append, List.mem_cons, List.not_mem_nil, or_false] at hc
  rcases hc with (rfl | hc) | hc
  · exact ltr_sw (ltr_get ht (by lia))
  · exact ht c (List.mem_of_mem_take hc)
  · exact ht c (List.mem_of_mem_drop hc)
theorem rnds_len {k : Nat} {t : List Nat} (h1 : 0 < k) (h : k ≤ t.length) : ∀ n, (rnds k n t).length = t.length
  | 0 => rfl
  | n + 1 => by
    have := rnds_len h1 h n
    simp only [rnds]
    rw [rnd_len h1 (by lia), this]
theorem rnds_ltr {k : Nat} {t : List Nat} (h1 : 0 < k) (h : k ≤ t.length) (ht : ∀ c ∈ t, Ltr c) : ∀ n, ∀ c ∈ rnds k n t, Ltr c
  | 0 => ht
  | n + 1 => by
    have h2 := rnds_len h1 h n
    exact rnd_ltr h1 (by lia) (rnds_ltr h1 h ht n)
noncomputable def lapsL (c : Nat) : List Nat := [1, 2, 8, 48, 384, 3840].take (c + 1)
end
section
open StrLaws Builtin.Str
theorem occ_keep (s sub : Str) (hi : Nat) : ∀ (l : List Nat) (st : Array Nat × Nat), 1 ≤ st.fst.size → (forIn l st (occBody s sub hi 1)).run.fst = st.fst
  | [], st, h => rfl
  | a :: l, st, h => by
    rw [List.forIn_cons]
    unfold occBody
    rw [if_neg (fun hc => absurd hc.1.1.1 (by k_extra "li"))]
    exact occ_keep s sub hi l _ h
noncomputable def plc (c : Nat) : List Nat → Nat
  | [] => 0
  | x :: r => if x = c then 0 else plc c r + 1
theorem plc_lt {c : Nat} : ∀ {l : List Nat}, c ∈ l → plc c l < l.length
  | x :: r, h => by
    unfold plc
    split
    · simp
    · rename_i hx
      rcases List.mem_cons.mp h with e | h
      · exact absurd e.symm hx
      · have := plc_lt h
        simp; k_extra "li"
theorem occ_go (l : List Nat) (c : Nat) : ∀ (r : List Nat) (a : Nat), l.drop a = r → (forIn (List.range' a (r.length + 1)) ((#[] : Array Nat), 0) (occBody (tx l) ⟨#[c]⟩ l.length 1)).run.fst = if c ∈ r then #[a + plc c r] else #[]
  | [], a, h => by
    have hn : ¬ ∃ x, l[a]? = some x := by
      intro hx9
      first | (k_extra "xq2"; clear hx9; intro x hx) | obtain ⟨x, hx⟩ := hx9
      have := List.getElem?_eq_some_iff.mp hx
      have hl := congrArg List.length h
      rw [List.length_drop] at hl
      have := this.1
      simp at hl
      k_extra "li"
    simp only [List.length_nil, List.range'_succ, List.range'_zero]
    rw [List.forIn_cons]
    unfold occBody
    rw [if_neg (fun hc => hn ⟨c, ((subAt_one (tx l) c a).mp ⟨by rw [tx_len]; exact hc.1.2, hc.2⟩)⟩)]
    simp
  | x :: r, a, h => by
    have hx : l[a]? = some x := by
      have e : l[a]? = (l.drop a)[0]? := by rw [List.getElem?_drop]; rfl
      rw [e, h]; rfl
    have hd : l.drop (a + 1) = r := by rw [← List.drop_drop, h]; rfl
    rw [List.length_cons, List.range'_succ, List.forIn_cons]
    by_cases hc : x = c
    · subst hc
      have h1 := (subAt_one (tx l) x a).mpr hx
      rw [tx_len] at h1
      rw [if_pos (List.mem_cons_self ..)]
      have e : plc x (x :: r) = 0 := by simp [plc]
      rw [e]
      have hb : occBody (tx l) ⟨#[x]⟩ l.length 1 a (#[], 0) = pure (ForInStep.yield (#[a], a + (⟨#[x]⟩ : Str).length)) := by
        unfold occBody
        rw [if_pos ⟨⟨⟨by simp, Nat.zero_le _⟩, h1.1⟩, h1.2⟩]
        simp
      rw [hb]
      exact occ_keep _ _ _ _ _ (by simp)
    · have hb : occBody (tx l) ⟨#[c]⟩ l.length 1 a (#[], 0) = pure (ForInStep.yield (#[], 0)) := by
        unfold occBody
        rw [if_neg (fun hh => hc (by
          have := (subAt_one (tx l) c a).mp ⟨by rw [tx_len]; exact hh.1.2, hh.2⟩
          rw [show (tx l).cps.toList[a]? = l[a]? from rfl, hx] at this
          exact Option.some.inj this))]
      rw [hb]
      have ih := occ_go l c r (a + 1) hd
      show (forIn (List.range' (a + 1) (r.length + 1)) ((#[] : Array Nat), 0) (occBody (tx l) ⟨#[c]⟩ l.length 1)).run.fst = _
      rw [ih]
      have hm : (c ∈ x :: r) ↔ c ∈ r := by simp [Ne.symm hc]
      by_cases hcr : c ∈ r
      · rw [if_pos hcr, if_pos (hm.mpr hcr)]
        simp only [plc, if_neg hc]
        congr 2
        k_extra "li"
      · rw [if_neg hcr, if_neg (fun e => hcr (hm.mp e))]
theorem occ_one (l : List Nat) (c : Nat) : occurrences (tx l) (tx [c]) 0 (tx l).length 1 = if c ∈ l then [plc c l] else [] := by
  rw [occ_eq, tx_len]
  have := occ_go l c l 0 rfl
  rw [Nat.sub_zero]
  show (forIn (List.range' 0 (l.length + 1)) ((#[] : Array Nat), 0) (occBody (tx l) ⟨#[c]⟩ l.length 1)).run.fst.toList = _
  rw [this]
  split <;> simp
section
variable {prog : Program} {w : World} {A : Around} {E : Value → Shared → Prop} {s : Shared} {Q : Value → Shared → Prop} {t u : Tok}
theorem index_tx {l : List Nat} {c : Nat} (hc : c ∈ l) (h : ∀ t' tk, Q (.int ((plc c l : Nat) : Int) t') { s with toks := tk }) : wpAny (model prog w) A (call (.builtin "str.index") [.str (tx l) t, .str (tx [c]) u]) Q E s :=
  SC.index (rest := []) (by rw [occ_one, if_pos hc]) (h _ _)
theorem notin_tx {l : List Nat} {c : Nat} (h : Q (.bool (decide (c ∉ l))) s) : wpAny (model prog w) A (compareOp .NotIn (.str (tx [c]) u) (.str (tx l) t)) Q E s := by
  refine PyProof.Rows.notIn_str ?_
  rw [occ_one]
  have e : (!(!(if c ∈ l then [plc c l] else []).isEmpty)) = decide (c ∉ l) := by
    by_cases hc : c ∈ l <;> simp [hc]
  rw [e]; exact h
end
section
variable {prog : Program} {w : World} {A : Around} {E : Value → Shared → Prop} {s : Shared} {h₀ : Heap} {L : Addr} {m : Str → Option Value} {news : List (Addr × Obj)} {value slice : Expr} {l : List Nat} {t : Tok}
theorem sl_m1 {uk : Tok} {Q : Value → Shared → Prop} (F : Fr h₀ L s.heap m) (N : News h₀ L s.heap news) (hk : 0 < l.length) (hl : l.length ≤ 1000)
    (h : ∀ h' t' tk, Fr h₀ L h' m → News h₀ L h' news → Q (.str (tx (l.take (l.length - 1))) t') { s with heap := h', toks := tk })
    (hs : subscripted slice false (.str (tx l) t) (.ref s.heap.objs.size) = operate [.ref s.heap.objs.size, .str (tx l) t] (getItem (.str (tx l) t) (.ref s.heap.objs.size)))
    (ht : ∀ r, letTemporaryGo value (.str (tx l) t) r = pure ()) :
    wpAny (model prog w) A (subscriptTail value slice (.str (tx l) t) (.ref s.heap.objs.size)) Q E { s with heap := s.heap.push { cls := .type "slice", data := .fields #[.none, .int (-1) uk, .none] } } :=
  slice_strN_ns_len F N (fun h' t' tk F' N' _ => by
    have e := slice_to_neg l 1 (by k_extra "li") (by k_extra "li")
    rw [show (-((1 : Nat) : Int)) = -1 from rfl] at e
    rw [e]; exact h h' t' tk F' N') hs ht (tx_size hl)
theorem it_m1 {uk : Tok} {Q : Value → Shared → Prop} (hk : 0 < l.length) (hl : l.length ≤ 1000)
    (h : ∀ t' tk, Q (.str (tx [l.getD (l.length - 1) 0]) t') { s with toks := tk })
    (hs : subscripted slice false (.str (tx l) t) (.int (-1) uk) = operate [.str (tx l) t, .int (-1) uk] (getItem (.str (tx l) t) (.int (-1) uk)))
    (ht : ∀ r, letTemporaryGo value (.str (tx l) t) r = pure ()) :
    wpAny (model prog w) A (subscriptTail value slice (.str (tx l) t) (.int (-1) uk)) Q E s :=
  it_neg (i := -1) (q := 1) rfl (by k_extra "li") (by k_extra "li") hl h hs ht
end




noncomputable def rot (c : List Nat) : List Nat := [sw (c.getD (c.length - 1) 0)] ++ c.take (c.length - 1)
noncomputable def rots : Nat → List Nat → List Nat
  | 0, c => c
  | n + 1, c => rot (rots n c)
noncomputable def rndOf (told : List Nat) (k : Nat) (cakes : List Nat) : Nat := k - plc (lo (told.getD k 0)) (cakes.map lo) + (k + 1) * (if told.getD k 0 ∈ cakes then 0 else 1)
noncomputable def hourGo (l told : List Nat) : Nat → List Nat → Nat → Nat
  | 0, _, h => h
  | k + 1, cakes, h => hourGo l told k ((rots (rndOf told k cakes) cakes).take (cakes.length - 1)) (h + rndOf told k cakes * l.getD k 1)
noncomputable def hourOk (told : List Nat) : Nat → List Nat → Prop
  | 0, _ => True
  | k + 1, cakes => lo (told.getD k 0) ∈ cakes.map lo ∧ hourOk told k ((rots (rndOf told k cakes) cakes).take (cakes.length - 1))
theorem rot_len {c : List Nat} (h : 0 < c.length) : (rot c).length = c.length := by
  unfold rot
  simp only [List.length_append, List.length_take, List.length_cons, List.length_nil]
  k_extra "li"
theorem rot_ltr {c : List Nat} (h : 0 < c.length) (hc : ∀ x ∈ c, Ltr x) : ∀ x ∈ rot c, Ltr x := by
  intro x hx
  unfold rot at hx
  simp only [List.mem_append, List.mem_cons, List.not_mem_nil, or_false] at hx
  rcases hx with rfl | hx
  · exact ltr_sw (ltr_get hc (by k_extra "li"))
  · exact hc x (List.mem_of_mem_take hx)
theorem rots_len {c : List Nat} (h : 0 < c.length) : ∀ n, (rots n c).length = c.length
  | 0 => rfl
  | n + 1 => by
    have := rots_len h n
    simp only [rots]
    rw [rot_len (by k_extra "li"), this]
theorem rots_ltr {c : List Nat} (h : 0 < c.length) (hc : ∀ x ∈ c, Ltr x) : ∀ n, ∀ x ∈ rots n c, Ltr x
  | 0 => hc
  | n + 1 => by
    have := rots_len h n
    exact rot_ltr (by k_extra "li") (rots_ltr h hc n)
theorem lower_1 {prog : Program} {w : World} {A : Around} {E : Value → Shared → Prop} {s : Shared} {Q : Value → Shared → Prop} {t : Tok} {c : Nat} (hc : Ltr c) (h : ∀ t' tk, Q (.str (tx [lo c]) t') { s with toks := tk }) : wpAny (model prog w) A (call (.builtin "str.lower") [.str (tx [c]) t]) Q E s :=
  lower_c (by intro x hx; rw [List.mem_singleton.mp hx]; exact hc) (by simp) h
end
section
theorem ints3 {vs : List Value} {a b c : Int} (h : IntsAre vs [a, b, c]) : ∃ ua ub uc, vs = [.int a ua, .int b ub, .int c uc] := by
  rcases h with _ | ⟨_, ua, h⟩
  rcases h with _ | ⟨_, ub, h⟩
  rcases h with _ | ⟨_, uc, h⟩
  rcases h
  exact ⟨_, _, _, rfl⟩
abbrev smod (x : Int) : Int := (1 - 2 * if decide (x < 0) = true then 1 else 0) * (if x < 0 then -x else x).fmod (10 ^ Int.toNat 6)
theorem sum_fmod_nn : ∀ ns : List Int, 0 ≤ (ns.map fun k => k.fmod (10 ^ Int.toNat 6)).sum
  | [] => Int.le_refl _
  | a :: r => by
    have h1 := sum_fmod_nn r
    have h2 : 0 ≤ a.fmod (10 ^ Int.toNat 6) := Int.fmod_nonneg_of_pos _ (by decide)
    simp only [List.map_cons, List.sum_cons]
    k_extra "li"

noncomputable def firstC (tot stp : Nat) (cc k : Int) : Nat := (97 - 32 * Builtin.bitAnd ((tot : Int).fdiv (2 ^ k.toNat)) 1 + (cc.fdiv 8 + stp * k).fmod 26).toNat
noncomputable def firstL (tot stp : Nat) (cc : Int) (n : Nat) : List Nat := (List.range n).map fun (k : Nat) => firstC tot stp cc (k : Int)
theorem fc_b {b r : Int} (h : b = 0 ∨ b = 1) (h2 : 0 ≤ r) (h3 : r < 26) : 0 ≤ 97 - 32 * b + r ∧ 97 - 32 * b + r ≤ 1114111 := by
  rcases h with rfl | rfl <;> k_extra "li"
theorem fc_ltr {c : Nat} {b r : Int} (h : b = 0 ∨ b = 1) (h2 : 0 ≤ r) (h3 : r < 26) (e : (c : Int) = 97 - 32 * b + r) : Ltr c := by
  unfold Ltr
  rcases h with rfl | rfl <;> k_extra "li"
theorem fc_lo {c : Nat} {b r : Int} (h : b = 0 ∨ b = 1) (h2 : 0 ≤ r) (h3 : r < 26) (e : (c : Int) = 97 - 32 * b + r) : (lo c : Int) = 97 + r := by
  unfold lo
  rcases h with rfl | rfl <;> split <;> k_extra "li"
theorem firstC_b (tot : Nat) (k : Int) : Builtin.bitAnd ((tot : Int).fdiv (2 ^ k.toNat)) 1 = 0 ∨ Builtin.bitAnd ((tot : Int).fdiv (2 ^ k.toNat)) 1 = 1 := by
  rw [PyProof.Rows.bitAnd_m1]; exact Int.emod_two_eq _
theorem firstC_bnd0 (tot stp : Nat) (cc k : Int) : 0 ≤ 97 - 32 * Builtin.bitAnd ((tot : Int).fdiv (2 ^ k.toNat)) 1 + (cc.fdiv 8 + stp * k).fmod 26 :=
  (fc_b (firstC_b tot k) (Int.fmod_nonneg_of_pos _ (by decide)) (Int.fmod_lt_of_pos _ (by decide))).1
theorem firstC_bnd1 (tot stp : Nat) (cc k : Int) : 97 - 32 * Builtin.bitAnd ((tot : Int).fdiv (2 ^ k.toNat)) 1 + (cc.fdiv 8 + stp * k).fmod 26 ≤ 1114111 :=
  (fc_b (firstC_b tot k) (Int.fmod_nonneg_of_pos _ (by decide)) (Int.fmod_lt_of_pos _ (by decide))).2
theorem firstC_eq (tot stp : Nat) (cc k : Int) : ∃ b : Int, (b = 0 ∨ b = 1) ∧ (firstC tot stp cc k : Int) = 97 - 32 * b + (cc.fdiv 8 + stp * k) % 26 := by
  refine ⟨((tot : Int).fdiv (2 ^ k.toNat)) % 2, Int.emod_two_eq _, ?_⟩
  have h1 : Builtin.bitAnd ((tot : Int).fdiv (2 ^ k.toNat)) 1 = ((tot : Int).fdiv (2 ^ k.toNat)) % 2 := PyProof.Rows.bitAnd_m1 _
  have h2 := firstC_bnd0 tot stp cc k
  unfold firstC
  rw [Int.toNat_of_nonneg h2, h1, Int.fmod_eq_emod_of_nonneg _ (by decide)]
theorem firstL_len (tot stp : Nat) (cc : Int) (n : Nat) : (firstL tot stp cc n).length = n := by simp [firstL]
theorem firstL_ltr (tot stp : Nat) (cc : Int) (n : Nat) : ∀ c ∈ firstL tot stp cc n, Ltr c := by
  intro c hc
  have hx9 := List.mem_map.mp hc
  first | (k_extra "xe3"; clear hx9; intro k _ eq9; subst eq9) | obtain ⟨k, _, rfl⟩ := hx9
  have hx9 := firstC_eq tot stp cc (k : Int)
  first | (k_extra "xe3"; clear hx9; intro b hb e) | obtain ⟨b, hb, e⟩ := hx9
  exact fc_ltr hb (Int.emod_nonneg _ (by decide)) (Int.emod_lt_of_pos _ (by decide)) e
theorem firstL_lo {tot stp : Nat} {cc : Int} {k : Nat} : (lo (firstC tot stp cc k) : Int) = 97 + (cc.fdiv 8 + stp * k) % 26 := by
  have hx9 := firstC_eq tot stp cc (k : Int)
  first | (k_extra "xe3"; clear hx9; intro b hb e) | obtain ⟨b, hb, e⟩ := hx9
  exact fc_lo hb (Int.emod_nonneg _ (by decide)) (Int.emod_lt_of_pos _ (by decide)) e
theorem firstL_nodup {stp : Nat} (tot : Nat) (cc : Int) {n : Nat} (hs : stp ∈ [1, 3, 5, 7, 9, 11, 15, 17]) (hn : n ≤ 5) : ((firstL tot stp cc n).map lo).Nodup := by
  unfold firstL
  rw [List.map_map]
  refine List.pairwise_map.mpr (List.Pairwise.imp_of_mem ?_ (List.nodup_range (n := n)))
  intro i j hi hj hne he
  have hi := List.mem_range.mp hi
  have hj := List.mem_range.mp hj
  have e : (lo (firstC tot stp cc i) : Int) = (lo (firstC tot stp cc j) : Int) := by exact_mod_cast he
  rw [firstL_lo, firstL_lo] at e
  have key : ∀ s ∈ [1, 3, 5, 7, 9, 11, 15, 17], ∀ i, i < 5 → ∀ j, j < 5 → i ≠ j → (((s : Nat) : Int) * (i : Nat)) % 26 ≠ ((s : Int) * (j : Nat)) % 26 := by decide
  exact key stp hs i (Nat.lt_of_lt_of_le hi hn) j (Nat.lt_of_lt_of_le hj hn) hne (Int.emod_add_cancel_left.mp (Int.add_left_cancel e))
theorem join_bnd (l : List Nat) (h : l.length ≤ 1000) : ((l.map fun c => tx [c]).map (·.length)).sum + (l.map fun c => tx [c]).length * (Str.ofString "").length ≤ 16777216 := by
  have e0 : (Str.ofString "").length = 0 := by decide
  have e1 : ∀ l : List Nat, ((l.map fun c => tx [c]).map (·.length)).sum = l.length := by
    intro l
    induction l with
    | nil => rfl
    | cons a r ih =>
      have h1 : (tx [a]).length = 1 := tx_len [a]
      simp only [List.map_cons, List.sum_cons, List.length_cons, ih, h1]
      k_extra "li"
  rw [e0, e1]
  k_extra "li"
theorem sjoin_tx : ∀ l : List Nat, Str.join (Str.ofString "") (l.map fun c => tx [c]) = tx l
  | [] => rfl
  | [c] => rfl
  | c :: d :: r => by
    have ih := sjoin_tx (d :: r)
    simp only [List.map_cons] at ih ⊢
    rw [Str.join, ih]
    · show Str.append (Str.append (tx [c]) (Str.ofString "")) (tx (d :: r)) = tx (c :: d :: r)
      simp [Str.append, tx]
      rfl
    · intro h; cases h
theorem join_tx (l : List Nat) : Txt.join (Str.ofString "") (l.map fun c => tx [c]) = tx l := (PySem.StrLaws.glued_eq_join _ _).trans (sjoin_tx l)
theorem imo_nat {a : Int} {y : Nat} (h : y < 2 ^ 64) : IntMulOk a (y : Int) :=
  IntMulOk.of_right (intBits_le_iff.mpr (by simpa using h))
theorem imo_natL {b : Int} {y : Nat} (h : y < 2 ^ 64) : IntMulOk (y : Int) b :=
  IntMulOk.of_left (intBits_le_iff.mpr (by simpa using h))
theorem stp_small {s : Nat} (h : s ∈ [1, 3, 5, 7, 9, 11, 15, 17]) : s < 2 ^ 64 := by
  have : ∀ s ∈ [1, 3, 5, 7, 9, 11, 15, 17], s < 2 ^ 64 := by decide
  exact this s h
theorem smod_bnd (x : Int) : -1000000 ≤ smod x ∧ smod x ≤ 1000000 := by
  have h1 : 0 ≤ (if x < 0 then -x else x).fmod (10 ^ Int.toNat 6) := Int.fmod_nonneg_of_pos _ (by decide)
  have h2 : (if x < 0 then -x else x).fmod (10 ^ Int.toNat 6) < 10 ^ Int.toNat 6 := Int.fmod_lt_of_pos _ (by decide)
  have e : (10 : Int) ^ Int.toNat 6 = 1000000 := by decide
  unfold smod
  generalize (if x < 0 then -x else x).fmod (10 ^ Int.toNat 6) = y at *
  rw [e] at h2
  split <;> k_extra "li"
theorem hour_bnd (x : Int) (y : Nat) (hy : y ≤ 3840) : -4000000000 ≤ smod x * (y : Int) ∧ smod x * (y : Int) ≤ 4000000000 := by
  have hx9 := smod_bnd x
  first | (k_extra "xe2"; clear hx9; intro h1 h2) | obtain ⟨h1, h2⟩ := hx9
  have a1 : smod x * (y : Int) ≤ 1000000 * (y : Int) := Int.mul_le_mul_of_nonneg_right h2 (by k_extra "li")
  have a2 : -1000000 * (y : Int) ≤ smod x * (y : Int) := Int.mul_le_mul_of_nonneg_right h1 (by k_extra "li")
  exact ⟨Int.le_trans (by k_extra "li") a2, Int.le_trans a1 (by k_extra "li")⟩
noncomputable def hoursL (hr w : Int) : List Int := if w = 0 then [hr - 1, hr, hr + 1, hr + 2] else [hr + 2, hr + 1, hr, hr - 1]
theorem hoursL_mem (hr w : Int) (i : Nat) : (hoursL hr w).getD i 0 = hr - 1 ∨ (hoursL hr w).getD i 0 = hr ∨ (hoursL hr w).getD i 0 = hr + 1 ∨ (hoursL hr w).getD i 0 = hr + 2 ∨ (hoursL hr w).getD i 0 = 0 := by
  unfold hoursL
  split <;> rcases i with _ | _ | _ | _ | _ <;> simp [List.getD]
noncomputable def toldOf (F : List Nat) (hour : Int) : List Nat := toldGo (lapsL F.length) F.length (hour % ((lapsL F.length).getD F.length 1 : Nat)).toNat F
theorem toldGo_ok (l : List Nat) {n : Nat} : ∀ (k : Nat) (r : Nat) (t : List Nat), t.length = n → k ≤ n → (∀ c ∈ t, Ltr c) → (toldGo l k r t).length = n ∧ ∀ c ∈ toldGo l k r t, Ltr c
  | 0, _, t, h1, _, h3 => ⟨h1, h3⟩
  | k + 1, r, t, h1, h2, h3 => by
    simp only [toldGo]
    exact toldGo_ok l k _ _ (by rw [rnds_len (by k_extra "li") (by k_extra "li")]; exact h1) (by k_extra "li") (rnds_ltr (by k_extra "li") (by k_extra "li") h3 _)
theorem toldOf_len {F : List Nat} (h : ∀ c ∈ F, Ltr c) (x : Int) : (toldOf F x).length = F.length := (toldGo_ok _ _ _ _ rfl (Nat.le_refl _) h).1
theorem toldOf_ltr {F : List Nat} (h : ∀ c ∈ F, Ltr c) (x : Int) : ∀ c ∈ toldOf F x, Ltr c := (toldGo_ok _ _ _ _ rfl (Nat.le_refl _) h).2
theorem ltr_128 {l : List Nat} (h : ∀ c ∈ l, Ltr c) : ∀ c ∈ l, c < 128 := fun c hc => Nat.lt_trans (ltr_lt (h c hc)) (by decide)
theorem tl_get {hs : List Int} {F : List Nat} {i : Nat} (hi : i < hs.length) : (hs.map (toldOf F)).getD i [] = toldOf F (hs.getD i 0) := by
  simp [List.getD, hi]
theorem hoursL_len (hr w : Int) : (hoursL hr w).length = 4 := by unfold hoursL; split <;> rfl
noncomputable def laterOf (hs : List Int) (i : Nat) : Int := if hs.getD (i + 1) 0 > hs.getD i 0 then hs.getD (i + 1) 0 else hs.getD i 0
noncomputable def flipK (k : Nat) (t : List Nat) : List Nat := (t.take k).reverse.map sw ++ t.drop k
structure TurnOk (n : Nat) (B H : List Nat) (later : Int) (K : Nat) : Prop where
  k1 : 1 ≤ K
  k2 : K ≤ n
  lB : B.length = n
  lH : H.length = n
  ltrB : ∀ c ∈ B, Ltr c
  ltrH : ∀ c ∈ H, Ltr c
  flip : H = flipK K B
  far : pyLev B H (2 * (n : Int)) = ((2 * K - K % 2 : Nat) : Int)
  rev : pyLev B.reverse H.reverse (((2 * K - K % 2 : Nat) : Int) - 1) = ((2 * K - K % 2 : Nat) : Int)
  dvd : ∀ j, j < n → (later % ((lapsL n).getD j 1 : Nat) = 0 ↔ j < K)
end
section
theorem lapsL_at {c k : Nat} (hc : c ≤ 5) (hk : k ≤ c) : ((lapsL c).map fun (x : Nat) => (x : Int)).getD k 0 = (((lapsL c).getD k 1 : Nat) : Int) ∧ 0 < (lapsL c).getD k 1 ∧ (lapsL c).getD k 1 ≤ 3840 := by
  have : ∀ c, c < 6 → ∀ k, k < c + 1 → ((lapsL c).map fun (x : Nat) => (x : Int)).getD k 0 = (((lapsL c).getD k 1 : Nat) : Int) ∧ 0 < (lapsL c).getD k 1 ∧ (lapsL c).getD k 1 ≤ 3840 := by decide
  exact this c (by k_extra "li") k (by k_extra "li")
theorem told_c (w : World) (loose : List Str) (mean : ExcName → Option Value) (mg mb : Str → Option Value) : ∀ (own1 own2 news : CbLed) (hour : Int) (th : Tok) (first : List Nat) (tf : Tok) (D : Addr) (ul : List Value) (kk : Nat), 3 ≤ first.length → first.length ≤ 5 → (∀ c ∈ first, Ltr c) → -(2 ^ 40) < hour → hour < 2 ^ 40 → IntsAre ul ((lapsL first.length).map fun (x : Nat) => (x : Int)) → Tbs own1 own2 ((D, listOf ul.toArray kk) :: news) →
   ClB CdH PySem.Challenge.rw_sr0059_01.row.prog w (K39 w.params) topProg loose mean mg mb 168 100 1900 (own1 ++ (own2 ++ ((D, listOf ul.toArray kk) :: news))) [.int hour th, .str (tx first) tf, .ref D]
     (fun r nx => ∃ (t : Tok) (own1' own2' : CbLed), r = .str (tx (toldGo (lapsL first.length) first.length (hour % ((lapsL first.length).getD first.length 1 : Nat)).toNat first)) t ∧ nx = own1' ++ (own2' ++ ((D, listOf ul.toArray kk) :: news)) ∧ TbsR own1 own2 own1' own2' ((D, listOf ul.toArray kk) :: news)) := by
  k_fill
  intro own1 own2 news hour th first tf D ul kk hc1 hc2 hltr hh1 hh2 hI hT
  refine ClB.mk ?_
  intro dp un gd cn cs ca ccd cl outer A₀ base h₀ L m s Q E kP kB kF kX kN kT kcs kd ku hret
  refine wpAny_call ?_
  k_extra "enter"
  intro g L1 h1 FG F0 N B X T
  dsimp only
  refine noE ?_
  k_fold
  try k_gentoks
  have hx9 : Loc g L1 h1 [("laps", .ref D), ("first", .str (tx first) tf), ("hour", .int hour th)] := loc F0 (by k_extra "kn_all")
  first | (k_extra "xe2"; clear hx9; intro r1 F) | obtain ⟨r1, F⟩ := hx9
  clear F0
  have hll : ((lapsL first.length).map fun (x : Nat) => (x : Int)).length = first.length + 1 := by
    simp [lapsL]; k_extra "li"
  replace N := News.perm N (news' := (D, listOf ul.toArray kk) :: (own1 ++ (own2 ++ news))) (by k_extra "psub")
  have hx9 := lapsL_at hc2 (Nat.le_refl first.length)
  first | (k_extra "xe3"; clear hx9; intro l1 l2 l3) | obtain ⟨l1, l2, l3⟩ := hx9
  generalize hlast : (lapsL first.length).getD first.length 1 = last at *
  refine seqQ (fun h => ∃ (t : Tok) (own1' own2' : CbLed), Loc g L1 h [("rest", .int (((hour % (last : Int)).toNat : Nat) : Int) t), ("laps", .ref D), ("first", .str (tx first) tf)] ∧ News g L1 h ((D, listOf ul.toArray kk) :: (own1' ++ (own2' ++ news))) ∧ TbsR own1 own2 own1' own2' ((D, listOf ul.toArray kk) :: news)) ?_ ?_
  · intro Qn hN hRt
    k_extra "ks"
    rw [hll, show ((-1 : Int) + ((first.length + 1 : Nat) : Int)).toNat = first.length from by k_extra "li", l1]
    replace N := News.perm N (news' := own1 ++ (own2 ++ ((D, listOf ul.toArray kk) :: news))) (by k_extra "psub")
    (k_dflt (refine' ClB.use (idmP_c _ _ _ _ _ own1 own2 ((D, listOf ul.toArray kk) :: news) _ _ _ _ ?q1 ?q2 ?q3 ?q4 ?q5) ?k0 ?k1 ?k2 ?k3 ?k4 ?k5 ?kK ?kd ?ku ?_; k_extra "clb_use"))
    case q1 => exact hh1
    case q2 => exact hh2
    case q3 => exact l2
    case q4 => exact Nat.lt_of_le_of_lt l3 (by decide)
    case q5 => exact hT
    intro r nx h2 tk2 F2 N2 hR
    first | (revert hR; intro hx9; k_extra "xe9"; clear hx9; intro T2 t1 t2 own1' own2' e1 e2 hT' lT) | obtain ⟨T2, t1, t2, own1', own2', e1, e2, hT', lT⟩ := hR
    subst e1
    subst e2
    dsimp only
    k_extra "ks"
    refine hN _ _ ⟨t2, own1', own2', ?_, News.perm (by assumption) (by k_extra "psub"), hT'⟩
    rw [Int.toNat_of_nonneg (Int.emod_nonneg _ (by k_extra "li"))]
    k_extra "lo"
  intro h2 tk2 hP
  first | (revert hP; intro hx9; k_extra "xe6"; clear hx9; intro t2 own1' own2' hx9; (first | (k_extra "xq2"; clear hx9; intro r2 F2) | obtain ⟨r2, F2⟩ := hx9); intro N2 hT2) | obtain ⟨t2, own1', own2', ⟨r2, F2⟩, N2, hT2⟩ := hP
  clear F N
  dsimp only
  have hrest : (hour % (last : Int)).toNat ≤ 3840 := by
    have := Int.emod_lt_of_pos hour (show (0 : Int) < last by k_extra "li")
    k_extra "li"
  generalize (hour % (last : Int)).toNat = rest0 at *
  refine seqQ (fun h => ∃ (t : Tok), Loc g L1 h [("told", .str (tx first) tf), ("rest", .int (rest0 : Int) t), ("laps", .ref D), ("first", .str (tx first) tf)] ∧ News g L1 h ((D, listOf ul.toArray kk) :: (own1' ++ (own2' ++ news)))) ?_ ?_
  · intro Qn hN hRt
    k_extra "ks"
    exact hN _ _ ⟨_, by k_extra "lo", by assumption⟩
  intro h3 tk3 hP
  first | (revert hP; intro hx9; k_extra "xe3"; clear hx9; intro t3 hx9; (first | (k_extra "xq2"; clear hx9; intro r3 F3) | obtain ⟨r3, F3⟩ := hx9); intro N3) | obtain ⟨t3, ⟨r3, F3⟩, N3⟩ := hP
  clear F2 N2
  dsimp only
  refine seqQ (fun h => ∃ (t : Tok), Loc g L1 h [("told", .str (tx (toldGo (lapsL first.length) first.length rest0 first)) t)] ∧ News g L1 h ((D, listOf ul.toArray kk) :: (own1' ++ (own2' ++ news)))) ?_ ?_
  · intro Qn hN hRt
    k_extra "kfor"
    refine forDown (σ := List Nat × Nat × Tok × Tok) (fun c => (D, listOf ul.toArray kk) :: (own1' ++ (own2' ++ news))) (fun c => [("told", .str (tx c.1) c.2.2.1), ("rest", .int (c.2.1 : Int) c.2.2.2), ("laps", .ref D), ("first", .str (tx first) tf)])
      (fun i c => c.1.length = first.length ∧ (∀ x ∈ c.1, Ltr x) ∧ c.2.1 ≤ 3840 ∧ toldGo (lapsL first.length) first.length rest0 first = toldGo (lapsL first.length) (first.length - i) c.2.1 c.1) (first, rest0, tf, t3) rfl (by assumption) rfl rfl rfl (by k_extra "li") (by assumption) (by assumption) ?_ ?_ ?_ ?_
    · k_extra "kn_all"
    · exact ⟨rfl, hltr, hrest, rfl⟩
    · intro hx9
      first | (k_extra "xq4"; clear hx9; intro told rest tt tr) | obtain ⟨told, rest, tt, tr⟩ := hx9
      intro i ti rr h4 tk4 own hin hoff hx9
      first | (k_extra "xq4"; clear hx9; intro hl1 hl2 hr1 heq) | obtain ⟨hl1, hl2, hr1, heq⟩ := hx9
      intro F4 N4
      dsimp only at *
      have F4' : Fr g L1 h4 _ := F4
      have N4' : News g L1 h4 _ := N4
      clear F4 N4; try k_sweep
      have hx9 := lapsL_at (c := first.length) (k := first.length - i - 1) hc2 nt_predle
      first | (k_extra "xe3"; clear hx9; intro m1 m2 m3) | obtain ⟨m1, m2, m3⟩ := hx9
      have hk1 : 0 < first.length - i := Nat.sub_pos_of_lt hin
      have hkl : first.length - i ≤ told.length := by rw [hl1]; exact Nat.sub_le _ _
      have xa : first.length - i - 1 < ((lapsL first.length).map fun (x : Nat) => (x : Int)).length := by rw [hll]; exact Nat.lt_succ_of_le nt_predle
      have xb : first.length - i - 1 ≤ 1000 := Nat.le_trans nt_predle (Nat.le_trans hc2 (by decide))
      have xc : first.length - i ≤ 1000 := Nat.le_trans (Nat.sub_le _ _) (Nat.le_trans hc2 (by decide))
      have hT3 : Tbs own1' own2' ((D, listOf ul.toArray kk) :: (news ++ own)) := by
        first | (revert hT2; intro hx9; k_extra "xe2"; clear hx9; intro hx9; (first | (k_extra "xq4"; clear hx9; intro a1 a2 a3 a4) | obtain ⟨a1, a2, a3, a4⟩ := hx9); intro _) | obtain ⟨⟨a1, a2, a3, a4⟩, _⟩ := hT2
        refine ⟨Or.inr a1, Or.inr a2, ?_, ?_⟩
        · intro p hp q hq
          rcases List.mem_append.mp hq with hq | hq
          · exact a3 p hp q (List.mem_append_left _ hq)
          · rcases List.mem_cons.mp hq with rfl | hq
            · exact a3 p hp _ (List.mem_append_right _ (.head _))
            · rcases List.mem_append.mp hq with hq | hq
              · exact a3 p hp q (List.mem_append_right _ (.tail _ hq))
              · exact hoff q hq p.1 (List.mem_map_of_mem (List.mem_cons_of_mem _ (List.mem_append_left _ hp)))
        · intro p hp q hq
          rcases List.mem_cons.mp hq with rfl | hq
          · exact a4 p hp _ (.head _)
          · rcases List.mem_append.mp hq with hq | hq
            · exact a4 p hp q (.tail _ hq)
            · exact hoff q hq p.1 (List.mem_map_of_mem (List.mem_cons_of_mem _ (List.mem_append_right _ (List.mem_append_left _ hp))))
      refine seqQ (fun h => ∃ (t t' : Tok), Loc g L1 h [("rounds", .int ((rest / (lapsL first.length).getD (first.length - i - 1) 1 : Nat) : Int) t'), ("rest", .int ((rest % (lapsL first.length).getD (first.length - i - 1) 1 : Nat) : Int) t), ("k", .int ((first.length - i : Nat) : Int) ti), ("told", .str (tx told) tt), ("laps", .ref D), ("first", .str (tx first) tf)] ∧ News g L1 h ((D, listOf ul.toArray kk) :: (own1' ++ (own2' ++ news)) ++ own)) ?_ ?_
      · intro Qn hN hRt
        k_extra "ks"
        rw [Int.toNat_natCast, m1]
        replace N4' := News.perm N4' (news' := own1' ++ (own2' ++ ((D, listOf ul.toArray kk) :: (news ++ own)))) (by k_extra "psub")
        (k_dflt (refine' ClB.use (idmN_c _ _ _ _ _ own1' own2' ((D, listOf ul.toArray kk) :: (news ++ own)) _ _ _ _ ?q1 ?q2 ?q3 ?q4) ?k0 ?k1 ?k2 ?k3 ?k4 ?k5 ?kK ?kd ?ku ?_; k_extra "clb_use"))
        case q1 => k_extra "li"
        case q2 => exact m2
        case q3 => k_extra "li"
        case q4 => exact hT3
        intro r nx h5 tk5 F5 N5 hR
        first | (revert hR; intro hx9; k_extra "xe9"; clear hx9; intro T5 t5 t5' o1 o2 e1 e2 hx9; (first | (k_extra "xq3"; clear hx9; intro hTm s1 s2) | obtain ⟨hTm, s1, s2⟩ := hx9); intro lT) | obtain ⟨T5, t5, t5', o1, o2, e1, e2, ⟨hTm, s1, s2⟩, lT⟩ := hR
        subst e1
        subst e2
        have s1' := s1 hT2.1.1
        have s2' := s2 hT2.1.2.1
        subst s1'
        subst s2'
        dsimp only
        k_extra "ks"
        exact hN _ _ ⟨_, _, by k_extra "lo", News.perm (by assumption) (by k_extra "psub")⟩
      intro h5 tk5 hP
      first | (revert hP; intro hx9; k_extra "xe4"; clear hx9; intro t5 t5' hx9; (first | (k_extra "xq2"; clear hx9; intro r5 F5) | obtain ⟨r5, F5⟩ := hx9); intro N5) | obtain ⟨t5, t5', ⟨r5, F5⟩, N5⟩ := hP
      clear F4' N4'
      dsimp only
      have hrr : rest / (lapsL first.length).getD (first.length - i - 1) 1 ≤ 3840 := Nat.le_trans (Nat.div_le_self _ _) hr1
      have hrm : rest % (lapsL first.length).getD (first.length - i - 1) 1 ≤ 3840 := Nat.le_trans (Nat.mod_le _ _) hr1
      have hgo : toldGo (lapsL first.length) (first.length - i) rest told = toldGo (lapsL first.length) (first.length - (i + 1)) (rest % (lapsL first.length).getD (first.length - i - 1) 1) (rnds (first.length - i) (rest / (lapsL first.length).getD (first.length - i - 1) 1) told) := by
        rw [nt_pred hin]
        simp only [toldGo]
        rw [Nat.sub_add_eq]
        rfl
      generalize rest / (lapsL first.length).getD (first.length - i - 1) 1 = rds at *
      generalize rest % (lapsL first.length).getD (first.length - i - 1) 1 = rst at *
      k_extra "kfor"
      refine forRange0 (σ := List Nat × Tok) (fun c => (D, listOf ul.toArray kk) :: (own1' ++ (own2' ++ news)) ++ own) (fun c => [("told", .str (tx c.1) c.2), ("rest", .int (rst : Int) t5), ("k", .int ((first.length - i : Nat) : Int) ti), ("laps", .ref D), ("first", .str (tx first) tf)])
        (fun j c => c.1 = rnds (first.length - i) j told) (told, tt) rfl (by assumption) rfl (by k_extra "li") (by assumption) (by assumption) ?_ ?_ ?_ ?_
      · k_extra "kn_all"
      · rfl
      · intro hx9
        first | (k_extra "xq2"; clear hx9; intro td ttd) | obtain ⟨td, ttd⟩ := hx9
        intro j tj rr2 h6 tk6 own2x hjn hoff2 hinv F6 N6
        dsimp only at *
        have F6' : Fr g L1 h6 _ := F6
        have N6' : News g L1 h6 _ := N6
        clear F6 N6; try k_sweep
        have htl : td.length = first.length := by rw [hinv, rnds_len hk1 hkl]; exact hl1
        have htr : ∀ x ∈ td, Ltr x := by rw [hinv]; exact rnds_ltr hk1 hkl hl2 j
        have hc0 : 0 < first.length := Nat.lt_of_lt_of_le (by decide) hc1
        have ht1 : td.length ≤ 1000 := by rw [htl]; exact Nat.le_trans hc2 (by decide)
        have ht4 : first.length - i ≤ td.length := by rw [htl]; exact Nat.sub_le _ _
        have ht5 : first.length - i - 1 < td.length := by rw [htl]; exact nt_predlt hc0
        have ht6 : first.length - i - 1 ≤ td.length := Nat.le_of_lt ht5
        have ht7 : 0 + 1 + min (first.length - i - 1) td.length ≤ 1000000 := by rw [Nat.min_eq_left ht6, Nat.zero_add, Nat.add_comm]; exact Nat.le_trans ht5 (Nat.le_trans ht1 (by decide))
        have ht8 : 0 + 1 + min (first.length - i - 1) td.length + (td.length - (first.length - i)) ≤ 1000000 := by rw [nt_rnd hk1 ht4]; exact Nat.le_trans ht1 (by decide)
        k_extra "ks"
        refine turnEnd ⟨rnd (first.length - i) td, _⟩ (by assumption) (by assumption) rfl (by simp) (by k_extra "kn_all") ?_
        show rnd _ td = rnds _ (j + 1) told
        rw [hinv]
        rfl
      · intro hx9
        first | (k_extra "xq2"; clear hx9; intro td ttd) | obtain ⟨td, ttd⟩ := hx9
        intro rr2 h6 tk6 hinv F6 N6
        dsimp only at *
        k_extra "ks"
        refine turnEnd ⟨td, rst, _, _⟩ (by assumption) (by assumption) rfl (by simp) (by k_extra "kn_all") ⟨?_, ?_, hrm, ?_⟩
        · show td.length = _
          rw [hinv, rnds_len hk1 hkl]; exact hl1
        · show ∀ x ∈ td, Ltr x
          rw [hinv]; exact rnds_ltr hk1 hkl hl2 _
        · show _ = toldGo _ _ rst td
          rw [hinv, heq, hgo]
    · intro hx9
      first | (k_extra "xq4"; clear hx9; intro told rest tt tr) | obtain ⟨told, rest, tt, tr⟩ := hx9
      intro rr h4 tk4 hx9
      first | (k_extra "xq4"; clear hx9; intro hl1 hl2 hr1 heq) | obtain ⟨hl1, hl2, hr1, heq⟩ := hx9
      intro F4 N4
      dsimp only at *
      rw [Nat.sub_self] at heq
      refine hN _ _ ?_
      rw [heq]
      exact ⟨_, by k_extra "lo", N4⟩
  intro h4 tk4 hP
  first | (revert hP; intro hx9; k_extra "xe3"; clear hx9; intro t4 hx9; (first | (k_extra "xq2"; clear hx9; intro r4 F4) | obtain ⟨r4, F4⟩ := hx9); intro N4) | obtain ⟨t4, ⟨r4, F4⟩, N4⟩ := hP
  clear F3 N3
  dsimp only
  k_extra "ks"
  exact hret _ _ _ _ (by assumption) (News.perm (by assumption) (by k_extra "psub")) ⟨_, own1', own2', rfl, rfl, hT2⟩
end
section
section
variable {prog : Program} {w : World} {A : Around} {h₀ : Heap} {L : Addr} {m : Str → Option Value} {env : Env} {elt : Expr} {x : Str} {scope : Scope} {cl : List (Str × Addr)} {s : Shared} {S : List (Addr × Obj) → Prop} {P : Nat → Value → Prop} {Fin : List Value → List (Addr × Obj) → Prop} {news : List (Addr × Obj)}
theorem compL {n : Nat} (J : Nat → List Value → List (Addr × Obj) → Prop) (h0 : J 0 [] news)
    (turn : ∀ i v I oI C oC D m₂ ys nx h tk (E' : Value → Shared → Prop), i < n → P i v → J i ys nx → LCg.NsObj oC m₂ → m₂ x = some v → Fr h₀ L h m → News h₀ L h ((I, oI) :: (C, oC) :: (D, LCg.lst ys) :: nx) → LCg.Off3 I C D nx → ((@Ne Nat I C) ∧ (@Ne Nat I D) ∧ (@Ne Nat C D)) →
      wpAny (model prog w) A (eval elt (compEnvC scope cl C env)) (LCg.CompEnd h₀ L m { s with heap := h, toks := tk } I oI C oC D (LCg.lst ys) S (fun y news' => J (i + 1) (ys ++ [y]) news')) E' { s with heap := h, toks := tk })
    (fin : ∀ ys nx, J n ys nx → Fin ys nx) : LCg.CompRest prog w A h₀ L m env elt x scope cl s S P Fin n 0 [] news := by
  have key : ∀ (j i : Nat) (ys : List Value) (nx : List (Addr × Obj)), i + j = n → J i ys nx → LCg.CompRest prog w A h₀ L m env elt x scope cl s S P Fin j i ys nx := by
    intro j
    induction j with
    | zero =>
      intro i ys nx hi hy
      obtain rfl : i = n := by k_extra "li"
      exact LCg.CompRest.zero (fin ys nx hy)
    | succ j ih =>
      intro i ys nx hi hy
      refine LCg.CompRest.succ ?_
      intro v I oI C oC D m₂ h tk E' hv hC hx F N off ne
      refine wpAny_mono (turn i v I oI C oC D m₂ ys nx h tk E' (by k_extra "li") hv hy hC hx F N off ne) (fun y s₂ hq => ?_) fun _ _ e => e
      first | (revert hq; intro hx9; k_extra "xe9"; clear hx9; intro h' tk' nw e F' N' off' hS hr) | obtain ⟨h', tk', nw, e, F', N', off', hS, hr⟩ := hq
      exact ⟨h', tk', nw, e, F', N', off', hS, ih (i + 1) _ _ (by k_extra "li") hr⟩
  exact key n 0 [] news (by k_extra "li") h0
end
section
variable {prog : Program} {w : World} {A : Around} {E : Value → Shared → Prop} {s : Shared} {env : Env}
theorem seqS {st : Stmt} {rest : List Stmt} {Q : Flow → Shared → Prop} (P : Shared → Prop)
    (h : wpAny (model prog w) A (exec st env) (fun f s' => (f = .next ∧ P s') ∨ (∃ v, f = .ret v ∧ Q (.ret v) s')) E s)
    (k : ∀ s', P s' → wpAny (model prog w) A (execs rest env) Q E s') :
    wpAny (model prog w) A (execs (st :: rest) env) Q E s := by
  refine wpAny_execs_cons (wpAny_mono h (fun f s' hf => ?_) fun _ _ x => x)
  rcases hf with ⟨rfl, hp⟩ | ⟨v, rfl, hq⟩
  · exact k s' hp
  · exact hq
noncomputable def TurnG (I : Shared → Prop) (Q : Flow → Shared → Prop) (f : Flow) (s₂ : Shared) : Prop :=
  match f with
  | .next | .cont => I s₂
  | .ret v => Q (.ret v) s₂
  | .brk => Q .next s₂
end
section
variable {prog : Program} {w : World} {A : Around} {s : Shared} {env : Env} {h₀ : Heap}
noncomputable def RGat (prog : Program) (w : World) (A : Around) (h₀ : Heap) (env : Env) (x : Str) (body : List Stmt) (Q : Flow → Shared → Prop) (n : Nat) (J : Nat → (Str → Option Value) → List (Addr × Obj) → Prop) (xv : Value) (s₁ : Shared) : Prop :=
  ∃ (r : Addr) (t₀ u₀ v₀ : Tok) (b₀ : Int) (m : Str → Option Value) (nx : List (Addr × Obj)), xv = .ref r ∧ A.handled = none ∧ IsRange s₁.heap r 0 b₀ 1 t₀ u₀ v₀ ∧ b₀ = (n : Int) ∧ n ≤ 1000 ∧ Fr h₀ env.locals s₁.heap m ∧ News h₀ env.locals s₁.heap nx ∧ AllBare s₁.gens ∧ J 0 m nx ∧
    (∀ (i : Nat) (t : Tok) (m₁ : Str → Option Value) (nx₁ : List (Addr × Obj)) (s₂ : Shared) (I : Addr) (oI : Obj), i < n → J i m₁ nx₁ → s₂.os = s₁.os → AllBare s₂.gens → Fr h₀ env.locals s₂.heap (fun y => if y = x then some (.int (i : Int) t) else m₁ y) → News h₀ env.locals s₂.heap ((I, oI) :: nx₁) → oI.cls = .type "range_iterator" → (∀ q ∈ nx₁, q.1 ≠ I) →
      wpAny (model prog w) A (execs body env) (TurnG (fun s₃ => ∃ m₃ nx₃, Fr h₀ env.locals s₃.heap m₃ ∧ News h₀ env.locals s₃.heap ((I, oI) :: nx₃) ∧ (∀ q ∈ nx₃, q.1 ≠ I) ∧ AllBare s₃.gens ∧ s₃.os = s₁.os ∧ J (i + 1) m₃ nx₃) Q) NoE s₂) ∧
    (∀ (m₁ : Str → Option Value) (nx₁ : List (Addr × Obj)) (s₂ : Shared), J n m₁ nx₁ → s₂.os = s₁.os → AllBare s₂.gens → Fr h₀ env.locals s₂.heap m₁ → News h₀ env.locals s₂.heap nx₁ → Q .next s₂)
theorem forRG {Q : Flow → Shared → Prop} {x : Str} {px pos : Pos} {iter : Expr} {body : List Stmt} (h₀ : Heap) (n : Nat) (J : Nat → (Str → Option Value) → List (Addr × Obj) → Prop) (hx : env.kindOf x = some .local)
    (hp : (env.scope.kind == .class || (env.scope.kind == .module && env.locals != env.globals)) = false)
    (h : wpAny (model prog w) A (eval iter env) (fun xv s₁ => RGat prog w A h₀ env x body Q n J xv s₁) NoE s)
    (hs : ∀ x, foldedSetIterable iter env x = pure x) :
    wpAny (model prog w) A (exec (.For (.Name x px) iter body [] pos) env) Q NoE s := by
  have hE : PassesOwn (model prog w) A env NoE := by passes_own
  refine wpAny_For (wpAny_mono h (fun xv s₁ h₁ => ?_) fun _ _ e => e) hs
  obtain ⟨r, t₀, u₀, v₀, b₀, m, nx, rfl, hh, hr, rfl, hn, F, N, G, h0, turn, done⟩ := h₁
  refine wpAny_pyIter_range hr (small_one (by k_extra "li") (by k_extra "li") (by k_extra "li") (by k_extra "li")) ?_
  have hsz : Builtin.Range.rangeSize 0 (n : Int) 1 = (n : Int) := by rw [rangeSize_one]; split <;> k_extra "li"
  rw [hsz]
  generalize hIr : s₁.heap.objs.size = Ir
  have W : Walks prog w A Ir [Ir] [Ir] n (fun i v => ∃ t, v = .int ((0 : Int) + i * 1) t) (fun i h => IsRangeIter h Ir ((0 : Int) + (i : Nat) * 1) ((n : Int) - (i : Nat)) 1) := Walks.range hh Ir 0 1 n
  have hI₀ : h₀.get? Ir = none := by rw [← hIr]; exact next_is_new F
  have hIL : Ir ≠ env.locals := by rw [← hIr]; exact fun e => absurd F.ns.lt (e ▸ Nat.lt_irrefl _)
  refine codeAny_forLoop
    (fun k s' => ∃ i m' nx', i ≤ n ∧ k = n + 1 - i ∧ IsRangeIter s'.heap Ir ((0 : Int) + (i : Nat) * 1) ((n : Int) - (i : Nat)) 1 ∧ Fr h₀ env.locals s'.heap m' ∧ News h₀ env.locals s'.heap nx' ∧ (∀ q ∈ nx', q.1 ≠ Ir) ∧ AllBare s'.gens ∧ s'.os = s₁.os ∧ J i m' nx') ?_ (n + 1)
    ⟨0, m, nx, Nat.zero_le _, rfl, ?_, F.push _, fun p hp => ⟨Heap.get?_push_of_some _ (N p hp).1, (N p hp).2⟩, fun q hq e => ?_, G, rfl, h0⟩
  · intro k s' hx9
    first | (k_extra "xq12"; clear hx9; intro i m' nx' hi eq9; subst eq9; intro hst' F' N' off' G' hos hJ) | obtain ⟨i, m', nx', hi, rfl, hst', F', N', off', G', hos, hJ⟩ := hx9
    have old : ∀ b o, h₀.get? b = some o → b ∉ [Ir] := fun b o e hb => by rw [List.mem_singleton.mp hb, hI₀] at e; cases e
    have next : ∀ h₁ : Heap, (∀ b o, b ∉ [Ir] → s'.heap.get? b = some o → h₁.get? b = some o) → Fr h₀ env.locals h₁ m' ∧ News h₀ env.locals h₁ nx' := fun h₁ hk₁ =>
      ⟨⟨F'.ns.at' fun o e => hk₁ _ o (fun q => hIL (List.mem_singleton.mp q).symm) e, fun b o e => hk₁ b o (old b o e) (F'.keep b o e), F'.above⟩, fun p hp => ⟨hk₁ _ _ (fun q => off' p hp (List.mem_singleton.mp q)) (N' p hp).1, (N' p hp).2⟩⟩
    by_cases hlt : i < n
    · refine W.item i s' _ _ hlt hst' fun v h₁ tk₁ hP hst₁ hk₁ => ?_
      first | (revert hP; intro hx9; k_extra "xe2"; clear hx9; intro t eq9; subst eq9) | obtain ⟨t, rfl⟩ := hP
      have hx9 := next h₁ hk₁
      first | (k_extra "xe2"; clear hx9; intro F₁ N₁) | obtain ⟨F₁, N₁⟩ := hx9
      refine wpAny_assign_Name (wpAny_storeName_local hx F₁.ns (fun h₂ hn₂ hs₂ => ?_) hp)
      have F₂ := F₁.set hn₂ hs₂
      have hst₂ : IsRangeIter h₂ Ir ((0 : Int) + ((i + 1 : Nat) : Int) * 1) ((n : Int) - ((i + 1 : Nat) : Int)) 1 := W.frame _ _ _ hst₁ fun b hb o e => (hs₂.2 b fun q => hIL (by rw [← List.mem_singleton.mp hb]; exact q)).trans e
      have e1 : (0 : Int) + (i : Int) * 1 = (i : Int) := by k_extra "li"
      rw [e1] at F₂
      have N₂ : News h₀ env.locals h₂ ((Ir, _) :: nx') := fun p hp => by
        rcases List.mem_cons.mp hp with rfl | hp
        · exact ⟨hst₂, hIL, hI₀⟩
        · exact (N₁.set hs₂) p hp
      refine wpAny_passesOwn hE (wpAny_mono (turn i t m' nx' _ Ir _ hlt hJ (by exact hos) (by exact G') F₂ N₂ rfl off') (fun f s₃ h₃ => ?_) fun _ _ e => e)
      have fin : (∃ m₃ nx₃, Fr h₀ env.locals s₃.heap m₃ ∧ News h₀ env.locals s₃.heap ((Ir, { cls := .type "range_iterator", dict := none, data := .fields #[rawInt ((0 : Int) + ((i + 1 : Nat) : Int) * 1), rawInt ((n : Int) - ((i + 1 : Nat) : Int)), rawInt 1], slots := #[] }) :: nx₃) ∧ (∀ q ∈ nx₃, q.1 ≠ Ir) ∧ AllBare s₃.gens ∧ s₃.os = s₁.os ∧ J (i + 1) m₃ nx₃) →
          ∃ k', k' < n + 1 - i ∧ ∃ i' m' nx', i' ≤ n ∧ k' = n + 1 - i' ∧ IsRangeIter s₃.heap Ir ((0 : Int) + (i' : Nat) * 1) ((n : Int) - (i' : Nat)) 1 ∧ Fr h₀ env.locals s₃.heap m' ∧ News h₀ env.locals s₃.heap nx' ∧ (∀ q ∈ nx', q.1 ≠ Ir) ∧ AllBare s₃.gens ∧ s₃.os = s₁.os ∧ J i' m' nx' := by
        intro hx9
        first | (k_extra "xq8"; clear hx9; intro m₃ nx₃ F₃ N₃ ni G₃ os₃ J₃) | obtain ⟨m₃, nx₃, F₃, N₃, ni, G₃, os₃, J₃⟩ := hx9
        refine ⟨n + 1 - (i + 1), by k_extra "li", i + 1, m₃, nx₃, hlt, rfl, (N₃ _ (.head _)).1, F₃, fun p hp => N₃ p (.tail _ hp), fun q hq e => ?_, G₃, os₃, J₃⟩
        exact ni q hq e
      cases f with
      | ret v => exact h₃
      | brk => exact h₃
      | next => exact fin h₃
      | cont => exact fin h₃
    · have hin : i = n := by k_extra "li"
      subst hin
      refine W.done s' _ _ hst' fun h₁ tk₁ hk₁ => wpAny_execs_nil ?_
      have hx9 := next h₁ hk₁
      first | (k_extra "xe2"; clear hx9; intro F₁ N₁) | obtain ⟨F₁, N₁⟩ := hx9
      exact done m' nx' _ hJ (by exact hos) (by exact G') F₁ N₁
  · show IsRangeIter _ _ _ _ _
    rw [← hIr]
    simpa using Heap.get?_push_size _ rfl
  · rw [← hIr] at e
    exact absurd (Heap.lt_size (N q hq).1) (e ▸ Nat.lt_irrefl _)
end
noncomputable def NotTab (q : Addr × Obj) : Prop := (∃ v, q.2.data = .cell v) ∨ (q.2.cls ≠ .none ∧ ∀ vs, q.2.data ≠ .fields vs) ∨ @Eq Nat q.1 63 ∨ @Eq Nat q.1 70
theorem ne_cell {h₀ h : Heap} {L a b : Addr} {o oc : Obj} {v : Option Value} {news : List (Addr × Obj)} (N : News h₀ L h news) (hp : (a, o) ∈ news) (hc : (b, oc) ∈ news) (hd : oc.data = .cell v) (ho : ∀ v, o.data ≠ .cell v) : @Ne Nat a b := fun e => by
  have h1 : h.get? a = some o := (N _ hp).1
  have h2 : h.get? b = some oc := (N _ hc).1
  rw [show b = a from e.symm] at h2
  rw [h1] at h2
  have := Option.some.inj h2
  exact ho v (by rw [this]; exact hd)
theorem Off.more {own news add : List (Addr × Obj)} (h : Mine.Off own news) (h2 : ∀ p ∈ own, ∀ q ∈ add, q.1 ≠ p.1) : Mine.Off own (news ++ add) := fun p hp q hq => by
  rcases List.mem_append.mp hq with hq | hq
  · exact h p hp q hq
  · exact h2 p hp q hq
theorem Tbs.more {own1 own2 news add : CbLed} (T : Tbs own1 own2 news) (h : ∀ p ∈ own1 ++ own2, ∀ q ∈ add, q.1 ≠ p.1) : Tbs own1 own2 (news ++ add) :=
  ⟨T.1, T.2.1, by
    have := Off.more T.2.2.1 (add := add) fun p hp q hq => h p (List.mem_append_left _ hp) q hq
    rwa [List.append_assoc] at this, Off.more T.2.2.2 fun p hp q hq => h p (List.mem_append_right _ hp) q hq⟩
theorem TbsM.less {own1 own2 news add : CbLed} (T : TbsM own1 own2 (news ++ add)) : TbsM own1 own2 news :=
  ⟨T.1, T.2.1, fun p hp q hq => T.2.2.1 p hp q (by
    rcases List.mem_append.mp hq with hq | hq
    · exact List.mem_append_left _ hq
    · exact List.mem_append_right _ (List.mem_append_left _ hq)), fun p hp q hq => T.2.2.2 p hp q (List.mem_append_left _ hq)⟩
theorem TbsM.offs {own1 own2 news : CbLed} (T : TbsM own1 own2 news) : ∀ p ∈ own1 ++ own2, ∀ q ∈ news, q.1 ≠ p.1 := fun p hp q hq => by
  rcases List.mem_append.mp hp with hp | hp
  · exact T.2.2.1 p hp q (List.mem_append_right _ hq)
  · exact T.2.2.2 p hp q hq
theorem ints_at {vs : List Value} {ns : List Int} {i : Nat} {v : Value} (h : IntsAre vs ns) (hv : vs[i]? = some v) : ∃ t, v = .int (ns.getD i 0) t := by
  have hx9 := IntsAre.at h i v hv
  first | (k_extra "xe4"; clear hx9; intro k t e hk) | obtain ⟨k, t, e, hk⟩ := hx9
  exact ⟨t, by rw [e]; simp [List.getD, hk]⟩
theorem TbM.off {P : Addr} {line col : Nat} {qual : Str} {own news : List (Addr × Obj)} {h₀ h : Heap} {L : Addr} (N : News h₀ L h (own ++ news)) (T : TbM P line col qual own) (h1 : ∀ q ∈ news, NotTab q) (h2 : @Ne Nat P 63 ∧ @Ne Nat P 70) (h3 : ∀ q ∈ own, @Ne Nat q.1 63 ∧ @Ne Nat q.1 70) : Off own news := by
  intro p hp q hq e
  have a1 := (N p (List.mem_append_left _ hp)).1
  have a2 := (N q (List.mem_append_right _ hq)).1
  rw [e, a1] at a2
  have a3 := Option.some.inj a2
  have hf : ∃ vs, p.2.data = .fields vs := by
    first | (revert T; intro hx9; k_extra "xe8"; clear hx9; intro c' oc vs t eq9; subst eq9; intro hd _ _) | obtain ⟨c', oc, vs, t, rfl, hd, _, _⟩ := T
    rcases List.mem_cons.mp hp with rfl | hp
    · exact ⟨vs, hd⟩
    · rw [List.mem_singleton.mp hp]; exact ⟨_, rfl⟩
  first | (revert hf; intro hx9; k_extra "xe2"; clear hx9; intro vs hf) | obtain ⟨vs, hf⟩ := hf
  rcases h1 q hq with ⟨v, hv⟩ | ⟨_, hv⟩ | hv | hv
  · rw [← a3, hf] at hv; cases hv
  · exact hv vs (by rw [← a3, hf])
  · exact (h3 p hp).1 (e ▸ hv)
  · exact (h3 p hp).2 (e ▸ hv)
end
section
section
variable {prog : Program} {w : World} {A : Around} {s : Shared} {env : Env} {h₀ : Heap}
noncomputable def TurnEnd (h₀ : Heap) (L : Addr) (J : (Str → Option Value) → List (Addr × Obj) → Prop) (I : Addr) (own : List (Addr × Obj)) (os : OsState) (s₃ : Shared) : Prop :=
  ∃ m₃ nx₃, Fr h₀ L s₃.heap m₃ ∧ News h₀ L s₃.heap (nx₃ ++ own) ∧ (∀ q ∈ nx₃, q.1 ≠ I) ∧ AllBare s₃.gens ∧ s₃.os = os ∧ J m₃ nx₃
theorem loopG {target : Expr} {body : List Stmt} {Q : Flow → Shared → Prop} {I : Addr} {fs : List Addr} {n : Nat} {P : Nat → Value → Prop} {St : Nat → Heap → Prop} {m : Str → Option Value} {nx own : List (Addr × Obj)} (J : Nat → (Str → Option Value) → List (Addr × Obj) → Prop)
    (W : Walks prog w A I (I :: fs) [I] n P St) (cI : Value) (hIo : ∀ i h, St i h → ∃ oI, h.get? I = some oI ∧ oI.cls = cI ∧ ∃ vs, oI.data = .fields vs) (hfs : ∀ b ∈ fs, ∃ o, (b, o) ∈ own) (hI₀ : h₀.get? I = none) (hIL : I ≠ env.locals)
    (hgo : ∀ i (s' : Shared) v (Q' : Unit → Shared → Prop), St i s'.heap → Q' () s' → wpAny (model prog w) A (letOwnedTupleGo target (.ref I) v) Q' NoE s')
    (hst : St 0 s.heap) (F : Fr h₀ env.locals s.heap m) (N : News h₀ env.locals s.heap (nx ++ own)) (off : ∀ q ∈ nx ++ own, q.1 ≠ I) (G : AllBare s.gens) (h0 : J 0 m nx)
    (turn : ∀ (i : Nat) v (m₁ : Str → Option Value) (nx₁ : List (Addr × Obj)) (s₂ : Shared) (oI : Obj), i < n → P i v → J i m₁ nx₁ → s₂.os = s.os → AllBare s₂.gens → Fr h₀ env.locals s₂.heap m₁ → News h₀ env.locals s₂.heap (nx₁ ++ ((I, oI) :: own)) → oI.cls = cI → (∀ q ∈ nx₁ ++ own, q.1 ≠ I) →
      wpAny (model prog w) A (assign target env v) (fun _ s₃ => wpAny (model prog w) A (execs body env) (TurnG (TurnEnd h₀ env.locals (J (i + 1)) I ((I, oI) :: own) s.os) Q) NoE s₃) NoE s₂)
    (done : ∀ (m₁ : Str → Option Value) (nx₁ : List (Addr × Obj)) (s₂ : Shared), J n m₁ nx₁ → s₂.os = s.os → AllBare s₂.gens → Fr h₀ env.locals s₂.heap m₁ → News h₀ env.locals s₂.heap (nx₁ ++ own) → Q .next s₂) :
    codeAny (model prog w) A (.forLoop target (.ref I) body [] env) (fun r s' => match r with | .ok f => Q f s' | .error e => cameBackBy (model prog w) A env NoE e s') s := by
  have hE : PassesOwn (model prog w) A env NoE := by passes_own
  refine codeAny_forLoop_any
    (fun k s' => ∃ i m' nx', i ≤ n ∧ k = n + 1 - i ∧ St i s'.heap ∧ Fr h₀ env.locals s'.heap m' ∧ News h₀ env.locals s'.heap (nx' ++ own) ∧ (∀ q ∈ nx' ++ own, q.1 ≠ I) ∧ AllBare s'.gens ∧ s'.os = s.os ∧ J i m' nx') ?_ (n + 1)
    ⟨0, m, nx, Nat.zero_le _, rfl, hst, F, N, off, G, rfl, h0⟩
  intro k s' hx9
  first | (k_extra "xq12"; clear hx9; intro i m' nx' hi eq9; subst eq9; intro hst' F' N' off' G' hos hJ) | obtain ⟨i, m', nx', hi, rfl, hst', F', N', off', G', hos, hJ⟩ := hx9
  have old : ∀ b o, h₀.get? b = some o → b ∉ [I] := fun b o e hb => by rw [List.mem_singleton.mp hb, hI₀] at e; cases e
  have next : ∀ h₁ : Heap, (∀ b o, b ∉ [I] → s'.heap.get? b = some o → h₁.get? b = some o) → Fr h₀ env.locals h₁ m' ∧ News h₀ env.locals h₁ (nx' ++ own) := fun h₁ hk₁ =>
    ⟨⟨F'.ns.at' fun o e => hk₁ _ o (fun q => hIL (List.mem_singleton.mp q).symm) e, fun b o e => hk₁ b o (old b o e) (F'.keep b o e), F'.above⟩, fun p hp => ⟨hk₁ _ _ (fun q => off' p hp (List.mem_singleton.mp q)) (N' p hp).1, (N' p hp).2⟩⟩
  by_cases hlt : i < n
  · refine W.item i s' _ _ hlt hst' fun v h₁ tk₁ hP hst₁ hk₁ => ?_
    have hx9 := next h₁ hk₁
    first | (k_extra "xe2"; clear hx9; intro F₁ N₁) | obtain ⟨F₁, N₁⟩ := hx9
    have hx9 := hIo _ _ hst₁
    first | (k_extra "xe5"; clear hx9; intro oI hI hIc vs hId) | obtain ⟨oI, hI, hIc, vs, hId⟩ := hx9
    refine wpAny_passesOwn hE (hgo _ _ _ _ hst₁ ?_)
    have N₂ : News h₀ env.locals h₁ (nx' ++ ((I, oI) :: own)) := fun p hp => by
      rcases List.mem_append.mp hp with hp | hp
      · exact N₁ p (List.mem_append_left _ hp)
      · rcases List.mem_cons.mp hp with rfl | hp
        · exact ⟨hI, hIL, hI₀⟩
        · exact N₁ p (List.mem_append_right _ hp)
    refine wpAny_mono (turn i v m' nx' { s' with heap := h₁, toks := tk₁ } oI hlt hP hJ (by exact hos) (by exact G') F₁ N₂ hIc off') (fun _ s₃ h₃ => wpAny_passesOwn hE (wpAny_mono h₃ (fun f s₄ h₄ => ?_) fun _ _ e => e)) (fun _ _ e => e.elim)
    have fin : TurnEnd h₀ env.locals (J (i + 1)) I ((I, oI) :: own) s.os s₄ →
        ∃ k', k' < n + 1 - i ∧ ∃ i' m' nx', i' ≤ n ∧ k' = n + 1 - i' ∧ St i' s₄.heap ∧ Fr h₀ env.locals s₄.heap m' ∧ News h₀ env.locals s₄.heap (nx' ++ own) ∧ (∀ q ∈ nx' ++ own, q.1 ≠ I) ∧ AllBare s₄.gens ∧ s₄.os = s.os ∧ J i' m' nx' := by
      intro hx9
      first | (k_extra "xq8"; clear hx9; intro m₃ nx₃ F₃ N₃ ni G₃ os₃ J₃) | obtain ⟨m₃, nx₃, F₃, N₃, ni, G₃, os₃, J₃⟩ := hx9
      have hI4 := (N₃ (I, oI) (List.mem_append_right _ (.head _))).1
      refine ⟨n + 1 - (i + 1), by k_extra "li", i + 1, m₃, nx₃, hlt, rfl, W.frame _ _ _ hst₁ ?_, F₃, fun p hp => ?_, fun q hq e => ?_, G₃, os₃, J₃⟩
      · intro b hb o e
        rcases List.mem_cons.mp hb with rfl | hb
        · rw [hI] at e
          rw [← e]; exact hI4
        · have hx9 := hfs b hb
          first | (k_extra "xe2"; clear hx9; intro o' ho') | obtain ⟨o', ho'⟩ := hx9
          have e1 := (N₁ (b, o') (List.mem_append_right _ ho')).1
          have e2 := (N₃ (b, o') (List.mem_append_right _ (.tail _ ho'))).1
          rw [← e, e1, e2]
      · rcases List.mem_append.mp hp with hp | hp
        · exact N₃ p (List.mem_append_left _ hp)
        · exact N₃ p (List.mem_append_right _ (.tail _ hp))
      · rcases List.mem_append.mp hq with hq | hq
        · exact ni q hq e
        · exact off' q (List.mem_append_right _ hq) e
    cases f with
    | ret v => exact h₄
    | brk => exact h₄
    | next => exact fin h₄
    | cont => exact fin h₄
  · have hin : i = n := by k_extra "li"
    subst hin
    refine W.done s' _ _ hst' fun h₁ tk₁ hk₁ => wpAny_execs_nil ?_
    have hx9 := next h₁ hk₁
    first | (k_extra "xe2"; clear hx9; intro F₁ N₁) | obtain ⟨F₁, N₁⟩ := hx9
    exact done m' nx' _ hJ (by exact hos) (by exact G') F₁ N₁
theorem tx_ascii {l : List Nat} (h : ∀ c ∈ l, c < 128) : (tx l).cps.all (· < 128) = true := by
  unfold tx
  simp
  exact h
theorem forTextG {Q : Flow → Shared → Prop} {x : Str} {px pos : Pos} {iter : Expr} {body : List Stmt} (h₀ : Heap) (l : List Nat) (J : Nat → (Str → Option Value) → List (Addr × Obj) → Prop) (hl : ∀ c ∈ l, c < 128) (hx : env.kindOf x = some .local)
    (hp : (env.scope.kind == .class || (env.scope.kind == .module && env.locals != env.globals)) = false)
    (h : wpAny (model prog w) A (eval iter env) (fun xv s₁ => ∃ (t : Tok) (m : Str → Option Value) (nx : List (Addr × Obj)), xv = .str (tx l) t ∧ A.handled = none ∧ Fr h₀ env.locals s₁.heap m ∧ News h₀ env.locals s₁.heap nx ∧ AllBare s₁.gens ∧ J 0 m nx ∧
      (∀ (i : Nat) (t : Tok) (m₁ : Str → Option Value) (nx₁ : List (Addr × Obj)) (s₂ : Shared) (I : Addr) (oI : Obj), i < l.length → J i m₁ nx₁ → s₂.os = s₁.os → AllBare s₂.gens → Fr h₀ env.locals s₂.heap (fun y => if y = x then some (.str (tx [l.getD i 0]) t) else m₁ y) → News h₀ env.locals s₂.heap (nx₁ ++ [(I, oI)]) → oI.cls = .type "str_ascii_iterator" → (∀ q ∈ nx₁, q.1 ≠ I) →
        wpAny (model prog w) A (execs body env) (TurnG (TurnEnd h₀ env.locals (J (i + 1)) I [(I, oI)] s₁.os) Q) NoE s₂) ∧
      (∀ (m₁ : Str → Option Value) (nx₁ : List (Addr × Obj)) (s₂ : Shared), J l.length m₁ nx₁ → s₂.os = s₁.os → AllBare s₂.gens → Fr h₀ env.locals s₂.heap m₁ → News h₀ env.locals s₂.heap nx₁ → Q .next s₂)) NoE s)
    (hs : ∀ x, foldedSetIterable iter env x = pure x) :
    wpAny (model prog w) A (exec (.For (.Name x px) iter body [] pos) env) Q NoE s := by
  refine wpAny_For (wpAny_mono h (fun xv s₁ h₁ => ?_) fun _ _ e => e) hs
  first | (revert h₁; intro hx9; k_extra "xe11"; clear hx9; intro t m nx eq9; subst eq9; intro hh F N G h0 turn done) | obtain ⟨t, m, nx, rfl, hh, F, N, G, h0, turn, done⟩ := h₁
  refine wpAny_pyIter_ascii (tx_ascii hl) ?_
  have hI₀ : h₀.get? s₁.heap.objs.size = none := next_is_new F
  have hIL : s₁.heap.objs.size ≠ env.locals := fun e => absurd F.ns.lt (e ▸ Nat.lt_irrefl _)
  refine loopG (own := []) (fs := []) (J := J) (m := m) (nx := nx) (Walks.strAscii hh s₁.heap.objs.size (tx l) t) (.type "str_ascii_iterator") (fun i h st => ?_) (fun b hb => absurd hb (by simp)) hI₀ hIL (fun _ _ _ _ _ hq => wpAny_pure hq) ⟨_, Heap.get?_push_size _ rfl, rfl, rfl⟩ (F.push _)
    (fun p hp => ⟨Heap.get?_push_of_some _ (N p (by simpa using hp)).1, (N p (by simpa using hp)).2⟩) (fun q hq e => ?_) G h0 ?_ ?_
  · first | (revert st; intro hx9; k_extra "xe4"; clear hx9; intro o ho hc hd) | obtain ⟨o, ho, hc, hd⟩ := st
    exact ⟨o, ho, hc, _, hd⟩
  · exact absurd (Heap.lt_size (N q (by simpa using hq)).1) (e ▸ Nat.lt_irrefl _)
  · intro i v m₁ nx₁ s₂ oI hi hP hJ hos hG F₂ N₂ hIc hoff
    first | (revert hP; intro hx9; k_extra "xe4"; clear hx9; intro c u hc eq9; subst eq9) | obtain ⟨c, u, hc, rfl⟩ := hP
    refine wpAny_assign_Name (wpAny_storeName_local hx F₂.ns (fun h₂ hn₂ hs₂ => ?_) hp)
    have hi' : i < l.length := by
      have : (tx l).cps.size = l.length := by simp [tx]
      k_extra "li"
    have hcc : c = l.getD i 0 := by
      have e : (tx l).cps[i]? = l[i]? := by simp [tx]
      rw [e] at hc
      simp [List.getD, hc]
    subst hcc
    exact turn i u m₁ nx₁ _ _ _ hi' hJ hos hG (F₂.set hn₂ hs₂) (N₂.set hs₂) hIc (by simpa using hoff)
  · intro m₁ nx₁ s₂ hJ hos hG F₂ N₂
    have : (tx l).cps.size = l.length := by simp [tx]
    rw [this] at hJ
    exact done m₁ nx₁ s₂ hJ hos hG F₂ (by simpa using N₂)
theorem forListG {Q : Flow → Shared → Prop} {target : Expr} {pos : Pos} {iter : Expr} {body : List Stmt} (h₀ : Heap) (J : Nat → (Str → Option Value) → List (Addr × Obj) → Prop)
    (h : wpAny (model prog w) A (eval iter env) (fun xv s₁ => ∃ (ax : Addr) (us : List Value) (k : Nat) (m : Str → Option Value) (nx : List (Addr × Obj)), xv = .ref ax ∧ A.handled = none ∧ Fr h₀ env.locals s₁.heap m ∧ News h₀ env.locals s₁.heap (nx ++ [(ax, listOf us.toArray k)]) ∧ AllBare s₁.gens ∧ J 0 m nx ∧
      (∀ (i : Nat) (v : Value) (m₁ : Str → Option Value) (nx₁ : List (Addr × Obj)) (s₂ : Shared) (I : Addr) (oI : Obj), i < us.length → us[i]? = some v → J i m₁ nx₁ → s₂.os = s₁.os → AllBare s₂.gens → Fr h₀ env.locals s₂.heap m₁ → News h₀ env.locals s₂.heap (nx₁ ++ [(I, oI), (ax, listOf us.toArray k)]) → oI.cls = .type "list_iterator" → (∀ q ∈ nx₁ ++ [(ax, listOf us.toArray k)], q.1 ≠ I) →
        wpAny (model prog w) A (assign target env v) (fun _ s₃ => wpAny (model prog w) A (execs body env) (TurnG (TurnEnd h₀ env.locals (J (i + 1)) I [(I, oI), (ax, listOf us.toArray k)] s₁.os) Q) NoE s₃) NoE s₂) ∧
      (∀ (m₁ : Str → Option Value) (nx₁ : List (Addr × Obj)) (s₂ : Shared), J us.length m₁ nx₁ → s₂.os = s₁.os → AllBare s₂.gens → Fr h₀ env.locals s₂.heap m₁ → News h₀ env.locals s₂.heap (nx₁ ++ [(ax, listOf us.toArray k)]) → Q .next s₂)) NoE s)
    (hs : ∀ x, foldedSetIterable iter env x = pure x) :
    wpAny (model prog w) A (exec (.For target iter body [] pos) env) Q NoE s := by
  refine wpAny_For (wpAny_mono h (fun xv s₁ h₁ => ?_) fun _ _ e => e) hs
  first | (revert h₁; intro hx9; k_extra "xe13"; clear hx9; intro ax us k m nx eq9; subst eq9; intro hh F N G h0 turn done) | obtain ⟨ax, us, k, m, nx, rfl, hh, F, N, G, h0, turn, done⟩ := h₁
  have hax := N (ax, listOf us.toArray k) (List.mem_append_right _ (.head _))
  have hl : s₁.heap.IsList ax us.toArray := ⟨_, hax.1, rfl, _, rfl⟩
  refine wpAny_pyIter_list hl ?_
  have hI₀ : h₀.get? s₁.heap.objs.size = none := next_is_new F
  have hIL : s₁.heap.objs.size ≠ env.locals := fun e => absurd F.ns.lt (e ▸ Nat.lt_irrefl _)
  have hne : ax ≠ s₁.heap.objs.size := Nat.ne_of_lt (Heap.lt_size hax.1)
  have hsz : us.toArray.size = us.length := by simp
  refine loopG (own := [(ax, listOf us.toArray k)]) (fs := [ax]) (J := J) (m := m) (nx := nx) (Walks.list hh s₁.heap.objs.size ax hne us.toArray) (.type "list_iterator") (fun i h st => ?_) (fun b hb => ⟨listOf us.toArray k, by rw [List.mem_singleton.mp hb]; exact .head _⟩) hI₀ hIL (fun i s' v Q' st hq => ?_) ⟨⟨_, Heap.get?_push_size _ rfl, rfl, rfl⟩, hl.push _⟩ (F.push _)
    (fun p hp => ⟨Heap.get?_push_of_some _ (N p hp).1, (N p hp).2⟩) (fun q hq e => ?_) G h0 ?_ ?_
  · first | (revert st; intro hx9; k_extra "xe2"; clear hx9; intro hx9; (first | (k_extra "xq4"; clear hx9; intro o ho hc hd) | obtain ⟨o, ho, hc, hd⟩ := hx9); intro _) | obtain ⟨⟨o, ho, hc, hd⟩, _⟩ := st
    exact ⟨o, ho, hc, _, hd⟩
  · first | (revert st; intro hx9; k_extra "xe2"; clear hx9; intro hx9; (first | (k_extra "xq4"; clear hx9; intro o ho hc hd) | obtain ⟨o, ho, hc, hd⟩ := hx9); intro _) | obtain ⟨⟨o, ho, hc, hd⟩, _⟩ := st
    unfold letOwnedTupleGo
    cases target <;> first
      | exact wpAny_pure hq
      | (cases v <;> first
          | exact wpAny_pure hq
          | (refine wpAny_bind (wpAny_load ho ?_)
             rw [hc, hd]
             exact wpAny_pure hq))
  · exact absurd (Heap.lt_size (N q hq).1) (e ▸ Nat.lt_irrefl _)
  · intro i v m₁ nx₁ s₂ oI hi hP hJ hos hG F₂ N₂ hIc hoff
    rw [hsz] at hi
    exact turn i v m₁ nx₁ s₂ _ oI hi (by simpa using hP) hJ hos hG F₂ N₂ hIc hoff
  · intro m₁ nx₁ s₂ hJ hos hG F₂ N₂
    rw [hsz] at hJ
    exact done m₁ nx₁ s₂ hJ hos hG F₂ N₂
end
end
section
theorem rev_tx (l : List Nat) (u : Tok) : Txt.sliceBy (tx l) none none (-1, u) = tx l.reverse := by
  have h := step_rev_list (tx l) u
  refine Str.ext' (Array.toList_inj.mp ?_)
  rw [h, tx_len]
  show _ = l.reverse.toArray.toList
  apply List.ext_getElem
  · simp
  · intro i h1 h2
    simp [tx, List.getElem_reverse]
    simp at h1
    rw [List.getElem?_eq_getElem (by k_extra "li")]
    simp
theorem tups_snoc (l : List Pr) (q : Pr) : tups (l ++ [q]) = tups l ++ [(q.a, q.obj)] := by simp [tups]
theorem refs_snoc (l : List Pr) (q : Pr) : refs (l ++ [q]) = refs l ++ [.ref q.a] := by simp [refs]
theorem ne_obj {h₀ h : Heap} {L a b : Addr} {o o' : Obj} {news : List (Addr × Obj)} (N : News h₀ L h news) (hp : (a, o) ∈ news) (hc : (b, o') ∈ news) (hne : o.cls ≠ o'.cls) : @Ne Nat a b := fun e => by
  have h1 : h.get? a = some o := (N _ hp).1
  have h2 : h.get? b = some o' := (N _ hc).1
  rw [show b = a from e.symm, h1] at h2
  exact hne (by rw [Option.some.inj h2])
theorem getD_tx (tl : List (List Nat)) (i : Nat) : (tl.map tx).getD ((i : Int)).toNat Str.empty = tx (tl.getD i []) := by
  rw [Int.toNat_natCast]
  simp only [List.getD_eq_getElem?_getD, List.getElem?_map]
  cases tl[i]? <;> rfl
theorem tups_ne {h₀ h : Heap} {L b : Addr} {oc : Obj} {v : Option Value} {l : List Pr} {news : List (Addr × Obj)} (N : News h₀ L h news) (hs : ∀ p ∈ tups l, p ∈ news) (hc : (b, oc) ∈ news) (hd : oc.data = .cell v) : ∀ p ∈ tups l, p.1 ≠ b := by
  intro p hp
  have hx9 := List.mem_map.mp hp
  first | (k_extra "xe3"; clear hx9; intro q _ eq9; subst eq9) | obtain ⟨q, _, rfl⟩ := hx9
  exact ne_cell N (hs _ hp) hc hd (fun v e => by cases e)
theorem fold_filter {α : Type} (p : α → Prop) [DecidablePred p] : ∀ (ks acc : List α), ks.foldl (fun l k => if p k then l ++ [k] else l) acc = acc ++ ks.filter (fun k => decide (p k))
  | [], acc => by simp
  | k :: r, acc => by
    simp only [List.foldl_cons, List.filter_cons]
    rw [fold_filter p r]
    by_cases h : p k
    · simp [h]
    · simp [h]
theorem dv_mem {n K : Nat} {later : Int} (hd : ∀ j, j < n → (later % ((lapsL n).getD j 1 : Nat) = 0 ↔ j < K)) (M : Int) :
    M ∈ (rangeKs 1 n).foldl (fun l k => if later % ((lapsL n).getD (k - 1).toNat 1 : Nat) = 0 then l ++ [k] else l) [] ↔ ∃ j : Nat, j < n ∧ j < K ∧ M = (j : Int) + 1 := by
  rw [fold_filter (fun k : Int => later % ((lapsL n).getD (k - 1).toNat 1 : Nat) = 0)]
  simp only [List.nil_append, List.mem_filter, decide_eq_true_eq]
  constructor
  · intro hx9
    first | (k_extra "xq2"; clear hx9; intro h1 h2) | obtain ⟨h1, h2⟩ := hx9
    have hx9 := mem_rangeKs h1
    first | (k_extra "xe2"; clear hx9; intro a1 a2) | obtain ⟨a1, a2⟩ := hx9
    refine ⟨(M - 1).toNat, by k_extra "li", ?_, by k_extra "li"⟩
    exact (hd _ (by k_extra "li")).mp h2
  · intro hx9
    first | (k_extra "xq4"; clear hx9; intro j h1 h2 eq9; subst eq9) | obtain ⟨j, h1, h2, rfl⟩ := hx9
    refine ⟨?_, ?_⟩
    · simp only [rangeKs, List.mem_map, List.mem_range]
      exact ⟨j, h1, by k_extra "li"⟩
    · rw [show ((j : Int) + 1 - 1).toNat = j from by k_extra "li"]
      exact (hd j h1).mpr h2
theorem lists_split {lq la lb : List Pr} {tB : List Nat} {n K : Nat} {blk : Str} {f : Nat → Str} (hlq : lq = la ++ lb) (hb : lq.map Pr.b = List.replicate n blk) (hs : lq.map Pr.s = tB.reverse.map f) (hlB : tB.length = n) (hl2 : lb.length = K) (hK : K ≤ n) :
    la.map Pr.b = List.replicate (n - K) blk ∧ lb.reverse.map Pr.b = List.replicate K blk ∧ la.map Pr.s = (tB.drop K).reverse.map f ∧ lb.reverse.map Pr.s = (tB.take K).map f := by
  subst hlq
  have hl : (la ++ lb).length = n := by rw [← List.length_map (f := Pr.b), hb, List.length_replicate]
  have hla : la.length = n - K := by rw [List.length_append] at hl; k_extra "li"
  rw [List.map_append] at hb hs
  have e1 : List.replicate n blk = List.replicate (n - K) blk ++ List.replicate K blk := by rw [List.replicate_append_replicate]; congr 1; k_extra "li"
  have e2 : tB.reverse.map f = (tB.drop K).reverse.map f ++ (tB.take K).reverse.map f := by
    rw [← List.map_append, ← List.reverse_append, List.take_append_drop]
  rw [e1] at hb
  rw [e2] at hs
  have a1 := List.append_inj hb (by simp [hla])
  have a2 := List.append_inj hs (by simp [hla]; k_extra "li")
  refine ⟨a1.1, ?_, a2.1, ?_⟩
  · rw [List.map_reverse, a1.2, List.reverse_replicate]
  · rw [List.map_reverse, a2.2, ← List.map_reverse, List.reverse_reverse]
theorem pr_get {l : List Pr} {j : Nat} {v : Value} {blk : Str} {t : List Nat} {f : Nat → Str} {n : Nat} (hv : (refs l)[j]? = some v) (hb : l.map Pr.b = List.replicate n blk) (hs : l.map Pr.s = t.map f) :
    ∃ q ∈ l, v = .ref q.a ∧ q.b = blk ∧ q.s = f (t.getD j 0) := by
  simp only [refs, List.getElem?_map] at hv
  cases e : l[j]? with
  | none => rw [e] at hv; cases hv
  | some q =>
    rw [e] at hv
    have hj : j < l.length := (List.getElem?_eq_some_iff.mp e).1
    refine ⟨q, List.mem_of_getElem? e, (Option.some.inj hv).symm, ?_, ?_⟩
    · have h1 : (l.map Pr.b)[j]? = some q.b := by rw [List.getElem?_map, e]; rfl
      rw [hb, List.getElem?_replicate] at h1
      split at h1
      · exact (Option.some.inj h1).symm
      · cases h1
    · have h1 : (l.map Pr.s)[j]? = some q.s := by rw [List.getElem?_map, e]; rfl
      rw [hs, List.getElem?_map] at h1
      cases e2 : t[j]? with
      | none => rw [e2] at h1; cases h1
      | some c =>
        rw [e2] at h1
        simp only [List.getD, e2, Option.getD_some]
        exact (Option.some.inj h1).symm
theorem pr_small {l : List Pr} {n : Nat} {t : List Nat} (hb : l.map Pr.b = List.replicate n (Str.ofString " ")) (hs : l.map Pr.s = t.map fun c => tx [c]) : ∀ q ∈ l, q.b.length ≤ 1000 ∧ q.s.length ≤ 1000 := by
  intro q hq
  have h1 : q.b ∈ l.map Pr.b := List.mem_map_of_mem hq
  have h2 : q.s ∈ l.map Pr.s := List.mem_map_of_mem hq
  rw [hb] at h1
  rw [hs] at h2
  have hx9 := List.mem_map.mp h2
  first | (k_extra "xe3"; clear hx9; intro c _ hc) | obtain ⟨c, _, hc⟩ := hx9
  refine ⟨?_, ?_⟩
  · rw [(List.mem_replicate.mp h1).2]; decide
  · rw [← hc, tx_len]; show 1 ≤ 1000; decide
theorem nt_addr {a b : Nat} {o : Obj} (h : a ≠ b) : ((a, o) : Addr × Obj).2.cls ≠ .none ∨ @Ne Nat ((a, o) : Addr × Obj).1 b := .inr h
theorem notAcc_cell {a : Addr} {o : Obj} {v : Option Value} (h : o.data = .cell v) : NotAcc (a, o) := .inr fun b n e => by
  have e' : o.data = .seq b n := e
  rw [h] at e'; cases e'
theorem notAcc_cls {a : Addr} {o : Obj} {c : Value} (h : o.cls = c) (hc : c ≠ .ref 101) : NotAcc (a, o) := .inl fun e => hc (h.symm.trans e)
theorem notAcc_tab {P : Addr} {line col : Nat} {qual : Str} {own : List (Addr × Obj)} (T : TbM P line col qual own) : ∀ p ∈ own, NotAcc p := by
  first | (revert T; intro hx9; k_extra "xe8"; clear hx9; intro c' oc vs t eq9; subst eq9; intro hd _ _) | obtain ⟨c', oc, vs, t, rfl, hd, _, _⟩ := T
  intro p hp
  rcases List.mem_cons.mp hp with rfl | hp
  · refine .inr fun b n e => ?_
    have e' : oc.data = .seq b n := e
    rw [hd] at e'; cases e'
  · rw [List.mem_singleton.mp hp]
    exact .inl fun e => by cases e
theorem notAcc_tups (l : List Pr) : ∀ p ∈ tups l, NotAcc p := fun p hp => .inl (by rw [tups_cls hp]; exact fun e => by cases e)

theorem locS {h₀ h : Heap} {L : Addr} {x : Str} {v : Value} {m : Str → Option Value} {ps : List (Str × Value)} (F : Fr h₀ L h (fun y => if y = x then some v else m y)) (hk : ∀ p ∈ ps, m p.1 = some p.2) : Loc h₀ L h ((x, v) :: ps) := by
  refine ⟨m, ?_⟩
  have e : kstB m ((x, v) :: ps) = fun y => if y = x then some v else m y := by
    show (fun z => if z = x then some v else kstB m ps z) = _
    rw [kstB_id hk]
  rw [e]; exact F
section
variable {prog : Program} {w : World} {A : Around} {E : Value → Shared → Prop} {s : Shared} {h₀ : Heap} {L : Addr} {m : Str → Option Value} {news : List (Addr × Obj)} {value slice : Expr} {l : List Nat} {t u uk : Tok} {Q : Value → Shared → Prop}
theorem sl_rev (F : Fr h₀ L s.heap m) (N : News h₀ L s.heap news) (hl : l.length ≤ 1000)
    (h : ∀ h' t' tk, Fr h₀ L h' m → News h₀ L h' news → Q (.str (tx l.reverse) t') { s with heap := h', toks := tk })
    (hs : subscripted slice false (.str (tx l) t) (.ref s.heap.objs.size) = operate [.ref s.heap.objs.size, .str (tx l) t] (getItem (.str (tx l) t) (.ref s.heap.objs.size)))
    (ht : ∀ r, letTemporaryGo value (.str (tx l) t) r = pure ()) :
    wpAny (model prog w) A (subscriptTail value slice (.str (tx l) t) (.ref s.heap.objs.size)) Q E { s with heap := s.heap.push { cls := .type "slice", data := .fields #[.none, .none, .int (-1) uk] } } :=
  slice_strK_nn F N (by decide) (fun h' t' c F' N' => by rw [rev_tx]; exact h h' t' c F' N') hs ht (by rw [tx_len, sizeLine_eq]; k_extra "li")
theorem it_ints {D : Addr} {us : List Value} {kk : Nat} {ns : List Int} {k : Nat} (N : News h₀ L s.heap news) (hm : (D, listOf us.toArray kk) ∈ news) (hi : IntsAre us ns) (hk : k < ns.length) (hz : ns.length ≤ 1000) (h : ∀ t', Q (.int (ns.getD k 0) t') s)
    (hs : subscripted slice false (.ref D) (.int (k : Int) u) = operate [.ref D, .int (k : Int) u] (getItem (.ref D) (.int (k : Int) u))) :
    wpAny (model prog w) A (subscriptTail value slice (.ref D) (.int (k : Int) u)) Q E s := by
  have hx9 := hi.get k (ns.getD k 0) (by simp [List.getD, List.getElem?_eq_getElem hk])
  first | (k_extra "xe2"; clear hx9; intro t' ht) | obtain ⟨t', ht⟩ := hx9
  refine itemN N hm (by k_extra "li") (by k_extra "li") ?_ (h t') hs
  rw [Int.toNat_natCast]
  simpa using ht
theorem it_strs {D : Addr} {us : List Value} {kk : Nat} {tl : List (List Nat)} {k : Nat} (N : News h₀ L s.heap news) (hm : (D, listOf us.toArray kk) ∈ news) (hi : StrsAre us (tl.map tx)) (hk : k < tl.length) (hz : tl.length ≤ 1000) (h : ∀ t', Q (.str (tx (tl.getD k [])) t') s)
    (hs : subscripted slice false (.ref D) (.int (k : Int) u) = operate [.ref D, .int (k : Int) u] (getItem (.ref D) (.int (k : Int) u))) :
    wpAny (model prog w) A (subscriptTail value slice (.ref D) (.int (k : Int) u)) Q E s := by
  have hlen : us.length = tl.length := by rw [hi.length, List.length_map]
  obtain ⟨t', ht⟩ : ∃ t', us[k]? = some (.str (tx (tl.getD k [])) t') := by
    have key : ∀ (us : List Value) (tl : List (List Nat)) (k : Nat), StrsAre us (tl.map tx) → k < tl.length → ∃ t', us[k]? = some (.str (tx (tl.getD k [])) t') := by
      intro us tl
      induction tl generalizing us with
      | nil => intro k _ hk; simp at hk
      | cons a r ih =>
        intro k hi hk
        have hx9 := hi.cons_inv
        first | (k_extra "xe4"; clear hx9; intro t vs' eq9; subst eq9; intro hr) | obtain ⟨t, vs', rfl, hr⟩ := hx9
        cases k with
        | zero => exact ⟨t, rfl⟩
        | succ k =>
          have hx9 := ih vs' k hr (by simpa using hk)
          first | (k_extra "xe2"; clear hx9; intro t' ht) | obtain ⟨t', ht⟩ := hx9
          exact ⟨t', by simpa using ht⟩
    exact key us tl k hi hk
  refine itemN N hm (by k_extra "li") (by k_extra "li") ?_ (h t') hs
  rw [Int.toNat_natCast]
  simpa using ht
end
end
section
section
variable {prog : Program} {w : World} {A : Around} {E : Value → Shared → Prop} {s : Shared} {env : Env} {h₀ : Heap} {L : Addr} {m : Str → Option Value}
theorem ListComp_tx {elt iter : Expr} {x : Str} {px : Pos} {scope : Scope} {cl : List (Str × Addr)} {pos : Pos} {Q : Value → Shared → Prop} (l : List Nat) (F₀ : Fr h₀ L s.heap m)
    (hclos : closureFor scope env = pure cl) (hcell : ∀ y ∈ scope.names, y.2 ≠ .cell) (hkind : scope.kind = .function)
    (hnames : ∀ y ∈ scope.names, y.2 = .local → scope.names.lookup y.1 = some .local) (hx : scope.names.lookup x = some .local)
    (h : wpAny (model prog w) A (eval iter env) (fun xv s₁ => ∃ (t : Tok) (news : List (Addr × Obj)), xv = .str (tx l) t ∧ A.handled = none ∧ Fr h₀ L s₁.heap m ∧ News h₀ L s₁.heap news ∧ (∀ c ∈ l, c < 128) ∧ l.length ≤ 1000 ∧
      ∀ g, LCg.CompRest prog w A h₀ L m env elt x scope cl { s₁ with heap := g } (fun _ => True) (SignAt (tx l)) (LCg.FinE h₀ L m { s₁ with heap := g } Q) l.length 0 [] news) E s)
    (hs : ∀ x, foldedSetIterable iter env x = pure x) :
    wpAny (model prog w) A (eval (.ListComp elt [⟨.Name x px, iter, [], 0⟩] scope pos) env) Q E s := by
  rw [eval_ListComp]
  refine wpAny_comprehension_free (use := none) rfl hs hclos hkind hnames (wpAny_mono h (fun xv s₁ h₁ => ?_) fun _ _ e => e)
  first | (revert h₁; intro hx9; k_extra "xe9"; clear hx9; intro t news eq9; subst eq9; intro hh F N hl hlen R) | obtain ⟨t, news, rfl, hh, F, N, hl, hlen, R⟩ := h₁
  refine wpAny_pyIter_ascii (tx_ascii hl) ?_
  have hsz : (tx l).cps.size = l.length := by simp [tx]
  have W := Walks.strAscii (prog := prog) (w := w) hh s₁.heap.objs.size (tx l) t
  rw [hsz] at W
  refine LCg.block_U (S := fun _ => True) W (by rw [sizeLine_eq]; k_extra "li") (fun i h st => by obtain ⟨o, e, _⟩ := st; exact ⟨o, e⟩)
    (fun i h h' o nw st e e' _ _ _ => by obtain ⟨o', q, r⟩ := st; rw [e] at q; cases q; exact ⟨o, e', r⟩) hcell hkind hx ⟨_, Heap.get?_push_size _ rfl, rfl, rfl⟩ (fun b hb => ?_)
    (F.push _) (N.grown fun _ _ e => Heap.get?_push_of_some _ e) (Nat.ne_of_lt F.ns.lt) (next_is_new F) (fun p hp => Nat.ne_of_lt (Heap.lt_size (N p hp).1)) trivial (R _) ?_
  · show b < (s₁.heap.push _).objs.size
    rw [Heap.size_push, List.mem_singleton.mp hb]
    exact Nat.lt_succ_self _
  · intro D C h tk m' ys news' F' N' o1 hn hC₀ hD₀ hCL hDL hCD offC fin
    refine ⟨m', hn, fun h'' hs'' => fin D h'' tk (F'.change hs'' hCL hC₀) (fun p hp => ?_) o1⟩
    refine ⟨hs''.extBut _ _ ?_ (N' p hp).1, (N' p hp).2⟩
    rcases List.mem_cons.mp hp with rfl | hp
    · exact Ne.symm hCD
    · exact offC p hp
end
theorem join_pair (b s : Str) : Txt.join (Str.ofString "") [b, s] = b ++ s := by
  refine (PySem.StrLaws.glued_eq_join _ _).trans ?_
  show Str.append (Str.append b (Str.ofString "")) s = Str.append b s
  rw [show Str.append b (Str.ofString "") = b from PySem.Str.append_empty b]
theorem lr_join {lr : List Pr} {n : Nat} {t : List Nat} (hb : lr.map Pr.b = List.replicate n (Str.ofString " ")) (hs : lr.map Pr.s = t.map fun c => tx [c]) :
    (lr.map fun q => Txt.join (Str.ofString "") [q.b, q.s]) = t.map fun c => Str.ofString " " ++ tx [c] := by
  have h1 : ∀ q ∈ lr, q.b = Str.ofString " " := fun q hq => by
    have h : q.b ∈ lr.map Pr.b := List.mem_map_of_mem hq
    rw [hb] at h
    exact (List.mem_replicate.mp h).2
  have h2 : (lr.map fun q => Txt.join (Str.ofString "") [q.b, q.s]) = (lr.map Pr.s).map fun s => Str.ofString " " ++ s := by
    rw [List.map_map]
    refine List.map_congr_left fun q hq => ?_
    rw [join_pair, h1 q hq]
    rfl
  rw [h2, hs, List.map_map]
  rfl
theorem join_bnd2 (l : List Nat) (h : l.length ≤ 1000) : ((l.map fun c => Str.ofString " " ++ tx [c]).map (·.length)).sum + (l.map fun c => Str.ofString " " ++ tx [c]).length * (Str.ofString "").length ≤ 16777216 := by
  have e0 : (Str.ofString "").length = 0 := by decide
  have e1 : ∀ l : List Nat, ((l.map fun c => Str.ofString " " ++ tx [c]).map (·.length)).sum = 2 * l.length := by
    intro l
    induction l with
    | nil => rfl
    | cons a r ih =>
      have h1 : (Str.ofString " " ++ tx [a]).length = 2 := rfl
      simp only [List.map_cons, List.sum_cons, List.length_cons, ih, h1]
      k_extra "li"
  rw [e0, e1]
  k_extra "li"
theorem lr_sum {lr : List Pr} {n : Nat} {t : List Nat} (hb : lr.map Pr.b = List.replicate n (Str.ofString " ")) (hs : lr.map Pr.s = t.map fun c => tx [c]) :
    (lr.map fun q => q.b.length + q.s.length).sum = 2 * t.length := by
  have hl : lr.length = t.length := by
    have := congrArg List.length hs
    simpa using this
  have h1 : ∀ q ∈ lr, q.b.length + q.s.length = 2 := fun q hq => by
    have h : q.b ∈ lr.map Pr.b := List.mem_map_of_mem hq
    rw [hb] at h
    have h2 : q.s ∈ lr.map Pr.s := List.mem_map_of_mem hq
    rw [hs] at h2
    have hx9 := List.mem_map.mp h2
    first | (k_extra "xe3"; clear hx9; intro c _ hc) | obtain ⟨c, _, hc⟩ := hx9
    rw [(List.mem_replicate.mp h).2, ← hc]
    rfl
  rw [← hl]
  clear hb hs hl
  induction lr with
  | nil => rfl
  | cons q r ih =>
    simp only [List.map_cons, List.sum_cons, List.length_cons]
    rw [h1 q (.head _), ih fun q hq => h1 q (.tail _ hq)]
    k_extra "li"
theorem tups_neC {h₀ h : Heap} {L b : Addr} {oc : Obj} {l : List Pr} {news : List (Addr × Obj)} (N : News h₀ L h news) (hs : ∀ p ∈ tups l, p ∈ news) (hc : (b, oc) ∈ news) (hd : oc.cls ≠ .type "tuple") : ∀ p ∈ tups l, p.1 ≠ b := by
  intro p hp
  have hx9 := List.mem_map.mp hp
  first | (k_extra "xe3"; clear hx9; intro q _ eq9; subst eq9) | obtain ⟨q, _, rfl⟩ := hx9
  exact ne_obj N (hs _ hp) hc (fun e => hd e.symm)
theorem datall_prs {news : List (Addr × Obj)} : ∀ (l : List Pr), (∀ p ∈ tups l, p ∈ news) → PySem.W.DatAll news (refs l) (l.map fun q => PySem.W.Dat.tuple [.str q.b, .str q.s])
  | [], _ => .nil
  | q :: r, h => .cons (.tuple (h (q.a, q.obj) (.head _)) (.cons (.str _ _) (.cons (.str _ _) .nil))) (datall_prs r fun p hp => h p (.tail _ hp))
theorem dat_prs {l : List Pr} {t : List Nat} (hb : l.map Pr.b = List.replicate t.length (Str.ofString " ")) (hs : l.map Pr.s = t.map fun c => tx [c]) :
    (l.map fun q => PySem.W.Dat.tuple [.str q.b, .str q.s]) = t.map fun c => PySem.W.Dat.tuple [.str (Str.ofString " "), .str (tx [c])] := by
  have h1 : ∀ q ∈ l, q.b = Str.ofString " " := fun q hq => by
    have h : q.b ∈ l.map Pr.b := List.mem_map_of_mem hq
    rw [hb] at h
    exact (List.mem_replicate.mp h).2
  have h2 : (l.map fun q => PySem.W.Dat.tuple [.str q.b, .str q.s]) = (l.map Pr.s).map fun s => PySem.W.Dat.tuple [.str (Str.ofString " "), .str s] := by
    rw [List.map_map]
    refine List.map_congr_left fun q hq => ?_
    rw [h1 q hq]
    rfl
  rw [h2, hs, List.map_map]
  rfl
theorem prs_ne {prog : Program} {w : World} {A : Around} {E : Value → Shared → Prop} {s : Shared} {h₀ : Heap} {L D1 D2 : Addr} {k1 k2 : Nat} {l1 l2 : List Pr} {t : List Nat} {news : List (Addr × Obj)} {Q : Value → Shared → Prop} (N : News h₀ L s.heap news)
    (m1 : (D1, listOf (refs l1).toArray k1) ∈ news) (m2 : (D2, listOf (refs l2).toArray k2) ∈ news) (s1 : ∀ p ∈ tups l1, p ∈ news) (s2 : ∀ p ∈ tups l2, p ∈ news)
    (hb1 : l1.map Pr.b = List.replicate t.length (Str.ofString " ")) (hs1 : l1.map Pr.s = t.map fun c => tx [c]) (hb2 : l2.map Pr.b = List.replicate t.length (Str.ofString " ")) (hs2 : l2.map Pr.s = t.map fun c => tx [c])
    (ht : ∀ c ∈ t, c < 128) (hu : A.units + 64 < cLine) (h : Q (.bool false) s) : wpAny (model prog w) A (compareOp .NotEq (.ref D1) (.ref D2)) Q E s := by
  have hk : ∀ d ∈ t.map fun c => PySem.W.Dat.tuple [.str (Str.ofString " "), .str (tx [c])], PySem.W.kqdOk 8 d = true := by
    intro d hd
    have hx9 := List.mem_map.mp hd
    first | (k_extra "xe3"; clear hx9; intro c hc eq9; subst eq9) | obtain ⟨c, hc, rfl⟩ := hx9
    have h1 : PyData.strOk (tx [c]) = true := by
      show ((#[c] : Array Nat).all (· < 0x110000)) = true
      have := ht c hc
      simp
      k_extra "li"
    show ([PySem.W.Dat.str (Str.ofString " "), PySem.W.Dat.str (tx [c])].all (PySem.W.kqdOk 7)) = true
    simp only [List.all_cons, List.all_nil, PySem.W.kqdOk, h1, Bool.and_true]
    decide +kernel
  have e1 := dat_prs hb1 hs1
  have e2 := dat_prs hb2 hs2
  refine PySem.W.kqd_ne N m1 rfl rfl (e1 ▸ datall_prs l1 s1) (fun p hp => hp) m2 rfl rfl (e2 ▸ datall_prs l2 s2) (fun p hp => hp) hk hk hu ?_
  simpa using h
theorem tups_rev {l : List Pr} {p : Addr × Obj} (h : p ∈ tups l.reverse) : p ∈ tups l := by
  have hx9 := List.mem_map.mp h
  first | (k_extra "xe3"; clear hx9; intro q hq eq9; subst eq9) | obtain ⟨q, hq, rfl⟩ := hx9
  exact tups_mem (List.mem_reverse.mp hq)
theorem rev_facts {l : List Pr} {n : Nat} {t : List Nat} {blk : Str} {f : Nat → Str} (hb : l.map Pr.b = List.replicate n blk) (hs : l.map Pr.s = t.reverse.map f) : l.reverse.map Pr.b = List.replicate n blk ∧ l.reverse.map Pr.s = t.map f := by
  rw [List.map_reverse, List.map_reverse, hb, hs, List.reverse_replicate, ← List.map_reverse, List.reverse_reverse]
  exact ⟨rfl, rfl⟩
theorem tup2_ne {prog : Program} {w : World} {A : Around} {E : Value → Shared → Prop} {s : Shared} {h₀ : Heap} {L a b : Addr} {news : List (Addr × Obj)} {v1 v2 u1 u2 : Value} {d1 d2 : PyData} {ka kb : Nat} {Q : Value → Shared → Prop} (N : News h₀ L s.heap news)
    (ma : (a, ({ cls := .type "tuple", data := .seq #[v1, v2] ka } : Obj)) ∈ news) (mb : (b, ({ cls := .type "tuple", data := .seq #[u1, u2] kb } : Obj)) ∈ news) (r1 : Reads s.heap v1 d1 []) (r2 : Reads s.heap v2 d2 []) (r3 : Reads s.heap u1 d1 []) (r4 : Reads s.heap u2 d2 [])
    (hl : SeqAt.shaped (.tuple [d1, d2]) = true) (he : PyData.eqv (.tuple [d1, d2]) (.tuple [d1, d2]) = true) (hu : A.units + 64 < cLine) (h : Q (.bool false) s) : wpAny (model prog w) A (compareOp .NotEq (.ref a) (.ref b)) Q E s := by
  refine SeqAt.compareNe_shaped (da := .tuple [d1, d2]) (db := .tuple [d1, d2]) (.tuple (N _ ma).1 rfl rfl (.cons r1 (.cons r2 .nil))) (.tuple (N _ mb).1 rfl rfl (.cons r3 (.cons r4 .nil))) hl hl hu ?_
  rw [he]
  exact h
theorem eqv_ints (q r : Int) : SeqAt.shaped (.tuple [.int q, .int r]) = true ∧ PyData.eqv (.tuple [.int q, .int r]) (.tuple [.int q, .int r]) = true := by
  refine ⟨?_, ?_⟩
  · rfl
  · simp [PyData.eqv, PyData.eqvAll]
theorem eqv_nils : SeqAt.shaped (.tuple [.str (Str.ofString ""), .str (Str.ofString "")]) = true ∧ PyData.eqv (.tuple [.str (Str.ofString ""), .str (Str.ofString "")]) (.tuple [.str (Str.ofString ""), .str (Str.ofString "")]) = true := by
  refine ⟨?_, ?_⟩
  · decide +kernel
  · decide +kernel
theorem tbs_of {own1 own2 rest0 rest : CbLed} {h₀ h : Heap} {L : Addr} {o1 o2 : Obj} (T : TbsM own1 own2 rest0) (N : News h₀ L h (rest ++ (own1 ++ own2))) (h63 : ((63, o1) : Addr × Obj) ∈ rest0) (h70 : ((70, o2) : Addr × Obj) ∈ rest0) (hr : ∀ q ∈ rest, NotTab q) : TbsM own1 own2 rest := by
  have hf := T.offs
  have a1 : ∀ q ∈ own1, @Ne Nat q.1 63 ∧ @Ne Nat q.1 70 := fun q hq => ⟨Ne.symm (hf q (List.mem_append_left _ hq) _ h63), Ne.symm (hf q (List.mem_append_left _ hq) _ h70)⟩
  have a2 : ∀ q ∈ own2, @Ne Nat q.1 63 ∧ @Ne Nat q.1 70 := fun q hq => ⟨Ne.symm (hf q (List.mem_append_right _ hq) _ h63), Ne.symm (hf q (List.mem_append_right _ hq) _ h70)⟩
  have b1 : Mine.Off own1 rest := TbM.off (News.perm N (fun p hp => by
    rcases List.mem_append.mp hp with hp | hp
    · exact List.mem_append_right _ (List.mem_append_left _ hp)
    · exact List.mem_append_left _ hp)) T.1 hr ⟨by decide, by decide⟩ a1
  have b2 : Mine.Off own2 rest := TbM.off (News.perm N (fun p hp => by
    rcases List.mem_append.mp hp with hp | hp
    · exact List.mem_append_right _ (List.mem_append_right _ hp)
    · exact List.mem_append_left _ hp)) T.2.1 hr ⟨by decide, by decide⟩ a2
  refine ⟨T.1, T.2.1, fun p hp q hq => ?_, b2⟩
  rcases List.mem_append.mp hq with hq | hq
  · exact T.2.2.1 p hp q (List.mem_append_left _ hq)
  · exact b1 p hp q hq
theorem notTab_tups (l : List Pr) : ∀ q ∈ tups l, NotTab q := fun q hq => by
  have hx9 := List.mem_map.mp hq
  first | (k_extra "xe3"; clear hx9; intro p _ eq9; subst eq9) | obtain ⟨p, _, rfl⟩ := hx9
  exact .inr (.inl ⟨(fun e => by cases e), (fun vs e => by cases e)⟩)
theorem notTab_cell {a : Addr} {o : Obj} {v : Option Value} (h : o.data = .cell v) : NotTab (a, o) := .inl ⟨v, h⟩
theorem notTab_63 {o : Obj} : NotTab ((63, o) : Addr × Obj) := .inr (.inr (.inl rfl))
theorem notTab_70 {o : Obj} : NotTab ((70, o) : Addr × Obj) := .inr (.inr (.inr rfl))
section
variable {prog : Program} {w : World} {A : Around} {h₀ : Heap} {L : Addr} {m : Str → Option Value} {env : Env} {elt : Expr} {x x₂ : Str} {scope : Scope} {cl : List (Str × Addr)} {s : Shared} {S : List (Addr × Obj) → Prop} {P : Nat → Value → Prop} {Fin : List Value → List (Addr × Obj) → Prop} {news : List (Addr × Obj)}
theorem compP {n : Nat} (J : Nat → List Value → List (Addr × Obj) → Prop) (h0 : J 0 [] news)
    (turn : ∀ i v ys nx, i < n → P i v → J i ys nx → ∃ (t : Addr) (ot : Obj) (v₁ v₂ : Value) (nt : Nat), v = .ref t ∧ (t, ot) ∈ nx ∧ ot.cls = .type "tuple" ∧ ot.data = .seq #[v₁, v₂] nt ∧
      ∀ I oI C oC D m₂ h tk (E' : Value → Shared → Prop), LCg.NsObj oC m₂ → m₂ x = some v₁ → m₂ x₂ = some v₂ → Fr h₀ L h m → News h₀ L h ((I, oI) :: (C, oC) :: (D, LCg.lst ys) :: nx) → LCg.Off3 I C D nx → ((@Ne Nat I C) ∧ (@Ne Nat I D) ∧ (@Ne Nat C D)) →
      wpAny (model prog w) A (eval elt (compEnvC scope cl C env)) (LCg.CompEnd h₀ L m { s with heap := h, toks := tk } I oI C oC D (LCg.lst ys) S (fun y news' => J (i + 1) (ys ++ [y]) news')) E' { s with heap := h, toks := tk })
    (fin : ∀ ys nx, J n ys nx → Fin ys nx) : LCp.CompRestP prog w A h₀ L m env elt x x₂ scope cl s S P Fin n 0 [] news := by
  have key : ∀ (j i : Nat) (ys : List Value) (nx : List (Addr × Obj)), i + j = n → J i ys nx → LCp.CompRestP prog w A h₀ L m env elt x x₂ scope cl s S P Fin j i ys nx := by
    intro j
    induction j with
    | zero =>
      intro i ys nx hi hy
      obtain rfl : i = n := by k_extra "li"
      exact LCp.CompRestP.zero (fin ys nx hy)
    | succ j ih =>
      intro i ys nx hi hy v hv
      have hx9 := turn i v ys nx (by k_extra "li") hv hy
      first | (k_extra "xe10"; clear hx9; intro t ot v₁ v₂ nt e1 e2 e3 e4 k) | obtain ⟨t, ot, v₁, v₂, nt, e1, e2, e3, e4, k⟩ := hx9
      refine ⟨t, ot, v₁, v₂, nt, e1, e2, e3, e4, ?_⟩
      intro I oI C oC D m₂ h tk E' hC hx hx2 F N off ne
      refine wpAny_mono (k I oI C oC D m₂ h tk E' hC hx hx2 F N off ne) (fun y s₂ hq => ?_) fun _ _ e => e
      first | (revert hq; intro hx9; k_extra "xe9"; clear hx9; intro h' tk' nw e F' N' off' hS hr) | obtain ⟨h', tk', nw, e, F', N', off', hS, hr⟩ := hq
      exact ⟨h', tk', nw, e, F', N', off', hS, ih (i + 1) _ _ (by k_extra "li") hr⟩
  exact key n 0 [] news (by k_extra "li") h0
end
theorem sign_at {l : List Nat} {i : Nat} {v : Value} (h : SignAt (tx l) i v) : ∃ t, v = .str (tx [l.getD i 0]) t := by
  first | (revert h; intro hx9; k_extra "xe4"; clear hx9; intro c u hc eq9; subst eq9) | obtain ⟨c, u, hc, rfl⟩ := h
  have e : (tx l).cps[i]? = l[i]? := by simp [tx]
  rw [e] at hc
  exact ⟨u, by simp [List.getD, hc, tx]⟩
theorem take_snocN {l : List Nat} {i : Nat} (h : i < l.length) : l.take (i + 1) = l.take i ++ [l.getD i 0] := by
  rw [List.take_add_one, List.getElem?_eq_getElem h]
  simp [List.getD, List.getElem?_eq_getElem h]
end
section
theorem sw_sw {c : Nat} (h : Ltr c) : sw (sw c) = c := by
  unfold Ltr at h; unfold sw; split <;> split <;> lia
theorem lo_sw {c : Nat} (h : Ltr c) : lo (sw c) = lo c := by
  unfold Ltr at h; unfold lo sw; split <;> split <;> lia
theorem sw_ne {c : Nat} (h : Ltr c) : sw c ≠ c := by
  unfold Ltr at h; unfold sw; split <;> lia
theorem map_sw_sw {l : List Nat} (h : ∀ c ∈ l, Ltr c) : (l.map sw).map sw = l := by
  rw [List.map_map]
  conv => rhs; rw [← List.map_id l]
  exact List.map_congr_left fun c hc => sw_sw (h c hc)
theorem map_lo_sw {l : List Nat} (h : ∀ c ∈ l, Ltr c) : (l.map sw).map lo = l.map lo := by
  rw [List.map_map]
  exact List.map_congr_left fun c hc => lo_sw (h c hc)
theorem ltr_map_sw {l : List Nat} (h : ∀ c ∈ l, Ltr c) : ∀ c ∈ l.map sw, Ltr c := fun c hc => by
  obtain ⟨d, hd, rfl⟩ := List.mem_map.mp hc
  exact ltr_sw (h d hd)
noncomputable def LP : List Nat := [1, 2, 8, 48, 384, 3840]
theorem lapsL_LP : ∀ n, n < 6 → ∀ k, k < n + 1 → (lapsL n).getD k 1 = LP.getD k 1 := by decide
theorem LP_pos : ∀ k, k < 6 → 0 < LP.getD k 1 := by decide
theorem LP_succ : ∀ k, k < 5 → LP.getD (k + 1) 1 = 2 * (k + 1) * LP.getD k 1 := by decide
theorem LP_dvd : ∀ k, k < 6 → ∀ j, j < k + 1 → LP.getD k 1 % LP.getD j 1 = 0 := by decide
theorem toldGo_congr {l l' : List Nat} : ∀ (k : Nat) (r : Nat) (t : List Nat), (∀ j, j < k → l.getD j 1 = l'.getD j 1) → toldGo l k r t = toldGo l' k r t
  | 0, _, _, _ => rfl
  | k + 1, r, t, h => by
    simp only [toldGo]
    rw [h k (by lia)]
    exact toldGo_congr k _ _ fun j hj => h j (by lia)
theorem toldGo_zero (l : List Nat) : ∀ (k : Nat) (t : List Nat), toldGo l k 0 t = t
  | 0, _ => rfl
  | k + 1, t => by
    simp only [toldGo, Nat.zero_div, Nat.zero_mod, rnds]
    exact toldGo_zero l k t
theorem getD_appL {a b : List Nat} {k : Nat} (h : k < a.length) : (a ++ b).getD k 0 = a.getD k 0 := by
  simp only [List.getD_eq_getElem?_getD, List.getElem?_append_left h]
theorem getD_appR {a : List Nat} {x : Nat} {k : Nat} (h : a.length = k) : (a ++ [x]).getD k 0 = x := by
  simp only [List.getD_eq_getElem?_getD, List.getElem?_append_right (show a.length ≤ k by lia), h, Nat.sub_self]
  rfl
theorem rnd_app {k : Nat} {a b : List Nat} (h0 : 0 < k) (h : k ≤ a.length) : rnd k (a ++ b) = rnd k a ++ b := by
  unfold rnd
  rw [getD_appL (by lia), List.take_append_of_le_length (by lia), List.drop_append_of_le_length h]
  simp only [List.append_assoc]
theorem rnds_app {k : Nat} {a b : List Nat} (h0 : 0 < k) (h : k ≤ a.length) : ∀ n, rnds k n (a ++ b) = rnds k n a ++ b
  | 0 => rfl
  | n + 1 => by
    simp only [rnds]
    rw [rnds_app h0 h n, rnd_app h0 (by rw [rnds_len h0 h]; exact h)]
theorem toldGo_app {l : List Nat} {b : List Nat} : ∀ (k : Nat) (r : Nat) (a : List Nat), k ≤ a.length → toldGo l k r (a ++ b) = toldGo l k r a ++ b
  | 0, _, _, _ => rfl
  | k + 1, r, a, h => by
    simp only [toldGo]
    rw [rnds_app (by lia) h, toldGo_app k _ _ (by rw [rnds_len (by lia) h]; lia)]
theorem rnd_full {n : Nat} {c : List Nat} (hn : 0 < n) (hl : c.length = n) : rnd n c = [sw (c.getD (n - 1) 0)] ++ c.take (n - 1) := by
  unfold rnd
  rw [List.drop_of_length_le (by lia), List.append_nil]
theorem take_getD {c : List Nat} {k : Nat} (h : k < c.length) : c.take k ++ [c.getD k 0] = c.take (k + 1) := by
  rw [List.take_add_one, List.getElem?_eq_getElem h]
  simp [List.getD, List.getElem?_eq_getElem h]
theorem drop_getD {c : List Nat} {k : Nat} (h : k < c.length) : c.getD k 0 :: c.drop (k + 1) = c.drop k := by
  rw [List.drop_eq_getElem_cons h]
  simp [List.getD, List.getElem?_eq_getElem h]
theorem rnds_lo {n : Nat} {c : List Nat} (hn : 0 < n) (hl : c.length = n) : ∀ d, d ≤ n → rnds n d c = (c.drop (n - d)).map sw ++ c.take (n - d)
  | 0, _ => by rw [Nat.sub_zero, List.drop_of_length_le (by lia), List.take_of_length_le (by lia)]; rfl
  | d + 1, h => by
    have ih := rnds_lo hn hl d (by lia)
    have hlen : (rnds n d c).length = n := by rw [rnds_len hn (by lia)]; exact hl
    simp only [rnds]
    rw [rnd_full hn hlen]
    have e1 : n - d - 1 < c.length := by lia
    have e2 : rnds n d c = ((c.drop (n - d)).map sw ++ c.take (n - d - 1)) ++ [c.getD (n - d - 1) 0] := by
      rw [ih, List.append_assoc, take_getD e1, show n - d - 1 + 1 = n - d from by lia]
    have e3 : ((c.drop (n - d)).map sw ++ c.take (n - d - 1)).length = n - 1 := by
      simp only [List.length_append, List.length_map, List.length_drop, List.length_take]
      lia
    rw [e2, getD_appR e3, List.take_append_of_le_length (by lia), List.take_of_length_le (by lia)]
    have e4 : c.drop (n - (d + 1)) = c.getD (n - d - 1) 0 :: c.drop (n - d) := by
      rw [show n - (d + 1) = n - d - 1 from by lia, ← drop_getD e1, show n - d - 1 + 1 = n - d from by lia]
    rw [e4, show n - (d + 1) = n - d - 1 from by lia]
    rfl
theorem rnds_hi {n : Nat} {c : List Nat} (hn : 0 < n) (hl : c.length = n) (hc : ∀ x ∈ c, Ltr x) (e : Nat) (he : e ≤ n) : rnds n (n + e) c = c.drop (n - e) ++ (c.take (n - e)).map sw := by
  have h1 : ∀ a b, rnds n (a + b) c = rnds n b (rnds n a c) := by
    intro a b
    induction b with
    | zero => rfl
    | succ b ih => rw [← Nat.add_assoc]; simp only [rnds]; rw [ih]
  have h2 : rnds n n c = c.map sw := by
    rw [rnds_lo hn hl n (Nat.le_refl _), Nat.sub_self]
    simp
  rw [h1, h2, rnds_lo hn (by rw [List.length_map]; exact hl) e he, ← List.map_drop, map_sw_sw (fun x hx => hc x (List.mem_of_mem_drop hx)), ← List.map_take]
theorem flipK_full {n : Nat} {c : List Nat} (hl : c.length = n) : flipK n c = c.reverse.map sw := by
  unfold flipK
  rw [List.take_of_length_le (by lia), List.drop_of_length_le (by lia), List.append_nil]
theorem told_max : ∀ (k : Nat) (a : List Nat), k ≤ 5 → a.length = k → (∀ c ∈ a, Ltr c) → toldGo LP k (LP.getD k 1 - 1) a = a.reverse.map sw
  | 0, a, _, h, _ => by
    rw [List.length_eq_zero_iff.mp h]; rfl
  | k + 1, a, h1, h2, h3 => by
    have e1 := LP_succ k (by lia)
    have e2 := LP_pos k (by lia)
    simp only [toldGo]
    have q1 : (LP.getD (k + 1) 1 - 1) / LP.getD k 1 = (k + 1) + k := by
      rw [e1]
      refine Nat.div_eq_of_lt_le ?_ ?_
      · rw [show 2 * (k + 1) * LP.getD k 1 = (k + 1 + k) * LP.getD k 1 + LP.getD k 1 from by rw [← Nat.succ_mul]; congr 1; lia]
        lia
      · rw [show (k + 1 + k + 1) = 2 * (k + 1) from by lia]
        have : 0 < 2 * (k + 1) * LP.getD k 1 := Nat.mul_pos (by lia) e2
        lia
    have q2 : (LP.getD (k + 1) 1 - 1) % LP.getD k 1 = LP.getD k 1 - 1 := by
      have h := Nat.div_add_mod (LP.getD (k + 1) 1 - 1) (LP.getD k 1)
      rw [q1] at h
      have e3 : LP.getD (k + 1) 1 = LP.getD k 1 * (k + 1 + k) + LP.getD k 1 := by
        rw [e1, ← Nat.mul_succ, Nat.mul_comm]; congr 1; lia
      lia
    rw [q1, q2, rnds_hi (by lia) h2 h3 k (by lia), show k + 1 - k = 1 from by lia]
    obtain ⟨x, r, rfl⟩ : ∃ x r, a = x :: r := by
      cases a with
      | nil => simp at h2
      | cons x r => exact ⟨x, r, rfl⟩
    have hr : r.length = k := by simpa using h2
    show toldGo LP k _ (r ++ [sw x]) = _
    rw [toldGo_app k _ r (by lia), told_max k r (by lia) hr fun c hc => h3 c (.tail _ hc)]
    simp
theorem flipK_app {k : Nat} {a b : List Nat} (h : a.length = k) : flipK k (a ++ b) = a.reverse.map sw ++ b := by
  unfold flipK
  rw [List.take_append_of_le_length (by lia), List.take_of_length_le (by lia), List.drop_append_of_le_length (by lia), List.drop_of_length_le (by lia), List.nil_append]
theorem flip_flip {k : Nat} {t : List Nat} (hk : k ≤ t.length) (ht : ∀ c ∈ t, Ltr c) : flipK k (flipK k t) = t := by
  have e : t = t.take k ++ t.drop k := (List.take_append_drop k t).symm
  have hl : (t.take k).length = k := by rw [List.length_take]; lia
  generalize hA : t.take k = A at *
  generalize t.drop k = B at *
  have hA' : ∀ c ∈ A, Ltr c := fun c hc => ht c (by rw [← hA] at hc; exact List.mem_of_mem_take hc)
  rw [e, flipK_app hl, flipK_app (by rw [List.length_map, List.length_reverse]; exact hl), ← List.map_reverse, List.reverse_reverse, map_sw_sw hA']
end
section
theorem flip_rnd {k : Nat} {Y : List Nat} (hk : k < Y.length) (hY : ∀ c ∈ Y, Ltr c) : flipK (k + 1) (flipK k Y) = rnd (k + 1) Y := by
  have e : Y = Y.take k ++ Y.getD k 0 :: Y.drop (k + 1) := by rw [drop_getD hk, List.take_append_drop]
  have hl : (Y.take k).length = k := by rw [List.length_take]; lia
  have hA' : ∀ c ∈ Y.take k, Ltr c := fun c hc => hY c (List.mem_of_mem_take hc)
  have h1 : flipK k Y = ((Y.take k).reverse.map sw ++ [Y.getD k 0]) ++ Y.drop (k + 1) := by
    conv => lhs; rw [e]
    rw [flipK_app hl, List.append_assoc]
    rfl
  rw [h1, flipK_app (by simp only [List.length_append, List.length_map, List.length_reverse, hl, List.length_singleton])]
  unfold rnd
  rw [Nat.add_sub_cancel]
  rw [List.reverse_append, ← List.map_reverse, List.reverse_reverse, List.reverse_singleton, List.map_append, map_sw_sw hA']
  rfl
theorem dvd_mod {N m r : Nat} (h : N % m = 0) : (r % N) % m = r % m := Nat.mod_mod_of_dvd r (Nat.dvd_of_mod_eq_zero h)
theorem told_step : ∀ (k : Nat) (r : Nat) (X : List Nat), k ≤ 5 → k ≤ X.length → (∀ c ∈ X, Ltr c) → r + 1 < LP.getD k 1 →
    ∃ K, 1 ≤ K ∧ K ≤ k ∧ toldGo LP k (r + 1) X = flipK K (toldGo LP k r X) ∧ ∀ j, j < k → ((r + 1) % LP.getD j 1 = 0 ↔ j < K)
  | 0, r, X, _, _, _, h => by
    have : LP.getD 0 1 = 1 := rfl
    lia
  | k + 1, r, X, h1, h2, h3, h => by
    have e1 := LP_succ k (by lia)
    have e2 := LP_pos k (by lia)
    have hY : ∀ d, ∀ c ∈ rnds (k + 1) d X, Ltr c := rnds_ltr (by lia) h2 h3
    have hYl : ∀ d, (rnds (k + 1) d X).length = X.length := rnds_len (by lia) h2
    have hdm := Nat.div_add_mod r (LP.getD k 1)
    have hml := Nat.mod_lt r e2
    simp only [toldGo]
    by_cases hc : r % LP.getD k 1 + 1 < LP.getD k 1
    · have q := (Nat.div_mod_unique e2 (a := r + 1) (d := r / LP.getD k 1) (c := r % LP.getD k 1 + 1)).mpr ⟨by lia, hc⟩
      rw [q.1, q.2]
      obtain ⟨K, k1, k2, k3, k4⟩ := told_step k (r % LP.getD k 1) (rnds (k + 1) (r / LP.getD k 1) X) (by lia) (by rw [hYl]; lia) (hY _) hc
      refine ⟨K, k1, by lia, k3, fun j hj => ?_⟩
      by_cases hjk : j = k
      · subst hjk
        rw [q.2]
        constructor
        · intro e; lia
        · intro e; lia
      · have hd := LP_dvd k (by lia) j (by lia)
        rw [← k4 j (by lia), ← dvd_mod (r := r + 1) hd, q.2]
    · have hr : r % LP.getD k 1 = LP.getD k 1 - 1 := by lia
      have q := (Nat.div_mod_unique e2 (a := r + 1) (d := r / LP.getD k 1 + 1) (c := 0)).mpr ⟨by rw [Nat.mul_succ]; lia, e2⟩
      rw [q.1, q.2, toldGo_zero, hr]
      have hYk : k < (rnds (k + 1) (r / LP.getD k 1) X).length := by rw [hYl]; lia
      have hY0 := hY (r / LP.getD k 1)
      refine ⟨k + 1, by lia, Nat.le_refl _, ?_, fun j hj => ?_⟩
      · simp only [rnds]
        generalize rnds (k + 1) (r / LP.getD k 1) X = Y at *
        rw [← flip_rnd hYk hY0]
        congr 1
        have e : Y = Y.take k ++ Y.drop k := (List.take_append_drop k Y).symm
        have hl : (Y.take k).length = k := by rw [List.length_take]; lia
        conv => rhs; rw [e]
        rw [toldGo_app k _ _ (by lia), told_max k _ (by lia) hl fun c hc => hY0 c (List.mem_of_mem_take hc)]
        conv => lhs; rw [e]
        rw [flipK_app hl]
      · have hd := LP_dvd k (by lia) j (by lia)
        constructor
        · intro _; exact hj
        · intro _
          rw [← dvd_mod (r := r + 1) hd, q.2, Nat.zero_mod]
theorem toldOf_LP {F : List Nat} (h2 : F.length ≤ 5) (x : Int) : toldOf F x = toldGo LP F.length (x % (LP.getD F.length 1 : Nat)).toNat F := by
  unfold toldOf
  rw [lapsL_LP F.length (by lia) F.length (by lia)]
  exact toldGo_congr _ _ _ fun j hj => lapsL_LP F.length (by lia) j (by lia)
theorem toNat_mod {x : Int} {N : Nat} (hN : 0 < N) : ((x % (N : Int)).toNat : Int) = x % (N : Int) := Int.toNat_of_nonneg (Int.emod_nonneg _ (by lia))
theorem toldOf_step {F : List Nat} (h1 : 1 ≤ F.length) (h2 : F.length ≤ 5) (h3 : ∀ c ∈ F, Ltr c) (x : Int) :
    ∃ K, 1 ≤ K ∧ K ≤ F.length ∧ toldOf F (x + 1) = flipK K (toldOf F x) ∧ ∀ j, j < F.length → ((x + 1) % ((lapsL F.length).getD j 1 : Nat) = 0 ↔ j < K) := by
  have hN := LP_pos F.length (by lia)
  rw [toldOf_LP h2, toldOf_LP h2]
  have hb := Int.emod_lt_of_pos x (show (0 : Int) < (LP.getD F.length 1 : Nat) by lia)
  have hb0 := Int.emod_nonneg x (show ((LP.getD F.length 1 : Nat) : Int) ≠ 0 by lia)
  have hx := toNat_mod (x := x) hN
  have hdiv : ∀ j, j < F.length → ((x + 1) % ((lapsL F.length).getD j 1 : Nat) = 0 ↔ ((x % (LP.getD F.length 1 : Nat)).toNat + 1) % LP.getD j 1 = 0) := by
    intro j hj
    have hd := LP_dvd F.length (by lia) j (by lia)
    rw [lapsL_LP F.length (by lia) j (by lia)]
    have e1 : (x + 1) % (LP.getD j 1 : Int) = (((x % (LP.getD F.length 1 : Nat)).toNat + 1 : Nat) : Int) % (LP.getD j 1 : Int) := by
      rw [Int.natCast_add, hx]
      show _ = (x % _ + 1) % _
      rw [Int.add_emod, Int.add_emod (x % _) 1, Int.emod_emod_of_dvd x (Int.natCast_dvd_natCast.mpr (Nat.dvd_of_mod_eq_zero hd))]
    rw [e1]
    constructor
    · intro h; exact_mod_cast h
    · intro h; exact_mod_cast h
  generalize hr : (x % (LP.getD F.length 1 : Nat)).toNat = r at *
  by_cases hc : r + 1 < LP.getD F.length 1
  · have e : ((x + 1) % (LP.getD F.length 1 : Nat)).toNat = r + 1 := by
      have : (x + 1) % ((LP.getD F.length 1 : Nat) : Int) = ((r + 1 : Nat) : Int) := by
        have hq := Int.mul_ediv_add_emod x (LP.getD F.length 1 : Nat)
        exact ((Int.ediv_emod_unique (by lia)).mpr ⟨by rw [← hx] at hq; rw [Int.natCast_add]; generalize (LP.getD F.length 1 : Int) * (x / (LP.getD F.length 1 : Nat)) = z at *; lia, by lia, by exact_mod_cast hc⟩ : (x + 1) / ((LP.getD F.length 1 : Nat) : Int) = x / ((LP.getD F.length 1 : Nat) : Int) ∧ _).2
      rw [this]; rfl
    rw [e]
    obtain ⟨K, k1, k2, k3, k4⟩ := told_step F.length r F h2 (Nat.le_refl _) h3 hc
    exact ⟨K, k1, k2, k3, fun j hj => (hdiv j hj).trans (k4 j hj)⟩
  · have hr1 : r = LP.getD F.length 1 - 1 := by lia
    have e : ((x + 1) % (LP.getD F.length 1 : Nat)).toNat = 0 := by
      have : (x + 1) % ((LP.getD F.length 1 : Nat) : Int) = 0 := by
        rw [Int.add_emod, ← hx, hr1]
        have h1' : (1 : Int) % ((LP.getD F.length 1 : Nat) : Int) = 1 % ((LP.getD F.length 1 : Nat) : Int) := rfl
        rw [← Int.emod_emod_of_dvd _ (Int.dvd_refl _), Int.emod_emod_of_dvd _ (Int.dvd_refl _), Int.add_emod_emod]
        have : (((LP.getD F.length 1 - 1 : Nat) : Int) + 1) = ((LP.getD F.length 1 : Nat) : Int) := by lia
        rw [this, Int.emod_self]
      rw [this]; rfl
    rw [e, toldGo_zero, hr1, told_max F.length F h2 rfl h3]
    refine ⟨F.length, h1, Nat.le_refl _, ?_, fun j hj => ?_⟩
    · rw [flipK_full (by rw [List.length_map, List.length_reverse]), ← List.map_reverse, List.reverse_reverse, map_sw_sw h3]
    · rw [hdiv j hj, hr1, Nat.sub_add_cancel hN]
      have hd := LP_dvd F.length (by lia) j (by lia)
      constructor
      · intro _; exact hj
      · intro _; exact hd
end
section
theorem rot_rnd {c : List Nat} {n : Nat} (hn : 0 < n) (hl : c.length = n) : rot c = rnd n c := by
  rw [rnd_full hn hl]
  unfold rot
  rw [hl]
theorem rots_rnds {c : List Nat} {n : Nat} (hn : 0 < n) (hl : c.length = n) : ∀ d, rots d c = rnds n d c
  | 0 => rfl
  | d + 1 => by
    simp only [rots, rnds]
    rw [rots_rnds hn hl d]
    exact rot_rnd hn (by rw [rnds_len hn (by lia)]; exact hl)
theorem plc_nodup : ∀ {l : List Nat} {i : Nat}, l.Nodup → i < l.length → plc (l.getD i 0) l = i
  | [], i, _, h => by simp at h
  | x :: r, 0, _, _ => by simp [plc]
  | x :: r, i + 1, hd, h => by
    have hn := List.nodup_cons.mp hd
    have hi : i < r.length := by simpa using h
    have ih := plc_nodup hn.2 hi
    have hm : r.getD i 0 ∈ r := by
      rw [show r.getD i 0 = r[i] from by simp [List.getD, List.getElem?_eq_getElem hi]]
      exact List.getElem_mem hi
    have e : (x :: r).getD (i + 1) 0 = r.getD i 0 := by simp [List.getD]
    rw [e]
    unfold plc
    rw [if_neg (fun e2 => hn.1 (by rw [e2]; exact hm)), ih]
theorem getD_map_lo {l : List Nat} {i : Nat} (h : i < l.length) : (l.map lo).getD i 0 = lo (l.getD i 0) := by
  simp [List.getD, List.getElem?_eq_getElem h]
theorem getD_mem' {l : List Nat} {i : Nat} (h : i < l.length) : l.getD i 0 ∈ l := by
  rw [show l.getD i 0 = l[i] from by simp [List.getD, List.getElem?_eq_getElem h]]
  exact List.getElem_mem h
theorem rndOf_eq {C T : List Nat} {k d : Nat} (hl : C.length = k + 1) (hC : ∀ c ∈ C, Ltr c) (hd : (C.map lo).Nodup) (h : d < 2 * (k + 1)) (hT : T.getD k 0 = (rnds (k + 1) d C).getD k 0) :
    rndOf T k C = d ∧ lo (T.getD k 0) ∈ C.map lo := by
  unfold rndOf
  rw [hT]
  by_cases hc : d < k + 1
  · have e1 : (rnds (k + 1) d C).getD k 0 = C.getD (k - d) 0 := by
      rw [rnds_lo (by lia) hl d (by lia)]
      have h1 : C.take (k + 1 - d) = C.take (k - d) ++ [C.getD (k - d) 0] := by rw [take_getD (by lia), show k - d + 1 = k + 1 - d from by lia]
      rw [h1, ← List.append_assoc, getD_appR (by simp only [List.length_append, List.length_map, List.length_drop, List.length_take]; lia)]
    have hm : C.getD (k - d) 0 ∈ C := getD_mem' (by lia)
    rw [e1, if_pos hm, ← getD_map_lo (by lia), plc_nodup hd (by rw [List.length_map]; lia)]
    refine ⟨by lia, ?_⟩
    exact getD_mem' (by rw [List.length_map]; lia)
  · obtain ⟨e, rfl⟩ : ∃ e, d = (k + 1) + e := ⟨d - (k + 1), by lia⟩
    have e1 : (rnds (k + 1) (k + 1 + e) C).getD k 0 = sw (C.getD (k - e) 0) := by
      rw [rnds_hi (by lia) hl hC e (by lia)]
      have h1 : C.take (k + 1 - e) = C.take (k - e) ++ [C.getD (k - e) 0] := by rw [take_getD (by lia), show k - e + 1 = k + 1 - e from by lia]
      rw [h1, List.map_append, ← List.append_assoc]
      show (_ ++ [sw (C.getD (k - e) 0)]).getD k 0 = _
      rw [getD_appR (by simp only [List.length_append, List.length_map, List.length_drop, List.length_take]; lia)]
    have hm : C.getD (k - e) 0 ∈ C := getD_mem' (by lia)
    have hL := hC _ hm
    have hlo : lo (sw (C.getD (k - e) 0)) = (C.map lo).getD (k - e) 0 := by rw [lo_sw hL, getD_map_lo (by lia)]
    have hnm : sw (C.getD (k - e) 0) ∉ C := by
      intro hin
      obtain ⟨i, hi, hi2⟩ := List.getElem_of_mem hin
      have hi3 : C.getD i 0 = sw (C.getD (k - e) 0) := by rw [← hi2]; simp [List.getD, List.getElem?_eq_getElem hi]
      have h1 : (C.map lo).getD i 0 = (C.map lo).getD (k - e) 0 := by rw [getD_map_lo hi, hi3, hlo]
      have h2 := plc_nodup hd (i := i) (by rw [List.length_map]; exact hi)
      have h3 := plc_nodup hd (i := k - e) (by rw [List.length_map]; lia)
      rw [h1, h3] at h2
      rw [← h2] at hi3
      exact sw_ne hL hi3.symm
    rw [e1, if_neg hnm, hlo, plc_nodup hd (by rw [List.length_map]; lia)]
    refine ⟨by lia, ?_⟩
    exact getD_mem' (by rw [List.length_map]; lia)
theorem rnds_nodup {n : Nat} {c : List Nat} (hn : 0 < n) (hl : c.length = n) (hc : ∀ x ∈ c, Ltr x) (hd : (c.map lo).Nodup) : ∀ d, ((rnds n d c).map lo).Nodup := by
  intro d
  induction d with
  | zero => exact hd
  | succ d ih =>
    simp only [rnds]
    have hlen : (rnds n d c).length = n := by rw [rnds_len hn (by lia)]; exact hl
    have hL := rnds_ltr hn (by lia) hc d
    generalize rnds n d c = Y at *
    rw [rnd_full hn hlen]
    have e : Y = Y.take (n - 1) ++ [Y.getD (n - 1) 0] := by rw [take_getD (by lia), show n - 1 + 1 = n from by lia, List.take_of_length_le (by lia)]
    rw [e, List.map_append] at ih
    rw [List.map_append]
    have e2 : [sw (Y.getD (n - 1) 0)].map lo = [Y.getD (n - 1) 0].map lo := by
      show [lo (sw _)] = [lo _]
      rw [lo_sw (hL _ (getD_mem' (by lia)))]
    rw [e2]
    exact List.Perm.nodup_iff (List.perm_append_comm) |>.mp ih
theorem hour_inv {l : List Nat} : ∀ (k r : Nat) (C T : List Nat) (h : Nat), k ≤ 5 → C.length = k → (∀ c ∈ C, Ltr c) → (C.map lo).Nodup → r < LP.getD k 1 → (∀ j, j < k → l.getD j 1 = LP.getD j 1) → T.take k = toldGo LP k r C →
    hourOk T k C ∧ hourGo l T k C h = h + r
  | 0, r, C, T, h, _, _, _, _, hr, _, _ => by
    have : LP.getD 0 1 = 1 := rfl
    exact ⟨trivial, by simp only [hourGo]; lia⟩
  | k + 1, r, C, T, h, h1, hl, hC, hd, hr, hj, hT => by
    have e1 := LP_succ k (by lia)
    have e2 := LP_pos k (by lia)
    have hdm := Nat.div_add_mod r (LP.getD k 1)
    have hml := Nat.mod_lt r e2
    have hdl : r / LP.getD k 1 < 2 * (k + 1) := by
      rw [Nat.div_lt_iff_lt_mul e2, ← e1]; exact hr
    simp only [toldGo] at hT
    have hYl : (rnds (k + 1) (r / LP.getD k 1) C).length = k + 1 := by rw [rnds_len (by lia) (by lia)]; exact hl
    have hYL := rnds_ltr (k := k + 1) (by lia) (by lia) hC (r / LP.getD k 1)
    have hYd := rnds_nodup (by lia) hl hC hd (r / LP.getD k 1)
    have hrots := rots_rnds (c := C) (by lia) hl (r / LP.getD k 1)
    have hro := rndOf_eq (T := T) hl hC hd hdl
    generalize hd9 : r / LP.getD k 1 = d at *
    generalize hY9 : rnds (k + 1) d C = Y at *
    have hYe : Y = Y.take k ++ [Y.getD k 0] := by rw [take_getD (by lia), List.take_of_length_le (by lia)]
    have hYk : (Y.take k).length = k := by rw [List.length_take]; lia
    have hTe : T.take (k + 1) = toldGo LP k (r % LP.getD k 1) (Y.take k) ++ [Y.getD k 0] := by
      rw [hT]
      conv => lhs; rw [hYe]
      exact toldGo_app k _ _ (by lia)
    have hgl : (toldGo LP k (r % LP.getD k 1) (Y.take k)).length = k := (toldGo_ok LP k _ _ hYk (Nat.le_refl _) (fun c hc => hYL c (List.mem_of_mem_take hc))).1
    have hTl : k < T.length := by
      have := congrArg List.length hTe
      simp only [List.length_take, List.length_append, List.length_singleton, hgl] at this
      lia
    have hTk : T.getD k 0 = Y.getD k 0 := by
      have h3 : (T.take (k + 1)).getD k 0 = T.getD k 0 := by
        simp only [List.getD_eq_getElem?_getD, List.getElem?_take, Nat.lt_succ_self, if_true]
      rw [← h3, hTe, getD_appR hgl]
    have hTt : T.take k = toldGo LP k (r % LP.getD k 1) (Y.take k) := by
      have h3 : (T.take (k + 1)).take k = T.take k := by rw [List.take_take, Nat.min_eq_left (by lia)]
      rw [← h3, hTe, List.take_append_of_le_length (by lia), List.take_of_length_le (by lia)]
    obtain ⟨hr1, hr2⟩ := hro hTk
    obtain ⟨i1, i2⟩ := hour_inv k (r % LP.getD k 1) (Y.take k) T (h + d * l.getD k 1) (by lia) hYk (fun c hc => hYL c (List.mem_of_mem_take hc))
      (by rw [List.map_take]; exact List.Nodup.sublist (List.take_sublist _ _) hYd) hml (fun j hj2 => hj j (by lia)) hTt
    simp only [hourOk, hourGo]
    rw [hr1, hrots, hl, Nat.add_sub_cancel]
    refine ⟨⟨hr2, i1⟩, ?_⟩
    rw [i2, hj k (by lia)]
    rw [Nat.mul_comm] at hdm
    lia
theorem hour_ok {fs : List Nat} {n : Nat} (hl : fs.length = n) (h1 : 3 ≤ n) (h2 : n ≤ 5) (hL : ∀ c ∈ fs, Ltr c) (hd : (fs.map lo).Nodup) (x : Int) :
    hourOk (toldOf fs x) fs.length fs ∧ hourGo (lapsL fs.length) (toldOf fs x) fs.length fs 0 = (x % ((lapsL n).getD n 1 : Nat)).toNat := by
  have hN := LP_pos fs.length (by lia)
  have hlt := Int.emod_lt_of_pos x (show (0 : Int) < (LP.getD fs.length 1 : Nat) by lia)
  have hx := toNat_mod (x := x) hN
  have := hour_inv (l := lapsL fs.length) fs.length (x % (LP.getD fs.length 1 : Nat)).toNat fs (toldOf fs x) 0 (by lia) rfl hL hd (by lia) (fun j hj => lapsL_LP fs.length (by lia) j (by lia)) (by
    rw [List.take_of_length_le (by rw [toldOf_len hL]; lia)]
    exact toldOf_LP (by lia) x)
  rw [Nat.zero_add] at this
  rw [← hl, lapsL_LP fs.length (by lia) fs.length (by lia)]
  exact this
end
section
section
variable (sc : Nat → Nat → Int)
noncomputable def inSG (A : List Nat) (bc i : Nat) (st : InSt) : InSt :=
  let sub := st.d + sc bc (A.getD i 0)
  let d := st.row.getD i 0
  let ide := (if d < st.res then d else st.res) + 2
  let res := if sub < ide then sub else ide
  ⟨st.row.set i res, d, res, if res < st.mn then res else st.mn⟩
noncomputable def innG (A : List Nat) (bc : Nat) (st : InSt) : Nat → InSt
  | 0 => st
  | i + 1 => inSG sc A bc i (innG A bc st i)
noncomputable def outG (A : List Nat) (m : Int) : List Nat → Nat → List Int → Int → Int
  | [], _, _, res => res
  | bc :: bs, j, row, _ =>
    let st := innG sc A bc ⟨row, 2 * j, 2 * j, big⟩ A.length
    if st.mn > m then m + 1 else outG A m bs (j + 1) st.row st.res
noncomputable def coreG (A B : List Nat) (m : Int) : Int := if ((B.length : Int) - A.length) * 2 > m then m + 1 else outG sc A m B 0 (row0 A.length) 0
noncomputable def midG (A B : List Nat) (m : Int) : Int :=
  if A = [] ∨ B = [] then 2 * ((A.length : Int) + B.length)
  else if 40 < A.length ∨ 40 < B.length then m + 1
  else if B.length < A.length then coreG sc B A m else coreG sc A B m
noncomputable def levG (a b : List Nat) (m : Int) : Int :=
  if a = b then 0 else
    let p := cpl a b
    let A := a.drop p
    let B := b.drop p
    let q := cpl A.reverse B.reverse
    midG sc (A.take (A.length - q)) (B.take (B.length - q)) m
end
theorem inn_eq (A : List Nat) (bc : Nat) (st : InSt) : ∀ i, inn A bc st i = innG scN A bc st i
  | 0 => rfl
  | i + 1 => by rw [inn, innG, inn_eq A bc st i]; rfl
theorem out_eq (A : List Nat) (m : Int) : ∀ (bs : List Nat) (j : Nat) (row : List Int) (res : Int), outFrom A m bs j row res = outG scN A m bs j row res
  | [], _, _, _ => rfl
  | bc :: bs, j, row, res => by
    simp only [outFrom, outG]
    rw [inn_eq, out_eq A m bs]
theorem pyLev_eq (a b : List Nat) (m : Int) : pyLev a b m = levG scN a b m := by
  unfold pyLev levG levMid midG levCore coreG
  simp only [out_eq]
section
variable {sc sc' : Nat → Nat → Int} {f : Nat → Nat}
theorem inn_map {A : List Nat} {bc : Nat} (h : ∀ y ∈ A, sc (f bc) (f y) = sc' bc y) (st : InSt) : ∀ i, i ≤ A.length → innG sc (A.map f) (f bc) st i = innG sc' A bc st i
  | 0, _ => rfl
  | i + 1, hi => by
    rw [innG, innG, inn_map h st i (by lia)]
    have e : (A.map f).getD i 0 = f (A.getD i 0) := by simp [List.getD, List.getElem?_eq_getElem (show i < A.length by lia)]
    have hm : A.getD i 0 ∈ A := by
      rw [show A.getD i 0 = A[i] from by simp [List.getD, List.getElem?_eq_getElem (show i < A.length by lia)]]
      exact List.getElem_mem _
    unfold inSG
    rw [e, h _ hm]
theorem out_map {A : List Nat} (m : Int) : ∀ (bs : List Nat) (j : Nat) (row : List Int) (res : Int), (∀ x ∈ bs, ∀ y ∈ A, sc (f x) (f y) = sc' x y) → outG sc (A.map f) m (bs.map f) j row res = outG sc' A m bs j row res
  | [], _, _, _, _ => rfl
  | bc :: bs, j, row, res, h => by
    simp only [outG, List.map_cons, List.length_map]
    rw [inn_map (h bc (.head _)) _ _ (Nat.le_refl _)]
    split
    · rfl
    · exact out_map m bs _ _ _ fun x hx => h x (.tail _ hx)
theorem core_map {A B : List Nat} (m : Int) (h : ∀ x ∈ B, ∀ y ∈ A, sc (f x) (f y) = sc' x y) : coreG sc (A.map f) (B.map f) m = coreG sc' A B m := by
  unfold coreG
  rw [List.length_map, List.length_map, out_map m B _ _ _ h]
theorem mid_map {A B : List Nat} (m : Int) (h : ∀ x ∈ B, ∀ y ∈ A, sc (f x) (f y) = sc' x y) (h' : ∀ x ∈ A, ∀ y ∈ B, sc (f x) (f y) = sc' x y) : midG sc (A.map f) (B.map f) m = midG sc' A B m := by
  unfold midG
  rw [core_map m h, core_map m h']
  simp only [List.map_eq_nil_iff, List.length_map]
theorem cpl_map : ∀ {a b : List Nat}, (∀ x ∈ a, ∀ y ∈ b, f x = f y → x = y) → cpl (a.map f) (b.map f) = cpl a b
  | [], _, _ => by cases ‹List Nat› <;> rfl
  | _ :: _, [], _ => rfl
  | x :: a, y :: b, h => by
    have ih := cpl_map (a := a) (b := b) fun x hx y hy => h x (.tail _ hx) y (.tail _ hy)
    simp only [List.map_cons, cpl]
    by_cases e : x = y
    · rw [if_pos e, if_pos (by rw [e]), ih]
    · rw [if_neg e, if_neg (fun e2 => e (h x (.head _) y (.head _) e2))]
theorem map_inj' : ∀ {a b : List Nat}, (∀ x ∈ a, ∀ y ∈ b, f x = f y → x = y) → a.map f = b.map f → a = b
  | [], [], _, _ => rfl
  | [], _ :: _, _, e => by simp at e
  | _ :: _, [], _, e => by simp at e
  | x :: a, y :: b, h, e => by
    simp only [List.map_cons, List.cons.injEq] at e
    rw [h x (.head _) y (.head _) e.1, map_inj' (fun x hx y hy => h x (.tail _ hx) y (.tail _ hy)) e.2]
theorem lev_map {a b : List Nat} (m : Int) (hi : ∀ x ∈ a, ∀ y ∈ b, f x = f y → x = y) (h : ∀ x ∈ b, ∀ y ∈ a, sc (f x) (f y) = sc' x y) (h' : ∀ x ∈ a, ∀ y ∈ b, sc (f x) (f y) = sc' x y) : levG sc (a.map f) (b.map f) m = levG sc' a b m := by
  unfold levG
  by_cases e : a = b
  · rw [if_pos e, if_pos (by rw [e])]
  · rw [if_neg e, if_neg (fun e2 => e (map_inj' hi e2)), cpl_map hi]
    simp only [← List.map_drop, ← List.map_reverse, List.length_map, ← List.map_take]
    rw [cpl_map (f := f) (a := (a.drop (cpl a b)).reverse) (b := (b.drop (cpl a b)).reverse) fun x hx y hy => hi x (List.mem_of_mem_drop (List.mem_reverse.mp hx)) y (List.mem_of_mem_drop (List.mem_reverse.mp hy))]
    refine mid_map m (fun x hx y hy => h x (List.mem_of_mem_drop (List.mem_of_mem_take hx)) y (List.mem_of_mem_drop (List.mem_of_mem_take hy))) (fun x hx y hy => h' x (List.mem_of_mem_drop (List.mem_of_mem_take hx)) y (List.mem_of_mem_drop (List.mem_of_mem_take hy)))
end
noncomputable def scL (x y : Nat) : Int := if x = y then 0 else if lo x = lo y then 1 else 2
theorem tx1_inj {x y : Nat} (h : tx [x] = tx [y]) : x = y := by
  have := congrArg (fun s => s.cps.toList) h
  simpa [tx] using this
theorem scN_scL {x y : Nat} (hx : Ltr x) (hy : Ltr y) : scN x y = scL x y := by
  have hl : ∀ c, Ltr c → Txt.lower (tx [c]) = tx [lo c] := fun c hc => lower_tx (l := [c]) fun d hd => by rw [List.mem_singleton.mp hd]; exact hc
  unfold scN scS scL
  rw [hl x hx, hl y hy]
  by_cases e : x = y
  · rw [if_pos e, if_pos (by rw [e])]
  · rw [if_neg e, if_neg (fun e2 => e (tx1_inj e2))]
    by_cases e3 : lo x = lo y
    · rw [if_pos e3, if_pos (by rw [e3])]
    · rw [if_neg e3, if_neg (fun e2 => e3 (tx1_inj e2))]
noncomputable def canon (n : Nat) : List Nat := (List.range n).map (· + 97)
theorem canon_far : ∀ n, n < 6 → ∀ K, K < n + 1 → 3 ≤ n → 1 ≤ K → levG scL (canon n) (flipK K (canon n)) (2 * (n : Int)) = ((2 * K - K % 2 : Nat) : Int) ∧
    levG scL (canon n).reverse (flipK K (canon n)).reverse (((2 * K - K % 2 : Nat) : Int) - 1) = ((2 * K - K % 2 : Nat) : Int) := by decide +kernel
end
section
theorem rnd_perm {k : Nat} {t : List Nat} (h0 : 0 < k) (h : k ≤ t.length) (ht : ∀ c ∈ t, Ltr c) : ((rnd k t).map lo).Perm (t.map lo) := by
  have hk : k - 1 < t.length := by lia
  have e : t = t.take (k - 1) ++ t.getD (k - 1) 0 :: t.drop k := by
    conv => lhs; rw [← List.take_append_drop (k - 1) t, ← drop_getD hk, show k - 1 + 1 = k from by lia]
  have hL := ht _ (getD_mem' hk)
  unfold rnd
  rw [List.map_append, List.map_append]
  conv => rhs; rw [e, List.map_append, List.map_cons]
  show ([lo (sw (t.getD (k - 1) 0))] ++ _ ++ _).Perm _
  rw [lo_sw hL]
  have := (List.perm_middle (a := lo (t.getD (k - 1) 0)) (l₁ := (t.take (k - 1)).map lo) (l₂ := (t.drop k).map lo)).symm
  simpa using this
theorem rnds_perm {k : Nat} {t : List Nat} (h0 : 0 < k) (h : k ≤ t.length) (ht : ∀ c ∈ t, Ltr c) : ∀ n, ((rnds k n t).map lo).Perm (t.map lo)
  | 0 => .refl _
  | n + 1 => by
    simp only [rnds]
    exact (rnd_perm h0 (by rw [rnds_len h0 h]; exact h) (rnds_ltr h0 h ht n)).trans (rnds_perm h0 h ht n)
theorem toldGo_perm (l : List Nat) : ∀ (k r : Nat) (t : List Nat), k ≤ t.length → (∀ c ∈ t, Ltr c) → ((toldGo l k r t).map lo).Perm (t.map lo)
  | 0, _, _, _, _ => .refl _
  | k + 1, r, t, h, ht => by
    simp only [toldGo]
    exact (toldGo_perm l k _ _ (by rw [rnds_len (by lia) h]; lia) (rnds_ltr (by lia) h ht _)).trans (rnds_perm (by lia) h ht _)
theorem toldOf_nodup {F : List Nat} (hL : ∀ c ∈ F, Ltr c) (hd : (F.map lo).Nodup) (x : Int) : ((toldOf F x).map lo).Nodup := (toldGo_perm _ _ _ _ (Nat.le_refl _) hL).nodup_iff.mpr hd
noncomputable def ren (B : List Nat) (x : Nat) : Nat := if 97 ≤ x then B.getD (x - 97) 0 else sw (B.getD (x - 65) 0)
noncomputable def idx (x : Nat) : Nat := if 97 ≤ x then x - 97 else x - 65
noncomputable def Cn (n x : Nat) : Prop := ∃ i, i < n ∧ (x = 97 + i ∨ x = 65 + i)
theorem ren_hi {B : List Nat} {i : Nat} : ren B (97 + i) = B.getD i 0 := by
  unfold ren
  rw [if_pos (by lia), show 97 + i - 97 = i from by lia]
theorem ren_lo {B : List Nat} {i : Nat} (h : i < 26) : ren B (65 + i) = sw (B.getD i 0) := by
  unfold ren
  rw [if_neg (by lia), show 65 + i - 65 = i from by lia]
section
variable {B : List Nat} {n : Nat}
theorem lo_inj (hl : B.length = n) (hd : (B.map lo).Nodup) {i j : Nat} (hi : i < n) (hj : j < n) (e : lo (B.getD i 0) = lo (B.getD j 0)) : i = j := by
  have h1 := plc_nodup hd (i := i) (by rw [List.length_map]; lia)
  have h2 := plc_nodup hd (i := j) (by rw [List.length_map]; lia)
  rw [getD_map_lo (by lia)] at h1 h2
  rw [e, h2] at h1
  exact h1.symm
theorem sc_ren (hl : B.length = n) (hn : n ≤ 5) (hL : ∀ c ∈ B, Ltr c) (hd : (B.map lo).Nodup) {x y : Nat} (hx : Cn n x) (hy : Cn n y) : (ren B x = ren B y → x = y) ∧ scN (ren B x) (ren B y) = scL x y := by
  obtain ⟨i, hi, hx⟩ := hx
  obtain ⟨j, hj, hy⟩ := hy
  have li := hL _ (getD_mem' (l := B) (i := i) (by lia))
  have lj := hL _ (getD_mem' (l := B) (i := j) (by lia))
  have hij := fun e => lo_inj hl hd hi hj e
  have key : Ltr (ren B x) ∧ Ltr (ren B y) ∧ lo (ren B x) = lo (B.getD i 0) ∧ lo (ren B y) = lo (B.getD j 0) ∧ lo x = 97 + i ∧ lo y = 97 + j := by
    rcases hx with rfl | rfl <;> rcases hy with rfl | rfl
    · rw [ren_hi, ren_hi]; exact ⟨li, lj, rfl, rfl, by unfold lo; rw [if_neg (by lia)], by unfold lo; rw [if_neg (by lia)]⟩
    · rw [ren_hi, ren_lo (by lia)]; exact ⟨li, ltr_sw lj, rfl, lo_sw lj, by unfold lo; rw [if_neg (by lia)], by unfold lo; rw [if_pos (by lia)]; lia⟩
    · rw [ren_hi, ren_lo (by lia)]; exact ⟨ltr_sw li, lj, lo_sw li, rfl, by unfold lo; rw [if_pos (by lia)]; lia, by unfold lo; rw [if_neg (by lia)]⟩
    · rw [ren_lo (by lia), ren_lo (by lia)]; exact ⟨ltr_sw li, ltr_sw lj, lo_sw li, lo_sw lj, by unfold lo; rw [if_pos (by lia)]; lia, by unfold lo; rw [if_pos (by lia)]; lia⟩
  obtain ⟨k1, k2, k3, k4, k5, k6⟩ := key
  have hinj : ren B x = ren B y → x = y := by
    intro e
    have e2 : i = j := hij (by rw [← k3, ← k4, e])
    subst e2
    rcases hx with rfl | rfl <;> rcases hy with rfl | rfl
    · rfl
    · rw [ren_hi, ren_lo (by lia)] at e; exact absurd e.symm (sw_ne li)
    · rw [ren_hi, ren_lo (by lia)] at e; exact absurd e (sw_ne li)
    · rfl
  refine ⟨hinj, ?_⟩
  rw [scN_scL k1 k2]
  unfold scL
  by_cases e : x = y
  · rw [if_pos (by rw [e]), if_pos e]
  · rw [if_neg (fun e2 => e (hinj e2)), if_neg e, k3, k4, k5, k6]
    by_cases e3 : i = j
    · rw [if_pos (by rw [e3]), if_pos (by rw [e3])]
    · rw [if_neg (fun e2 => e3 (hij e2)), if_neg (fun e2 => e3 (by lia))]
theorem canon_cn {x : Nat} (h : x ∈ canon n) : ∃ i, i < n ∧ x = 97 + i := by
  obtain ⟨i, hi, rfl⟩ := List.mem_map.mp h
  exact ⟨i, List.mem_range.mp hi, by lia⟩
theorem canon_map (hl : B.length = n) : (canon n).map (ren B) = B := by
  unfold canon
  rw [List.map_map]
  apply List.ext_getElem
  · simp [hl]
  · intro i h1 h2
    simp only [List.getElem_map, List.getElem_range, Function.comp]
    rw [Nat.add_comm, ren_hi]
    simp [List.getD, List.getElem?_eq_getElem h2]
theorem canon_flip (hl : B.length = n) (hn : n ≤ 5) {K : Nat} : (flipK K (canon n)).map (ren B) = flipK K B := by
  have hc := canon_map hl
  unfold flipK
  rw [List.map_append, List.map_drop, hc]
  congr 1
  conv => rhs; rw [← hc]
  rw [← List.map_take, ← List.map_reverse, List.map_map, List.map_map]
  refine List.map_congr_left fun x hx => ?_
  obtain ⟨i, hi, rfl⟩ := canon_cn (List.mem_of_mem_take (List.mem_reverse.mp hx))
  show ren B (sw (97 + i)) = sw (ren B (97 + i))
  rw [ren_hi, show sw (97 + i) = 65 + i from by unfold sw; rw [if_neg (by lia)]; lia, ren_lo (by lia)]
theorem cn_canon {x : Nat} (h : x ∈ canon n) : Cn n x := by
  obtain ⟨i, hi, e⟩ := canon_cn h
  exact ⟨i, hi, .inl e⟩
theorem cn_flip (hn : n ≤ 5) {K x : Nat} (h : x ∈ flipK K (canon n)) : Cn n x := by
  unfold flipK at h
  rcases List.mem_append.mp h with h | h
  · obtain ⟨y, hy, rfl⟩ := List.mem_map.mp h
    obtain ⟨i, hi, rfl⟩ := canon_cn (List.mem_of_mem_take (List.mem_reverse.mp hy))
    refine ⟨i, hi, .inr ?_⟩
    unfold sw; rw [if_neg (by lia)]; lia
  · exact cn_canon (List.mem_of_mem_drop h)
theorem lev_flip (hl : B.length = n) (h1 : 3 ≤ n) (hn : n ≤ 5) (hL : ∀ c ∈ B, Ltr c) (hd : (B.map lo).Nodup) {K : Nat} (k1 : 1 ≤ K) (k2 : K ≤ n) :
    pyLev B (flipK K B) (2 * (n : Int)) = ((2 * K - K % 2 : Nat) : Int) ∧ pyLev B.reverse (flipK K B).reverse (((2 * K - K % 2 : Nat) : Int) - 1) = ((2 * K - K % 2 : Nat) : Int) := by
  obtain ⟨c1, c2⟩ := canon_far n (by lia) K (by lia) h1 k1
  have hs : ∀ {x y}, Cn n x → Cn n y → _ := fun {x y} hx hy => sc_ren hl hn hL hd (x := x) (y := y) hx hy
  have e1 := canon_map hl
  have e2 := canon_flip hl hn (K := K)
  refine ⟨?_, ?_⟩
  · rw [pyLev_eq, ← c1]
    conv => lhs; rw [← e1]
    rw [e1, ← e2]
    conv => lhs; rw [← e1]
    rw [e1]
    conv => lhs; arg 2; rw [← e1]
    exact lev_map (f := ren B) (sc := scN) (sc' := scL) _ (fun x hx y hy => (hs (cn_canon hx) (cn_flip hn hy)).1) (fun x hx y hy => (hs (cn_flip hn hx) (cn_canon hy)).2) (fun x hx y hy => (hs (cn_canon hx) (cn_flip hn hy)).2)
  · rw [pyLev_eq, ← e2, ← List.map_reverse]
    conv => lhs; arg 2; rw [← e1, ← List.map_reverse]
    refine (lev_map (f := ren B) (sc := scN) (sc' := scL) _ (fun x hx y hy => (hs (cn_canon (List.mem_reverse.mp hx)) (cn_flip hn (List.mem_reverse.mp hy))).1) (fun x hx y hy => (hs (cn_flip hn (List.mem_reverse.mp hx)) (cn_canon (List.mem_reverse.mp hy))).2) (fun x hx y hy => (hs (cn_canon (List.mem_reverse.mp hx)) (cn_flip hn (List.mem_reverse.mp hy))).2)).trans c2
end
theorem turn_at {fs : List Nat} {n : Nat} (hl : fs.length = n) (h1 : 3 ≤ n) (h2 : n ≤ 5) (hL : ∀ c ∈ fs, Ltr c) (hd : (fs.map lo).Nodup) (x : Int) :
    (∃ K, TurnOk n (toldOf fs x) (toldOf fs (x + 1)) (x + 1) K) ∧ ∃ K, TurnOk n (toldOf fs (x + 1)) (toldOf fs x) (x + 1) K := by
  obtain ⟨K, k1, k2, k3, k4⟩ := toldOf_step (F := fs) (by lia) (by lia) hL x
  rw [hl] at k2 k4
  have la := fun y => (toldOf_len hL y).trans hl
  have lb := fun y => toldOf_ltr hL y
  have lc := fun y => toldOf_nodup hL hd y
  have k5 : toldOf fs x = flipK K (toldOf fs (x + 1)) := by rw [k3, flip_flip (by rw [la]; exact k2) (lb x)]
  refine ⟨⟨K, k1, k2, la _, la _, lb _, lb _, k3, ?_, ?_, k4⟩, ⟨K, k1, k2, la _, la _, lb _, lb _, k5, ?_, ?_, k4⟩⟩
  · rw [k3]; exact (lev_flip (la x) h1 h2 (lb x) (lc x) k1 k2).1
  · rw [k3]; exact (lev_flip (la x) h1 h2 (lb x) (lc x) k1 k2).2
  · rw [k5]
    have := (lev_flip (la (x + 1)) h1 h2 (lb (x + 1)) (lc (x + 1)) k1 k2).1
    exact this
  · rw [k5]
    have := (lev_flip (la (x + 1)) h1 h2 (lb (x + 1)) (lc (x + 1)) k1 k2).2
    exact this
theorem turn_ok {fs : List Nat} {hr way : Int} {n i : Nat} (hl : fs.length = n) (h1 : 3 ≤ n) (h2 : n ≤ 5) (hL : ∀ c ∈ fs, Ltr c) (hd : (fs.map lo).Nodup) (hi : i < 3) :
    ∃ K, TurnOk n (toldOf fs ((hoursL hr way).getD i 0)) (toldOf fs ((hoursL hr way).getD (i + 1) 0)) (laterOf (hoursL hr way) i) K := by
  have key : ∀ a b : Int, (hoursL hr way).getD i 0 = a → (hoursL hr way).getD (i + 1) 0 = b → (b = a + 1 ∨ a = b + 1) → ∃ K, TurnOk n (toldOf fs a) (toldOf fs b) (if b > a then b else a) K := by
    intro a b _ _ hab
    rcases hab with rfl | rfl
    · rw [if_pos (by lia)]; exact (turn_at hl h1 h2 hL hd a).1
    · rw [if_neg (by lia)]; exact (turn_at hl h1 h2 hL hd b).2
  refine key _ _ rfl rfl ?_
  unfold hoursL
  rcases i with _ | _ | _ | _
  · split <;> simp [List.getD] <;> lia
  · split <;> simp [List.getD] <;> lia
  · split <;> simp [List.getD] <;> lia
  · lia
end
section
theorem hour_c (w : World) (loose : List Str) (mean : ExcName → Option Value) (mg mb : Str → Option Value) : ∀ (news : CbLed) (told : List Nat) (tt : Tok) (first : List Nat) (tf : Tok) (D : Addr) (ul : List Value) (kk : Nat), 3 ≤ first.length → first.length ≤ 5 → told.length = first.length → (∀ c ∈ first, Ltr c) → (∀ c ∈ told, Ltr c) → IntsAre ul ((lapsL first.length).map fun (x : Nat) => (x : Int)) → hourOk told first.length first →
   Cl PySem.Challenge.rw_sr0059_01.row.prog w (K39 w.params) topProg loose mean mg mb 175 10 100 ((D, listOf ul.toArray kk) :: news) [.str (tx told) tt, .str (tx first) tf, .ref D]
     (fun r nx => (∃ (t : Tok), r = .int (hourGo (lapsL first.length) told first.length first 0 : Nat) t) ∧ nx = (D, listOf ul.toArray kk) :: news) := by
  k_fill
  intro news told tt first tf D ul kk hc1 hc2 hlt hltr hltt hI hok
  refine Cl.mk ?_
  intro dp un gd cn cs ca ccd cl outer A₀ base h₀ L m s Q E kB kF kX kN kT kcs kd ku hret
  refine wpAny_call ?_
  k_extra "enter"
  intro g L1 h1 FG F0 N B X T
  dsimp only
  refine noE ?_
  k_fold
  try k_gentoks
  have hx9 : Loc g L1 h1 [("laps", .ref D), ("first", .str (tx first) tf), ("told", .str (tx told) tt)] := loc F0 (by k_extra "kn_all")
  first | (k_extra "xe2"; clear hx9; intro r1 F) | obtain ⟨r1, F⟩ := hx9
  clear F0
  have hll : ((lapsL first.length).map fun (x : Nat) => (x : Int)).length = first.length + 1 := by
    simp [lapsL]; k_extra "li"
  refine seqQ (fun h => ∃ (t : Tok), Loc g L1 h [("hour", .int ((0 : Nat) : Int) t), ("cakes", .str (tx first) tf), ("laps", .ref D), ("first", .str (tx first) tf), ("told", .str (tx told) tt)] ∧ News g L1 h ((D, listOf ul.toArray kk) :: news)) ?_ ?_
  · intro Qn hN hRt
    k_extra "ks"
    exact hN _ _ ⟨_, by k_extra "lo", News.perm (by assumption) (by k_extra "psub")⟩
  intro h2 tk2 hP
  first | (revert hP; intro hx9; k_extra "xe3"; clear hx9; intro t2 hx9; (first | (k_extra "xq2"; clear hx9; intro r2 F2) | obtain ⟨r2, F2⟩ := hx9); intro N2) | obtain ⟨t2, ⟨r2, F2⟩, N2⟩ := hP
  clear F N
  dsimp only
  refine seqQ (fun h => ∃ (t : Tok), Loc g L1 h [("hour", .int (hourGo (lapsL first.length) told first.length first 0 : Nat) t)] ∧ News g L1 h ((D, listOf ul.toArray kk) :: news)) ?_ ?_
  · intro Qn hN hRt
    k_extra "kfor"
    refine forDown (σ := List Nat × Nat × Tok × Tok) (fun c => (D, listOf ul.toArray kk) :: news) (fun c => [("hour", .int (c.2.1 : Int) c.2.2.1), ("cakes", .str (tx c.1) c.2.2.2), ("laps", .ref D), ("first", .str (tx first) tf), ("told", .str (tx told) tt)])
      (fun i c => c.1.length = first.length - i ∧ (∀ x ∈ c.1, Ltr x) ∧ hourOk told (first.length - i) c.1 ∧ hourGo (lapsL first.length) told first.length first 0 = hourGo (lapsL first.length) told (first.length - i) c.1 c.2.1) (first, 0, t2, tf) rfl (by assumption) rfl rfl rfl (by k_extra "li") (by assumption) (by assumption) ?_ ?_ ?_ ?_
    · k_extra "kn_all"
    · exact ⟨rfl, hltr, hok, rfl⟩
    · intro hx9
      first | (k_extra "xq4"; clear hx9; intro cakes hour th tc) | obtain ⟨cakes, hour, th, tc⟩ := hx9
      intro i ti rr h4 tk4 own hin hoff hx9
      first | (k_extra "xq4"; clear hx9; intro hl1 hl2 hok1 heq) | obtain ⟨hl1, hl2, hok1, heq⟩ := hx9
      intro F4 N4
      dsimp only at *
      have F4' : Fr g L1 h4 _ := F4
      have N4' : News g L1 h4 _ := N4
      clear F4 N4; try k_sweep
      obtain ⟨kq, hkq⟩ : ∃ kq, first.length - i = kq + 1 := ⟨first.length - i - 1, nt_pred hin⟩
      have hk1 : kq + 1 ≤ first.length := Nat.le_trans (Nat.le_of_eq hkq.symm) (Nat.sub_le _ _)
      have hk5 : kq + 1 ≤ 5 := Nat.le_trans hk1 hc2
      have hkle : kq ≤ first.length := Nat.le_of_succ_le hk1
      have hkt : kq + 1 - 1 < told.length := by rw [hlt]; exact hk1
      have xa : kq + 1 - 1 < ((lapsL first.length).map fun (x : Nat) => (x : Int)).length := by rw [hll]; exact Nat.lt_succ_of_le hkle
      have xb : kq + 1 - 1 ≤ 1000 := Nat.le_trans (Nat.le_of_succ_le hk5) (by decide)
      have xc : kq + 1 ≤ 1000 := Nat.le_trans hk5 (by decide)
      rw [hkq] at hl1 hok1 heq F4'
      have hx9 := lapsL_at (c := first.length) (k := kq) hc2 hkle
      first | (k_extra "xe3"; clear hx9; intro m1 m2 m3) | obtain ⟨m1, m2, m3⟩ := hx9
      simp only [hourOk] at hok1
      simp only [hourGo] at heq
      first | (revert hok1; intro hx9; k_extra "xe2"; clear hx9; intro hmem hok2) | obtain ⟨hmem, hok2⟩ := hok1
      have hpl := plc_lt hmem
      rw [List.length_map] at hpl
      have hltk : Ltr (told.getD (kq + 1 - 1) 0) := ltr_get hltt (k := kq) hkt
      have hmem' : lo (told.getD (kq + 1 - 1) 0) ∈ cakes.map lo := hmem
      have hpl' : plc (lo (told.getD (kq + 1 - 1) 0)) (cakes.map lo) < cakes.length := hpl
      have hrnd : ((kq + 1 - 1 - plc (lo (told.getD (kq + 1 - 1) 0)) (cakes.map lo) : Nat) : Int) + ((kq + 1 : Nat) : Int) * (if decide (¬ told.getD (kq + 1 - 1) 0 ∈ cakes) = true then 1 else 0) = ((rndOf told kq cakes : Nat) : Int) := by
        unfold rndOf
        rw [Nat.add_sub_cancel]
        by_cases hin : told.getD kq 0 ∈ cakes
        · rw [if_pos hin, decide_eq_false (not_not_intro hin)]
          simp
        · rw [if_neg hin, decide_eq_true hin]
          simp
      have hrb : rndOf told kq cakes ≤ 20 := by
        unfold rndOf
        refine Nat.le_trans (Nat.add_le_add (Nat.le_trans (Nat.sub_le _ _) (Nat.le_of_succ_le hk5)) (Nat.mul_le_mul hk5 (show _ ≤ 1 from ?_))) (show 5 + 5 * 1 ≤ 20 from by decide)
        split
        · exact Nat.zero_le _
        · exact Nat.le_refl _
      have hcl0 : 0 < cakes.length := by rw [hl1]; exact Nat.succ_pos _
      have hclM : cakes.length ≤ 1000 := by rw [hl1]; exact xc
      have hrbM : rndOf told kq cakes ≤ 1000 := Nat.le_trans hrb (by decide)
      refine seqQ (fun h => ∃ (t : Tok), Loc g L1 h [("lowest", .str (tx [told.getD (kq + 1 - 1) 0]) t), ("k", .int ((kq + 1 : Nat) : Int) ti), ("hour", .int (hour : Int) th), ("cakes", .str (tx cakes) tc), ("laps", .ref D), ("first", .str (tx first) tf), ("told", .str (tx told) tt)] ∧ News g L1 h ((D, listOf ul.toArray kk) :: news ++ own)) ?_ ?_
      · intro Qn hN hRt
        k_extra "ks"
        exact hN _ _ ⟨_, by k_extra "lo", by assumption⟩
      intro h5 tk5 hP
      first | (revert hP; intro hx9; k_extra "xe3"; clear hx9; intro t5 hx9; (first | (k_extra "xq2"; clear hx9; intro r5 F5) | obtain ⟨r5, F5⟩ := hx9); intro N5) | obtain ⟨t5, ⟨r5, F5⟩, N5⟩ := hP
      clear F4' N4'
      dsimp only
      refine seqQ (fun h => ∃ (t : Tok), Loc g L1 h [("rounds", .int ((rndOf told kq cakes : Nat) : Int) t), ("k", .int ((kq + 1 : Nat) : Int) ti), ("hour", .int (hour : Int) th), ("cakes", .str (tx cakes) tc), ("laps", .ref D), ("first", .str (tx first) tf), ("told", .str (tx told) tt)] ∧ News g L1 h ((D, listOf ul.toArray kk) :: news ++ own)) ?_ ?_
      · intro Qn hN hRt
        k_extra "ks"
        rw [hrnd] at *
        exact hN _ _ ⟨_, by k_extra "lo", by assumption⟩
      intro h6 tk6 hP
      first | (revert hP; intro hx9; k_extra "xe3"; clear hx9; intro t6 hx9; (first | (k_extra "xq2"; clear hx9; intro r6 F6) | obtain ⟨r6, F6⟩ := hx9); intro N6) | obtain ⟨t6, ⟨r6, F6⟩, N6⟩ := hP
      clear F5 N5
      dsimp only
      have m1' : ((lapsL first.length).map fun (x : Nat) => (x : Int)).getD (kq + 1 - 1) 0 = (((lapsL first.length).getD kq 1 : Nat) : Int) := m1
      generalize hRR : rndOf told kq cakes = R at *
      refine seqQ (fun h => ∃ (t : Tok), Loc g L1 h [("hour", .int ((hour + R * (lapsL first.length).getD kq 1 : Nat) : Int) t), ("rounds", .int (R : Int) t6), ("cakes", .str (tx cakes) tc), ("laps", .ref D), ("first", .str (tx first) tf), ("told", .str (tx told) tt)] ∧ News g L1 h ((D, listOf ul.toArray kk) :: news ++ own)) ?_ ?_
      · intro Qn hN hRt
        k_extra "ks"
        have hval : (hour : Int) + (R : Int) * ((lapsL first.length).map fun (x : Nat) => (x : Int)).getD (((kq + 1 - 1 : Nat) : Int)).toNat 0 = ((hour + R * (lapsL first.length).getD kq 1 : Nat) : Int) := by
          rw [Int.toNat_natCast, m1']
          simp
        rename_i F7 N7
        rw [hval] at F7
        exact hN _ _ ⟨_, by k_extra "lo", N7⟩
      intro h7 tk7 hP
      first | (revert hP; intro hx9; k_extra "xe3"; clear hx9; intro t7 hx9; (first | (k_extra "xq2"; clear hx9; intro r7 F7) | obtain ⟨r7, F7⟩ := hx9); intro N7) | obtain ⟨t7, ⟨r7, F7⟩, N7⟩ := hP
      clear F6 N6
      dsimp only
      have hcl : 0 < cakes.length := hcl0
      refine seqQ (fun h => ∃ (t : Tok), Loc g L1 h [("hour", .int ((hour + R * (lapsL first.length).getD kq 1 : Nat) : Int) t7), ("cakes", .str (tx (rots R cakes)) t), ("laps", .ref D), ("first", .str (tx first) tf), ("told", .str (tx told) tt)] ∧ News g L1 h ((D, listOf ul.toArray kk) :: news ++ own)) ?_ ?_
      · intro Qn hN hRt
        k_extra "kfor"
        refine forRange0 (σ := List Nat × Tok) (fun c => (D, listOf ul.toArray kk) :: news ++ own) (fun c => [("hour", .int ((hour + R * (lapsL first.length).getD kq 1 : Nat) : Int) t7), ("cakes", .str (tx c.1) c.2), ("laps", .ref D), ("first", .str (tx first) tf), ("told", .str (tx told) tt)])
          (fun j c => c.1 = rots j cakes) (cakes, tc) rfl (by assumption) rfl (by k_extra "li") (by assumption) (by assumption) ?_ ?_ ?_ ?_
        · k_extra "kn_all"
        · rfl
        · intro hx9
          first | (k_extra "xq2"; clear hx9; intro td ttd) | obtain ⟨td, ttd⟩ := hx9
          intro j tj rr2 h8 tk8 own2x hjn hoff2 hinv F8 N8
          dsimp only at *
          have F8' : Fr g L1 h8 _ := F8
          have N8' : News g L1 h8 _ := N8
          clear F8 N8; try k_sweep
          have htl : td.length = cakes.length := by rw [hinv, rots_len hcl]
          have htr : ∀ x ∈ td, Ltr x := by rw [hinv]; exact rots_ltr hcl hl2 j
          have ht0 : 0 < td.length := by rw [htl]; exact hcl
          have ht1 : td.length ≤ 1000 := by rw [htl]; exact hclM
          have ht2 : td.length - 1 < td.length := Nat.sub_lt ht0 (by decide)
          have ht3 : 0 + 1 + min (td.length - 1) td.length ≤ 1000000 := by rw [nt_rot ht0]; exact Nat.le_trans ht1 (by decide)
          k_extra "ks"
          refine turnEnd ⟨rot td, _⟩ (by assumption) (by assumption) rfl (by simp) (by k_extra "kn_all") ?_
          show rot td = rots (j + 1) cakes
          rw [hinv]
          rfl
        · intro hx9
          first | (k_extra "xq2"; clear hx9; intro td ttd) | obtain ⟨td, ttd⟩ := hx9
          intro rr2 h8 tk8 hinv F8 N8
          dsimp only at *
          subst hinv
          exact hN _ _ ⟨_, by k_extra "lo", N8⟩
      intro h8 tk8 hP
      first | (revert hP; intro hx9; k_extra "xe3"; clear hx9; intro t8 hx9; (first | (k_extra "xq2"; clear hx9; intro r8 F8) | obtain ⟨r8, F8⟩ := hx9); intro N8) | obtain ⟨t8, ⟨r8, F8⟩, N8⟩ := hP
      clear F7 N7
      dsimp only
      have hrl := rots_len hcl R
      have hrl0 : 0 < (rots R cakes).length := by rw [hrl]; exact hcl
      have hrlM : (rots R cakes).length ≤ 1000 := by rw [hrl]; exact hclM
      k_extra "ks"
      rename_i F9 N9
      rw [hrl] at F9
      have hkq2 : first.length - (i + 1) = kq := by rw [Nat.sub_add_eq, hkq, Nat.add_sub_cancel]
      refine turnEnd ⟨(rots R cakes).take (cakes.length - 1), hour + R * (lapsL first.length).getD kq 1, _, _⟩ F9 N9 rfl (by simp) (by k_extra "kn_all") ⟨?_, ?_, ?_, ?_⟩
      · show ((rots R cakes).take (cakes.length - 1)).length = _
        rw [List.length_take, hrl, Nat.min_eq_left (Nat.sub_le _ _), hl1, hkq2, Nat.add_sub_cancel]
      · exact fun x hx => rots_ltr hcl hl2 R x (List.mem_of_mem_take hx)
      · show hourOk told (first.length - (i + 1)) _
        rw [hkq2]; exact hok2
      · show _ = hourGo _ told (first.length - (i + 1)) _ _
        rw [hkq2]; exact heq
    · intro hx9
      first | (k_extra "xq4"; clear hx9; intro cakes hour th tc) | obtain ⟨cakes, hour, th, tc⟩ := hx9
      intro rr h4 tk4 hx9
      first | (k_extra "xq4"; clear hx9; intro hl1 hl2 hok1 heq) | obtain ⟨hl1, hl2, hok1, heq⟩ := hx9
      intro F4 N4
      dsimp only at *
      rw [Nat.sub_self] at heq
      refine hN _ _ ?_
      rw [heq]
      exact ⟨_, by k_extra "lo", N4⟩
  intro h4 tk4 hP
  first | (revert hP; intro hx9; k_extra "xe3"; clear hx9; intro t4 hx9; (first | (k_extra "xq2"; clear hx9; intro r4 F4) | obtain ⟨r4, F4⟩ := hx9); intro N4) | obtain ⟨t4, ⟨r4, F4⟩, N4⟩ := hP
  clear F2 N2
  dsimp only
  k_extra "ks"
  exact hret _ _ _ _ (by assumption) (by assumption) ⟨⟨_, rfl⟩, rfl⟩
end
section
theorem push_c (w : World) (loose : List Str) (mean : ExcName → Option Value) (mg mb : Str → Option Value) : ∀ (news : CbLed) (x dx : Addr) (its : List Value) (n : Nat) (od : List DictEntry) (nd : Nat) (b : Str) (tb : Tok) (sg : Str) (ts : Tok), its.length ≤ 500 → getL (Str.ofString "append") od = some none → NoAcc x news →
   Cl PySem.Challenge.rw_sr0059_01.row.prog w (K39 w.params) topProg loose mean mg mb 45 10 100 ((x, lstObj 101 dx its.toArray n) :: (dx, dictOf od nd) :: news) [.ref x, .str b tb, .str sg ts]
     (fun r nx => r = .none ∧ ∃ (T : Addr) (m : Nat), nx = (T, { cls := .type "tuple", data := .seq #[.str b tb, .str sg ts] }) :: (x, lstObj 101 dx (its ++ [Value.ref T]).toArray m) :: (dx, dictOf od nd) :: news ) := by
  k_fill
  intro news x dx its n od nd b tb sg ts hlen hod hna
  refine Cl.mk ?_
  intro dp un gd cn cs ca ccd cl outer A₀ base h₀ L m s Q E kB kF kX kN kT kcs kd ku hret
  have hx9 := acc_ne kN hna
  first | (k_extra "xe2"; clear hx9; intro hxn hxd) | obtain ⟨hxn, hxd⟩ := hx9
  refine wpAny_call ?_
  k_extra "enter"
  intro g L1 h1 FG F0 N B X T
  dsimp only
  refine noE ?_
  k_fold
  try k_gentoks
  have hx9 : Loc g L1 h1 [("string", .str sg ts), ("fws", .str b tb), ("self", .ref x)] := loc F0 (by k_extra "kn_all")
  first | (k_extra "xe2"; clear hx9; intro r1 F) | obtain ⟨r1, F⟩ := hx9
  clear F0
  k_extra "ks"
  exact hret _ _ _ _ (by assumption) (by assumption) ⟨rfl, _, _, rfl⟩
end
section
theorem noEA {α : Type} {M : Model} {A : Around} {c : Code} {E : Value → Shared → Prop} {s : Shared} {t : Sem α} {Q : α → Shared → Prop} (h : _root_.PySem.wpAt M A c t Q NoE s) : _root_.PySem.wpAt M A c t Q E s := ks_wpAt_mono h (fun _ _ x => x) fun _ _ x => x.elim
theorem pc_c (w : World) (loose : List Str) (mean : ExcName → Option Value) (mg mb : Str → Option Value) : ∀ (news : CbLed) (x dx : Addr) (its : List Value) (n : Nat) (od : List DictEntry) (nd : Nat), its.length ≤ 500 →
   Cl PySem.Challenge.rw_sr0059_01.row.prog w (K39 w.params) topProg loose mean mg mb 98 10 100 ((x, lstObj 101 dx its.toArray n) :: (dx, dictOf od nd) :: news) [.ref x]
     (fun r nx => (∃ t, r = .int (its.length : Nat) t) ∧ nx = (x, lstObj 101 dx its.toArray n) :: (dx, dictOf od nd) :: news) := by
  k_fill
  intro news x dx its n od nd hlen
  refine Cl.mk ?_
  intro dp un gd cn cs ca ccd cl outer A₀ base h₀ L m s Q E kB kF kX kN kT kcs kd ku hret
  refine wpAny_call ?_
  k_extra "enterS"
  intro g L1 h1 FG F0 N B X T ll
  dsimp only
  refine noEA ?_
  try k_fold
  try k_gentoks
  have hx9 : Loc g L1 h1 [("self", .ref x)] := loc F0 (by k_extra "kn_all")
  first | (k_extra "xe2"; clear hx9; intro r1 F) | obtain ⟨r1, F⟩ := hx9
  clear F0
  k_extra "ks"
  exact hret _ _ _ _ (by assumption) (News.perm (by assumption) (by k_extra "psub")) ⟨⟨_, rfl⟩, rfl⟩
end
section
theorem pop_c (w : World) (loose : List Str) (mean : ExcName → Option Value) (mg mb : Str → Option Value) : ∀ (news : CbLed) (x dx : Addr) (its : List Value) (v : Value) (n : Nat) (od : List DictEntry) (nd : Nat), its.length ≤ 400 → NoAcc x news → getL (Str.ofString "part_count") od = some none →
   Cl PySem.Challenge.rw_sr0059_01.row.prog w (K39 w.params) topProg loose mean mg mb 61 20 200 ((x, lstObj 101 dx (its ++ [v]).toArray n) :: (dx, dictOf od nd) :: news) [.ref x]
     (fun r nx => r = v ∧ ∃ k, nx = (x, lstObj 101 dx its.toArray k) :: (dx, dictOf od nd) :: news) := by
  k_fill
  intro news x dx its v n od nd hlen hna hod
  refine Cl.mk ?_
  intro dp un gd cn cs ca ccd cl outer A₀ base h₀ L m s Q E kB kF kX kN kT kcs kd ku hret
  have hx9 := acc_ne kN hna
  first | (k_extra "xe2"; clear hx9; intro hxn hxd) | obtain ⟨hxn, hxd⟩ := hx9
  refine wpAny_call ?_
  k_extra "enterS"
  intro g L1 h1 FG F0 N B X T ll
  dsimp only
  refine noEA ?_
  try k_fold
  try k_gentoks
  have hx9 : Loc g L1 h1 [("self", .ref x)] := loc F0 (by k_extra "kn_all")
  first | (k_extra "xe2"; clear hx9; intro r1 F) | obtain ⟨r1, F⟩ := hx9
  clear F0
  k_extra "ks"
  (k_dflt (refine' Cl.use (pc_c _ _ _ _ _ _ _ _ _ _ _ _ ?q1) ?k1 ?k2 ?k3 ?k4 ?k5 ?kK ?kd ?ku ?_; k_extra "cl_use"))
  case q1 => simp; k_extra "li"
  intro r nx h2 tk2 F2 N2 hR
  first | (revert hR; intro hx9; k_extra "xe2"; clear hx9; intro hx9; (first | (k_extra "xq2"; clear hx9; intro t2 e1) | obtain ⟨t2, e1⟩ := hx9); intro e2) | obtain ⟨⟨t2, e1⟩, e2⟩ := hR
  subst e1; subst e2
  dsimp only
  repeat' ((fail_if_success (with_reducible show _root_.PySem.wpAt _ _ _ (execs _ _) _ _ _)); k_extra "ks1")
  · rename_i a
    exact absurd a (by simp; k_extra "li")
  · refine wpAt_of_wpAny ?_
    repeat' ((fail_if_success (show _root_.PySem.wpAt _ _ _ (execs (_ :: _) _) _ _ _)); k_extra "ks1")
    dsimp only
    k_extra "ks1"
    k_extra "ks1"
    ks_step "eval Call"
    refine ks_wpAt_MethodCall ?_
    k_extra "ks"
    exact hret _ _ _ _ (by assumption) (News.perm (news' := (x, lstObj 101 dx its.toArray _) :: (dx, dictOf od nd) :: news) (by assumption) (by k_extra "psub")) ⟨rfl, _, rfl⟩
theorem pop0_c (w : World) (loose : List Str) (mean : ExcName → Option Value) (mg mb : Str → Option Value) : ∀ (news : CbLed) (x dx : Addr) (n : Nat) (od : List DictEntry) (nd : Nat), NoAcc x news → getL (Str.ofString "part_count") od = some none →
   Cl PySem.Challenge.rw_sr0059_01.row.prog w (K39 w.params) topProg loose mean mg mb 61 20 200 ((x, lstObj 101 dx ([] : List Value).toArray n) :: (dx, dictOf od nd) :: news) [.ref x]
     (fun r nx => ∃ D t1 t2, r = .ref D ∧ nx = (D, { cls := .type "tuple", data := .seq #[.str (Str.ofString "") t1, .str (Str.ofString "") t2] }) :: (x, lstObj 101 dx ([] : List Value).toArray n) :: (dx, dictOf od nd) :: news) := by
  k_fill
  intro news x dx n od nd hna hod
  refine Cl.mk ?_
  intro dp un gd cn cs ca ccd cl outer A₀ base h₀ L m s Q E kB kF kX kN kT kcs kd ku hret
  have hx9 := acc_ne kN hna
  first | (k_extra "xe2"; clear hx9; intro hxn hxd) | obtain ⟨hxn, hxd⟩ := hx9
  refine wpAny_call ?_
  k_extra "enterS"
  intro g L1 h1 FG F0 N B X T ll
  dsimp only
  refine noEA ?_
  try k_fold
  try k_gentoks
  have hx9 : Loc g L1 h1 [("self", .ref x)] := loc F0 (by k_extra "kn_all")
  first | (k_extra "xe2"; clear hx9; intro r1 F) | obtain ⟨r1, F⟩ := hx9
  clear F0
  k_extra "ks"
  (k_dflt (refine' Cl.use (pc_c _ _ _ _ _ _ _ _ _ _ _ _ ?q1) ?k1 ?k2 ?k3 ?k4 ?k5 ?kK ?kd ?ku ?_; k_extra "cl_use"))
  case q1 => simp
  intro r nx h2 tk2 F2 N2 hR
  first | (revert hR; intro hx9; k_extra "xe2"; clear hx9; intro hx9; (first | (k_extra "xq2"; clear hx9; intro t2 e1) | obtain ⟨t2, e1⟩ := hx9); intro e2) | obtain ⟨⟨t2, e1⟩, e2⟩ := hR
  subst e1; subst e2
  dsimp only
  repeat' ((fail_if_success (with_reducible show _root_.PySem.wpAt _ _ _ (execs _ _) _ _ _)); k_extra "ks1")
  · k_extra "ks"
    exact hret _ _ _ _ (by assumption) (News.perm (by assumption) (by k_extra "psub")) ⟨_, _, _, rfl, rfl⟩
end
section
theorem pf_c (w : World) (loose : List Str) (mean : ExcName → Option Value) (mg mb : Str → Option Value) : ∀ (news : CbLed) (x dx : Addr) (its : List Value) (n : Nat) (od : List DictEntry) (nd : Nat) (i : Nat) (ti : Tok), its.length ≤ 400 → i ≤ its.length → NoAcc x news →
   Cl PySem.Challenge.rw_sr0059_01.row.prog w (K39 w.params) topProg loose mean mg mb 53 20 200 ((x, lstObj 101 dx its.toArray n) :: (dx, dictOf od nd) :: news) [.ref x, .int (i : Int) ti]
     (fun r nx => ∃ D k, r = .ref D ∧ nx = (D, listOf (its.drop i).toArray 0) :: (x, lstObj 101 dx (its.take i).toArray k) :: (dx, dictOf od nd) :: news) := by
  k_fill
  intro news x dx its n od nd i ti hlen hi hna
  refine Cl.mk ?_
  intro dp un gd cn cs ca ccd cl outer A₀ base h₀ L m s Q E kB kF kX kN kT kcs kd ku hret
  have hx9 := acc_ne kN hna
  first | (k_extra "xe2"; clear hx9; intro hxn hxd) | obtain ⟨hxn, hxd⟩ := hx9
  refine wpAny_call ?_
  k_extra "enterD"
  intro g L1 h1 FG F0 N B X T
  dsimp only
  refine noE ?_
  try k_fold
  try k_gentoks
  have hx9 : Loc g L1 h1 [("i", .int (i : Int) ti), ("self", .ref x)] := loc F0 (by k_extra "kn_all")
  first | (k_extra "xe2"; clear hx9; intro r1 F) | obtain ⟨r1, F⟩ := hx9
  clear F0
  k_extra "ks"
  exact hret _ _ _ _ (by assumption) (News.perm (news' := (_, listOf (its.drop i).toArray 0) :: (x, lstObj 101 dx (its.take i).toArray _) :: (dx, dictOf od nd) :: news) (by assumption) (by k_extra "psub")) ⟨_, _, rfl, rfl⟩
theorem pf0_c (w : World) (loose : List Str) (mean : ExcName → Option Value) (mg mb : Str → Option Value) : ∀ (news : CbLed) (x dx : Addr) (its : List Value) (n : Nat) (od : List DictEntry) (nd : Nat), its.length ≤ 400 → NoAcc x news →
   Cl PySem.Challenge.rw_sr0059_01.row.prog w (K39 w.params) topProg loose mean mg mb 53 20 200 ((x, lstObj 101 dx its.toArray n) :: (dx, dictOf od nd) :: news) [.ref x]
     (fun r nx => ∃ D k, r = .ref D ∧ nx = (D, listOf its.toArray 0) :: (x, lstObj 101 dx ([] : List Value).toArray k) :: (dx, dictOf od nd) :: news) := by
  k_fill
  intro news x dx its n od nd hlen hna
  refine Cl.mk ?_
  intro dp un gd cn cs ca ccd cl outer A₀ base h₀ L m s Q E kB kF kX kN kT kcs kd ku hret
  have hx9 := acc_ne kN hna
  first | (k_extra "xe2"; clear hx9; intro hxn hxd) | obtain ⟨hxn, hxd⟩ := hx9
  refine wpAny_call ?_
  k_extra "enterD"
  intro g L1 h1 FG F0 N B X T
  dsimp only
  refine noE ?_
  try k_fold
  try k_gentoks
  obtain ⟨ti, r1, F⟩ : ∃ ti, Loc g L1 h1 [("i", .int ((0 : Nat) : Int) ti), ("self", .ref x)] := ⟨_, loc F0 (by k_extra "kn_all")⟩
  clear F0
  k_extra "ks"
  exact hret _ _ _ _ (by assumption) (News.perm (news' := (_, listOf its.toArray 0) :: (x, lstObj 101 dx ([] : List Value).toArray _) :: (dx, dictOf od nd) :: news) (by assumption) (by k_extra "psub")) ⟨_, _, rfl, rfl⟩
end
section
abbrev isD (P : Params) (sz : Nat) (tk t : Tok) : List DictEntry := [⟨PyData.keyHash P (Str.ofString "_initial_size"), .str (Str.ofString "_initial_size") tk, .int (sz : Int) t⟩]
theorem new_c (w : World) (loose : List Str) (mean : ExcName → Option Value) (mg mb : Str → Option Value) : ∀ (news : CbLed) (k : Nat) (tk : Tok),
   Cl PySem.Challenge.rw_sr0059_01.row.prog w (K39 w.params) topProg loose mean mg mb 101 20 200 news [.int (k : Int) tk]
     (fun r nx => ∃ x dx n t1 nd, r = .ref x ∧ nx = (x, lstObj 101 dx ([] : List Value).toArray n) :: (dx, dictOf (isD w.params k t1 tk) nd) :: news) := by
  k_fill
  intro news k tk
  refine Cl.mk ?_
  intro dp un gd cn cs ca ccd cl outer A₀ base h₀ L m s Q E kB kF kX kN kT kcs kd ku hret
  refine make_acc kF kX kN ?_
  intro x dx h2 F2 N2 l1 l2
  have hn1 : ∀ p ∈ news, p.1 ≠ dx := fun p hp => Nat.ne_of_lt (l1 p hp)
  have hn2 : ∀ p ∈ news, p.1 ≠ x := fun p hp => Nat.ne_of_lt (Nat.lt_trans (l1 p hp) l2)
  replace l2 := ltN l2
  clear kF kN
  k_extra "enterSD"
  intro g L1 h1 FG F0 N B X T ll
  dsimp only
  refine noEA ?_
  try k_fold
  try k_gentoks
  have hx9 : Loc g L1 h1 [("initial_size", .int (k : Int) tk), ("self", .ref x)] := loc F0 (by k_extra "kn_all")
  first | (k_extra "xe2"; clear hx9; intro r1 F) | obtain ⟨r1, F⟩ := hx9
  clear F0
  k_extra "ks1"
  repeat' ((fail_if_success (show _root_.PySem.wpAt _ _ _ (execs (_ :: _) _) _ _ _)); k_extra "ks1")
  dsimp only
  k_extra "ks1"
  refine ks_wpAt_Expr_any ?_
  refine ks_wpAt_MethodCall ?_
  k_extra "ks"
  exact hret _ _ _ _ (by assumption) (News.perm (news' := (x, lstObj 101 dx ([] : List Value).toArray _) :: (dx, dictOf _ _) :: news) (by assumption) (by k_extra "psub")) ⟨x, dx, _, _, _, rfl, rfl⟩
end
section
theorem preSum_list (L : List Nat) : ∀ n, n ≤ L.length → preSum (fun j => ((L.getD j 0 : Nat) : Int)) n = ((L.take n).sum : Nat)
  | 0, _ => by simp [preSum]
  | n + 1, h => by
    rw [preSum, preSum_list L n (by k_extra "li"), List.take_succ, List.sum_append]
    simp [List.getD_eq_getElem?_getD, List.getElem?_eq_getElem (show n < L.length by k_extra "li")]
theorem len_c (w : World) (loose : List Str) (mean : ExcName → Option Value) (mg mb : Str → Option Value) : ∀ (news : CbLed) (ps : Array Value) (x dx : Addr) (l : List Pr) (n sz : Nat) (t1 t2 : Tok) (nd : Nat), l.length ≤ 400 → (∀ q ∈ l, q.b.length ≤ 1000 ∧ q.s.length ≤ 1000) → TriplesOk ps.toList → NoTab 63 news →
   ClG (fun h => CodeHd h 67 63) PySem.Challenge.rw_sr0059_01.row.prog w (K39 w.params) topProg loose mean mg mb 68 20 200 ((63, tabObj ps) :: (x, lstObj 101 dx (refs l).toArray n) :: (dx, dictOf (isD w.params sz t1 t2) nd) :: (tups l ++ news)) [.ref x]
     (fun r nx => (∃ t, r = .int (sz + (l.map fun q => q.b.length + q.s.length).sum : Nat) t) ∧ ∃ ps', TriplesOk ps'.toList ∧ nx = (63, tabObj ps') :: (x, lstObj 101 dx (refs l).toArray n) :: (dx, dictOf (isD w.params sz t1 t2) nd) :: (tups l ++ news)) := by
  k_fill
  intro news ps x dx l n sz t1 t2 nd hlen hql htr hnt
  refine ClG.mk ?_
  intro dp un gd cn cs ca ccd cl outer A₀ base h₀ L m s Q E kP kG kB kF kX kN kT kcs kd ku hret
  refine wpAny_call ?_
  k_extra "enter"
  intro g L1 h1 FG F0 N B X T
  dsimp only
  refine noE ?_
  try k_fold
  try k_gentoks
  have hx9 : Loc g L1 h1 [("self", .ref x)] := loc F0 (by k_extra "kn_all")
  first | (k_extra "xe2"; clear hx9; intro r1 F) | obtain ⟨r1, F⟩ := hx9
  clear F0
  k_extra "ks"
  have hmem : ∀ i, i < (refs l).length → ∃ q ∈ l, l[i]? = some q := fun i hi => by
    rw [refs, List.length_map] at hi
    exact ⟨l[i], List.getElem_mem hi, List.getElem?_eq_getElem hi⟩
  refine genx (C := 101) (P := 63) (c := 67) (ps := ps) (Ts := fun i => (l.map Pr.a).getD i 0) (va := fun i => (l.map fun q => Value.str q.b q.tb).getD i .none) (vb := fun i => (l.map fun q => Value.str q.s q.ts).getD i .none)
    (Fv := fun j v => ∃ t, v = .int (((l.map fun q => q.b.length + q.s.length).getD j 0 : Nat) : Int) t) rfl F X N T kG (kP.keeps B.stays) rfl (by k_mem) htr (by k_mem) (by k_mem) ?_ (acc_iter _) (mro3_in (acc_mro _)).1 rfl
    rfl (by with_unfolding_all rfl) (by decide) (by with_unfolding_all rfl) (by with_unfolding_all rfl) (by with_unfolding_all rfl) (by decide) rfl ?_ (fun x => by with_unfolding_all rfl) ?_ ?_ ?_
  · intro i hi
    have hx9 := hmem i hi
    first | (k_extra "xe3"; clear hx9; intro q hq e) | obtain ⟨q, hq, e⟩ := hx9
    rw [refs, List.length_map] at hi
    refine ⟨refs_get hi, ?_⟩
    simp only [List.getD_eq_getElem?_getD, List.getElem?_map, e, Option.map_some, Option.getD_some]
    exact .tail _ (.tail _ (.tail _ (List.mem_append.mpr (.inl (tups_mem hq)))))
  · show dp + 1 < recursionLimit
    k_extra "li"
  · intro Q' hq'
    k_extra "ks"
    exact hq'
  · intro C' code A' E' i t m₂ hA hD hU hi F2 hma hmb
    have hx9 := hmem i hi
    first | (k_extra "xe3"; clear hx9; intro q hq e) | obtain ⟨q, hq, e⟩ := hx9
    simp only [List.getD_eq_getElem?_getD, List.getElem?_map, e, Option.map_some, Option.getD_some] at hma hmb
    refine wpAny_BinOp (g_len F2 X T rfl (by k_is) (by first | boot_by_name | rfl | kernel_rfl) rfl rfl rfl (by decide) (hma) ?_ ?_)
    · exact (hql q hq).1
    intro t3 tk3
    refine g_len (s := { t with toks := tk3 }) F2 X T rfl (by k_is) (by first | boot_by_name | rfl | kernel_rfl) rfl rfl rfl (by decide) (hmb) ?_ ?_
    · exact (hql q hq).2
    intro t4 tk4
    refine wpAny_add_int ?_
    have ev : (l.map fun q => q.b.length + q.s.length).getD i 0 = q.b.length + q.s.length := by simp [List.getD_eq_getElem?_getD, e]
    refine ⟨⟨_, by rw [ev, Int.natCast_add]⟩, _, _, rfl, fun b o e => e⟩
  · intro s5 a Kb ps' F5 N5 htr' G5 hos hdr hKb X5
    have hnx : ∀ p ∈ (x, lstObj 101 dx (refs l).toArray n) :: (dx, dictOf (isD w.params sz t1 t2) nd) :: (tups l ++ news), p.1 ≠ 63 := tab_ne (P := 63) N (.head _) (fun p hp => .tail _ hp) (by
      intro p hp
      rcases List.mem_cons.mp hp with rfl | hp
      · exact .inl (fun e => by cases e)
      · rcases List.mem_cons.mp hp with rfl | hp
        · exact .inl (fun e => by cases e)
        · rcases List.mem_append.mp hp with hp | hp
          · exact .inl (by rw [tups_cls hp]; exact fun e => by cases e)
          · exact hnt p hp)
    have N6 := N5 _ (Upd.head hnx)
    have hle : ∀ p ∈ (63, tabObj ps') :: (x, lstObj 101 dx (refs l).toArray n) :: (dx, dictOf (isD w.params sz t1 t2) nd) :: (tups l ++ news), p.1 ≤ Kb := by
      intro p hp
      rcases List.mem_cons.mp hp with rfl | hp
      · exact Nat.le_of_lt_succ (by rw [← Nat.succ_eq_add_one] at hKb; rw [← hKb]; exact Heap.lt_size (N (63, tabObj ps) (.head _)).1)
      · exact Nat.le_of_lt_succ (by rw [← Nat.succ_eq_add_one] at hKb; rw [← hKb]; exact Heap.lt_size (N p (.tail _ hp)).1)
    have hL : L1 ≤ Kb := Nat.le_of_lt_succ (by rw [← Nat.succ_eq_add_one] at hKb; rw [← hKb]; exact F.ns.lt)
    clear F N N5
    k_extra "ks"
    refine getval_acc F5 X N6 (by k_mem) (by k_mem) (by k_is) rfl rfl ?_
    intro tk5 htk5
    k_extra "ks"
    refine sum_gen2 F5 G5 (gen_toks X5 htk5) hL (fun j => (((l.map fun q => q.b.length + q.s.length).getD j 0 : Nat) : Int)) (fun j v hv => hv) ?_
    intro s6 t6 F6 G6 hos6 hk6
    have N7 : News g L1 s6.heap ((63, tabObj ps') :: (x, lstObj 101 dx (refs l).toArray n) :: (dx, dictOf (isD w.params sz t1 t2) nd) :: (tups l ++ news)) := fun p hp => ⟨hk6 _ _ (hle p hp) (N6 p hp).1, (N6 p hp).2⟩
    k_extra "ks"
    refine hret _ _ _ (by assumption) (by assumption) G6 (hos6.trans hos) ⟨⟨_, congrArg (fun z => Value.int z _) ?_⟩, ps', htr', rfl⟩
    have e1 := preSum_list (l.map fun q => q.b.length + q.s.length) (refs l).length (by simp [refs])
    rw [e1, List.take_of_length_le (by simp [refs])]
    simp
end
section
theorem str_c (w : World) (loose : List Str) (mean : ExcName → Option Value) (mg mb : Str → Option Value) : ∀ (news : CbLed) (ps : Array Value) (x dx : Addr) (l : List Pr) (n : Nat) (od : List DictEntry) (nd : Nat), l.length ≤ 400 → (∀ q ∈ l, q.b.length ≤ 1000 ∧ q.s.length ≤ 1000) → TriplesOk ps.toList → NoTab 70 news →
   ClG (fun h => CodeHd h 74 70) PySem.Challenge.rw_sr0059_01.row.prog w (K39 w.params) topProg loose mean mg mb 75 20 200 ((70, tabObj ps) :: (x, lstObj 101 dx (refs l).toArray n) :: (dx, dictOf od nd) :: (tups l ++ news)) [.ref x]
     (fun r nx => (∃ t, r = .str (Txt.join (Str.ofString "") (l.map fun q => Txt.join (Str.ofString "") [q.b, q.s])) t) ∧ ∃ ps', TriplesOk ps'.toList ∧ nx = (70, tabObj ps') :: (x, lstObj 101 dx (refs l).toArray n) :: (dx, dictOf od nd) :: (tups l ++ news)) := by
  k_fill
  intro news ps x dx l n od nd hlen hql htr hnt
  refine ClG.mk ?_
  intro dp un gd cn cs ca ccd cl outer A₀ base h₀ L m s Q E kP kG kB kF kX kN kT kcs kd ku hret
  refine wpAny_call ?_
  k_extra "enter"
  intro g L1 h1 FG F0 N B X T
  dsimp only
  refine noE ?_
  try k_fold
  try k_gentoks
  have hx9 : Loc g L1 h1 [("self", .ref x)] := loc F0 (by k_extra "kn_all")
  first | (k_extra "xe2"; clear hx9; intro r1 F) | obtain ⟨r1, F⟩ := hx9
  clear F0
  k_extra "ks"
  have hmem : ∀ i, i < (refs l).length → ∃ q ∈ l, l[i]? = some q := fun i hi => by
    rw [refs, List.length_map] at hi
    exact ⟨l[i], List.getElem_mem hi, List.getElem?_eq_getElem hi⟩
  have e0 : (Str.ofString "").length = 0 := by decide
  refine genx (C := 101) (P := 70) (c := 74) (ps := ps) (Ts := fun i => (l.map Pr.a).getD i 0) (va := fun i => (l.map fun q => Value.str q.b q.tb).getD i .none) (vb := fun i => (l.map fun q => Value.str q.s q.ts).getD i .none)
    (Fv := fun j v => ∃ t, v = .str ((l.map fun q => Txt.join (Str.ofString "") [q.b, q.s]).getD j (Str.ofString "")) t) rfl F X N T kG (kP.keeps B.stays) rfl (by k_mem) htr (by k_mem) (by k_mem) ?_ (acc_iter _) (mro3_in (acc_mro _)).1 rfl
    rfl (by with_unfolding_all rfl) (by decide) (by with_unfolding_all rfl) (by with_unfolding_all rfl) (by with_unfolding_all rfl) (by decide) rfl ?_ (fun x => by with_unfolding_all rfl) ?_ ?_ ?_
  · intro i hi
    have hx9 := hmem i hi
    first | (k_extra "xe3"; clear hx9; intro q hq e) | obtain ⟨q, hq, e⟩ := hx9
    rw [refs, List.length_map] at hi
    refine ⟨refs_get hi, ?_⟩
    simp only [List.getD_eq_getElem?_getD, List.getElem?_map, e, Option.map_some, Option.getD_some]
    exact .tail _ (.tail _ (.tail _ (List.mem_append.mpr (.inl (tups_mem hq)))))
  · show dp + 1 < recursionLimit
    k_extra "li"
  · intro Q' hq'
    k_extra "ks"
    exact hq'
  · intro C' code A' E' i t m₂ hA hD hU hi F2 hma hmb
    have hx9 := hmem i hi
    first | (k_extra "xe3"; clear hx9; intro q hq e) | obtain ⟨q, hq, e⟩ := hx9
    simp only [List.getD_eq_getElem?_getD, List.getElem?_map, e, Option.map_some, Option.getD_some] at hma hmb
    have ev : (l.map fun q => Txt.join (Str.ofString "") [q.b, q.s]).getD i (Str.ofString "") = Txt.join (Str.ofString "") [q.b, q.s] := by simp [List.getD_eq_getElem?_getD, e]
    rw [ev]
    have hx9 := hql q hq
    first | (k_extra "xe2"; clear hx9; intro hq1 hq2) | obtain ⟨hq1, hq2⟩ := hx9
    refine MethodCall_ (g_main F2 X T rfl (by k_is) rfl rfl (by decide) ?_) (by with_unfolding_all rfl)
    refine GM.join ?_
    refine callWith_method1 (sp1 (Tuple_ (sp2 (g_local F2 hma rfl rfl (by decide) (g_local F2 hmb rfl rfl (by decide) ?_)) (by rfl))) (by rfl))
    refine wpAny_newTuple ?_
    refine join_tuple (ys := [q.b, q.s]) ⟨_, Heap.get?_push_at rfl rfl, rfl, _, rfl⟩ (.cons _ _ (.cons _ _ .nil)) (by rw [e0]; simp; k_extra "li") ?_
    intro t3 k3
    exact ⟨⟨_, rfl⟩, _, _, rfl, fun b o e => Heap.get?_push_of_some _ e⟩
  · intro s5 a Kb ps' F5 N5 htr' G5 hos hdr hKb X5
    have hnx : ∀ p ∈ (x, lstObj 101 dx (refs l).toArray n) :: (dx, dictOf od nd) :: (tups l ++ news), p.1 ≠ 70 := tab_ne (P := 70) N (.head _) (fun p hp => .tail _ hp) (by
      intro p hp
      rcases List.mem_cons.mp hp with rfl | hp
      · exact .inl (fun e => by cases e)
      · rcases List.mem_cons.mp hp with rfl | hp
        · exact .inl (fun e => by cases e)
        · rcases List.mem_append.mp hp with hp | hp
          · exact .inl (by rw [tups_cls hp]; exact fun e => by cases e)
          · exact hnt p hp)
    have N6 := N5 _ (Upd.head hnx)
    have hle : ∀ p ∈ (70, tabObj ps') :: (x, lstObj 101 dx (refs l).toArray n) :: (dx, dictOf od nd) :: (tups l ++ news), p.1 ≤ Kb := by
      intro p hp
      rcases List.mem_cons.mp hp with rfl | hp
      · exact Nat.le_of_lt_succ (by rw [← Nat.succ_eq_add_one] at hKb; rw [← hKb]; exact Heap.lt_size (N (70, tabObj ps) (.head _)).1)
      · exact Nat.le_of_lt_succ (by rw [← Nat.succ_eq_add_one] at hKb; rw [← hKb]; exact Heap.lt_size (N p (.tail _ hp)).1)
    have hL : L1 ≤ Kb := Nat.le_of_lt_succ (by rw [← Nat.succ_eq_add_one] at hKb; rw [← hKb]; exact F.ns.lt)
    clear F N N5
    k_extra "ks"
    have e1 : (List.range (refs l).length).map (fun j => (l.map fun q => Txt.join (Str.ofString "") [q.b, q.s]).getD j (Str.ofString "")) = l.map fun q => Txt.join (Str.ofString "") [q.b, q.s] := by
      apply List.ext_getElem
      · simp [refs]
      · intro i h1 h2
        simp at h2
        simp [List.getD_eq_getElem?_getD, h2]
    refine join_rowsK F5 G5 X5 hL (fun j => (l.map fun q => Txt.join (Str.ofString "") [q.b, q.s]).getD j (Str.ofString "")) (fun j v hv => hv) ?_ ?_ ?_
    · rw [e1]
      refine joinOk_of ?_
      rw [e0, Nat.mul_zero, Nat.add_zero, List.map_map]
      have hs : ∀ l : List Pr, (∀ q ∈ l, q.b.length ≤ 1000 ∧ q.s.length ≤ 1000) → (l.map ((·.length) ∘ fun q => Txt.join (Str.ofString "") [q.b, q.s])).sum ≤ l.length * 2000 := by
        intro l
        induction l with
        | nil => intro _; simp
        | cons q r ih =>
          intro hl
          have h1 := StrLaws.join_length_le (Str.ofString "") [q.b, q.s]
          have h2 := hl q (.head _)
          have h3 := ih fun q hq => hl q (.tail _ hq)
          rw [e0] at h1
          simp at h1
          simp only [List.map_cons, List.sum_cons, List.length_cons, Function.comp]
          have h1' : (Txt.join (Str.ofString "") [q.b, q.s]).length ≤ q.b.length + q.s.length := h1
          have h3' : (r.map fun x => (Txt.join (Str.ofString "") [x.b, x.s]).length).sum ≤ r.length * 2000 := h3
          k_extra "li"
      have := hs l hql
      k_extra "li"
    · intro s6 t6 F6 G6 hos6 hk6
      have N7 : News g L1 s6.heap ((70, tabObj ps') :: (x, lstObj 101 dx (refs l).toArray n) :: (dx, dictOf od nd) :: (tups l ++ news)) := fun p hp => ⟨hk6 _ _ (hle p hp) (N6 p hp).1, (N6 p hp).2⟩
      k_extra "ks"
      rw [e1]
      exact hret _ _ _ (by assumption) (by assumption) G6 (hos6.trans hos) ⟨⟨_, rfl⟩, ps', htr', rfl⟩
    · simp [refs, sizeLine_eq]; k_extra "li"
end
section
theorem scost_c (w : World) (loose : List Str) (mean : ExcName → Option Value) (mg mb : Str → Option Value) : ∀ (news : CbLed) (a : Str) (ta : Tok) (b : Str) (tb : Tok), a.length ≤ 1000 → b.length ≤ 1000 →
   Cl PySem.Challenge.rw_sr0059_01.row.prog w (K39 w.params) topProg loose mean mg mb 154 1 8 news [.str a ta, .str b tb] (fun r news' => news' = news ∧ ∃ t, r = .int (scS a b) t) := by
  k_fill
  intro news a ta b tb ha hb
  refine Cl.mk ?_
  intro dp un gd cn cs ca ccd cl outer A₀ base h₀ L m s Q E kB kF kX kN kT kcs kd ku hret
  refine wpAny_call ?_
  k_extra "enter"
  intro g L1 h1 FG F0 N B X T
  dsimp only
  refine noE ?_
  k_fold
  k_gentoks
  have hx9 : Loc g L1 h1 [("ch_b", .str b tb), ("ch_a", .str a ta)] := loc F0 (by k_extra "kn_all")
  first | (k_extra "xe2"; clear hx9; intro r1 F) | obtain ⟨r1, F⟩ := hx9
  clear F0
  k_extra "ks"
  · refine hret _ _ _ _ (by assumption) (by assumption) ⟨rfl, _, congrArg (fun z => Value.int z _) ?_⟩
    simp_all [scS]
  · refine hret _ _ _ _ (by assumption) (by assumption) ⟨rfl, _, congrArg (fun z => Value.int z _) ?_⟩
    simp_all [scS]
  · refine hret _ _ _ _ (by assumption) (by assumption) ⟨rfl, _, congrArg (fun z => Value.int z _) ?_⟩
    simp_all [scS]
theorem scost_1 (w : World) (loose : List Str) (mean : ExcName → Option Value) (mg mb : Str → Option Value) (news : CbLed) (x : Nat) (ta : Tok) (y : Nat) (tb : Tok) :
   Cl PySem.Challenge.rw_sr0059_01.row.prog w (K39 w.params) topProg loose mean mg mb 154 1 8 news [.str (tx [x]) ta, .str (tx [y]) tb] (fun r news' => news' = news ∧ ∃ t, r = .int (scN x y) t) :=
  scost_c w loose mean mg mb news _ ta _ tb (by rw [tx_len]; exact Nat.le_of_ble_eq_true rfl) (by rw [tx_len]; exact Nat.le_of_ble_eq_true rfl)
end
section
theorem rev_getD (l : List Nat) (q : Nat) (h : q < l.length) : l.reverse.getD q 0 = l.getD (l.length - (q + 1)) 0 := by
  have h' : l.length - 1 - q = l.length - (q + 1) := by k_extra "li"
  simp [List.getD, List.getElem?_reverse h, h']

theorem lev_c (w : World) (loose : List Str) (mean : ExcName → Option Value) (mg mb : Str → Option Value) : ∀ (news : CbLed) (a : List Nat) (ta : Tok) (b : List Nat) (tb : Tok) (mx : Int) (tm : Tok), a.length ≤ 40 → b.length ≤ 40 →
   Cl PySem.Challenge.rw_sr0059_01.row.prog w (K39 w.params) topProg loose mean mg mb 161 2 20 news [.str (tx a) ta, .str (tx b) tb, .int mx tm] (fun r news' => news' = news ∧ ∃ t, r = .int (pyLev a b mx) t) := by
  k_fill
  intro news a ta b tb mx tm ha hb
  refine Cl.mk ?_
  intro dp un gd cn cs ca ccd cl outer A₀ base h₀ L m s Q E kB kF kX kN kT kcs kd ku hret
  refine wpAny_call ?_
  k_extra "enter"
  intro g L1 h1 FG F0 N B X T
  dsimp only
  refine noE ?_
  k_fold
  k_gentoks
  have la : (tx a).length ≤ 40 := by rw [tx_len]; exact ha
  have lb : (tx b).length ≤ 40 := by rw [tx_len]; exact hb
  have hx9 : Loc g L1 h1 [("max_cost", .int mx tm), ("b", .str (tx b) tb), ("a", .str (tx a) ta)] := loc F0 (by k_extra "kn_all")
  first | (k_extra "xe2"; clear hx9; intro r1 F) | obtain ⟨r1, F⟩ := hx9
  clear F0
  refine seqQ (fun h => Loc g L1 h [("max_cost", .int mx tm), ("b", .str (tx b) tb), ("a", .str (tx a) ta)] ∧ News g L1 h news ∧ a ≠ b) ?_ ?_
  · intro Qn hN hRt
    k_extra "ks"
    · refine hRt _ _ ?_
      k_extra "ks"
      refine hret _ _ _ _ (by assumption) (by assumption) ⟨rfl, _, congrArg (fun z => Value.int z _) ?_⟩
      have e : a = b := tx_inj.mp (by simpa using ‹(tx a == tx b) = true›)
      simp [pyLev, e]
    · refine hN _ _ ⟨by k_extra "lo", by assumption, ?_⟩
      intro e; subst e; simp_all
  intro h2 tk2 hP
  first | (revert hP; intro hx9; k_extra "xe3"; clear hx9; intro hx9; (first | (k_extra "xq2"; clear hx9; intro r2 F2) | obtain ⟨r2, F2⟩ := hx9); intro N2 hne) | obtain ⟨⟨r2, F2⟩, N2, hne⟩ := hP
  clear F N
  dsimp only
  refine seqQ (fun h => ∃ t, Loc g L1 h [("pre", .int 0 t), ("max_cost", .int mx tm), ("b", .str (tx b) tb), ("a", .str (tx a) ta)] ∧ News g L1 h news) ?_ ?_
  · intro Qn hN hRt
    k_extra "ks"
    exact hN _ _ ⟨_, by k_extra "lo", by assumption⟩
  intro h3 tk3 hP
  first | (revert hP; intro hx9; k_extra "xe3"; clear hx9; intro t3 hx9; (first | (k_extra "xq2"; clear hx9; intro r3 F3) | obtain ⟨r3, F3⟩ := hx9); intro N3) | obtain ⟨t3, ⟨r3, F3⟩, N3⟩ := hP
  clear F2 N2
  dsimp only
  refine seqQ (fun h => ∃ t, Loc g L1 h [("pre", .int (cpl a b) t), ("max_cost", .int mx tm), ("b", .str (tx b) tb), ("a", .str (tx a) ta)] ∧ News g L1 h news) ?_ ?_
  · intro Qn hN hRt
    refine whileQ (n₀ := a.length) (fun n h => ∃ (k : Nat) (t : Tok), Loc g L1 h [("pre", .int k t), ("max_cost", .int mx tm), ("b", .str (tx b) tb), ("a", .str (tx a) ta)] ∧ News g L1 h news ∧ n + k = a.length ∧ k ≤ cpl a b) ?_ ?_
    · exact ⟨0, t3, ⟨r3, F3⟩, N3, by k_extra "li", Nat.zero_le _⟩
    intro n h4 tk4 hI QT QX hT hW hX
    first | (revert hI; intro hx9; k_extra "xe6"; clear hx9; intro k t4 hx9; (first | (k_extra "xq2"; clear hx9; intro r4 F4) | obtain ⟨r4, F4⟩ := hx9); intro N4 hn hk) | obtain ⟨k, t4, ⟨r4, F4⟩, N4, hn, hk⟩ := hI
    clear F3 N3
    have hka : k ≤ a.length := Nat.le_trans hk (cpl_le_left a b)
    have hkb : k ≤ b.length := Nat.le_trans hk (cpl_le_right a b)
    k_extra "ks"

    · -- a turn
      have e := beq_yes1 ‹(tx [a.getD k 0] == tx [b.getD k 0]) = true›
      exact hT _ _ (n - 1) (by k_extra "li") ⟨k + 1, _, by k_extra "lo", by assumption, by k_extra "li", ((cpl_at hk (by k_extra "li") (by k_extra "li")).1 e)⟩
    · have e := beq_no1 ‹(tx [a.getD k 0] == tx [b.getD k 0]) = false›
      refine hX _ (hN _ _ ⟨t4, ?_, by assumption⟩)
      rw [(cpl_at hk (by k_extra "li") (by k_extra "li")).2 e]
      k_extra "lo"
    · refine hX _ (hN _ _ ⟨t4, ?_, by assumption⟩)
      rw [cpl_stop_right hk (by k_extra "li")]
      k_extra "lo"
    · refine hX _ (hN _ _ ⟨t4, ?_, by assumption⟩)
      rw [cpl_stop_left hk (by k_extra "li")]
      k_extra "lo"
  intro h3b tk3b hP
  first | (revert hP; intro hx9; k_extra "xe3"; clear hx9; intro t3b hx9; (first | (k_extra "xq2"; clear hx9; intro r3b F3b) | obtain ⟨r3b, F3b⟩ := hx9); intro N3b) | obtain ⟨t3b, ⟨r3b, F3b⟩, N3b⟩ := hP
  clear F3 N3
  dsimp only
  have hpa := cpl_le_left a b
  have hpb := cpl_le_right a b
  generalize hp : cpl a b = p at *
  refine seqQ (fun h => ∃ t t', Loc g L1 h [("pre", .int p t), ("max_cost", .int mx tm), ("b", .str (tx b) tb), ("a", .str (tx (a.drop p)) t')] ∧ News g L1 h news) ?_ ?_
  · intro Qn hN hRt
    k_extra "ks"
    exact hN _ _ ⟨_, _, by k_extra "lo", by assumption⟩
  intro h4 tk4 hP
  first | (revert hP; intro hx9; k_extra "xe4"; clear hx9; intro t4 t4' hx9; (first | (k_extra "xq2"; clear hx9; intro r4 F4) | obtain ⟨r4, F4⟩ := hx9); intro N4) | obtain ⟨t4, t4', ⟨r4, F4⟩, N4⟩ := hP
  clear F3b N3b
  dsimp only
  refine seqQ (fun h => ∃ t t', Loc g L1 h [("max_cost", .int mx tm), ("b", .str (tx (b.drop p)) t), ("a", .str (tx (a.drop p)) t')] ∧ News g L1 h news) ?_ ?_
  · intro Qn hN hRt
    k_extra "ks"
    exact hN _ _ ⟨_, _, by k_extra "lo", by assumption⟩
  intro h5 tk5 hP
  first | (revert hP; intro hx9; k_extra "xe4"; clear hx9; intro t5 t5' hx9; (first | (k_extra "xq2"; clear hx9; intro r5 F5) | obtain ⟨r5, F5⟩ := hx9); intro N5) | obtain ⟨t5, t5', ⟨r5, F5⟩, N5⟩ := hP
  clear F4 N4
  dsimp only
  refine seqQ (fun h => ∃ t t' t'', Loc g L1 h [("post", .int 0 t''), ("max_cost", .int mx tm), ("b", .str (tx (b.drop p)) t), ("a", .str (tx (a.drop p)) t')] ∧ News g L1 h news) ?_ ?_
  · intro Qn hN hRt
    k_extra "ks"
    exact hN _ _ ⟨_, _, _, by k_extra "lo", by assumption⟩
  intro h6 tk6 hP
  first | (revert hP; intro hx9; k_extra "xe5"; clear hx9; intro t6 t6' t6'' hx9; (first | (k_extra "xq2"; clear hx9; intro r6 F6) | obtain ⟨r6, F6⟩ := hx9); intro N6) | obtain ⟨t6, t6', t6'', ⟨r6, F6⟩, N6⟩ := hP
  clear F5 N5
  dsimp only
  have hA : (a.drop p).length ≤ 40 := by rw [List.length_drop]; k_extra "li"
  have hB : (b.drop p).length ≤ 40 := by rw [List.length_drop]; k_extra "li"
  have hres : pyLev a b mx = levMid ((a.drop p).take ((a.drop p).length - cpl (a.drop p).reverse (b.drop p).reverse)) ((b.drop p).take ((b.drop p).length - cpl (a.drop p).reverse (b.drop p).reverse)) mx := by
    simp only [pyLev, if_neg hne, hp]
  generalize a.drop p = A at *
  generalize b.drop p = D at *
  have lA : (tx A).length ≤ 40 := by rw [tx_len]; exact hA
  have lB : (tx D).length ≤ 40 := by rw [tx_len]; exact hB
  refine seqQ (fun h => ∃ t t' t'', Loc g L1 h [("post", .int (-(cpl A.reverse D.reverse : Nat)) t''), ("max_cost", .int mx tm), ("b", .str (tx D) t), ("a", .str (tx A) t')] ∧ News g L1 h news) ?_ ?_
  · intro Qn hN hRt
    refine whileQ (n₀ := A.length) (fun n h => ∃ (q : Nat) (t t' t'' : Tok), Loc g L1 h [("post", .int (-(q : Int)) t''), ("max_cost", .int mx tm), ("b", .str (tx D) t), ("a", .str (tx A) t')] ∧ News g L1 h news ∧ n + q = A.length ∧ q ≤ cpl A.reverse D.reverse) ?_ ?_
    · exact ⟨0, t6, t6', t6'', ⟨r6, F6⟩, N6, by k_extra "li", Nat.zero_le _⟩
    intro n h7 tk7 hI QT QX hT hW hX
    first | (revert hI; intro hx9; k_extra "xe8"; clear hx9; intro q t7 t7' t7'' hx9; (first | (k_extra "xq2"; clear hx9; intro r7 F7) | obtain ⟨r7, F7⟩ := hx9); intro N7 hn hq) | obtain ⟨q, t7, t7', t7'', ⟨r7, F7⟩, N7, hn, hq⟩ := hI
    clear F6 N6
    have hqa : q ≤ A.length := by have := Nat.le_trans hq (cpl_le_left _ _); rw [List.length_reverse] at this; exact this
    have hqb : q ≤ D.length := by have := Nat.le_trans hq (cpl_le_right _ _); rw [List.length_reverse] at this; exact this
    k_extra "ks"
    · have e := beq_yes1 ‹(tx [A.getD (A.length - (q + 1)) 0] == tx [D.getD (D.length - (q + 1)) 0]) = true›
      rw [← rev_getD A q (by k_extra "li"), ← rev_getD D q (by k_extra "li")] at e
      refine hT _ _ (n - 1) (by k_extra "li") ⟨q + 1, _, _, _, by k_extra "lo", by assumption, by k_extra "li", ((cpl_at hq (by rw [List.length_reverse]; k_extra "li") (by rw [List.length_reverse]; k_extra "li")).1 e)⟩
    · have e := beq_no1 ‹(tx [A.getD (A.length - (q + 1)) 0] == tx [D.getD (D.length - (q + 1)) 0]) = false›
      rw [← rev_getD A q (by k_extra "li"), ← rev_getD D q (by k_extra "li")] at e
      refine hX _ (hN _ _ ?_)
      rw [(cpl_at hq (by rw [List.length_reverse]; k_extra "li") (by rw [List.length_reverse]; k_extra "li")).2 e]
      exact ⟨_, _, _, by k_extra "lo", by assumption⟩
    · refine hX _ (hN _ _ ?_)
      rw [cpl_stop_right hq (by rw [List.length_reverse]; k_extra "li")]
      exact ⟨_, _, _, by k_extra "lo", by assumption⟩
    · refine hX _ (hN _ _ ?_)
      rw [cpl_stop_left hq (by rw [List.length_reverse]; k_extra "li")]
      exact ⟨_, _, _, by k_extra "lo", by assumption⟩
  intro h7 tk7 hP
  first | (revert hP; intro hx9; k_extra "xe5"; clear hx9; intro t7 t7' t7'' hx9; (first | (k_extra "xq2"; clear hx9; intro r7 F7) | obtain ⟨r7, F7⟩ := hx9); intro N7) | obtain ⟨t7, t7', t7'', ⟨r7, F7⟩, N7⟩ := hP
  clear F6 N6
  dsimp only
  have hqa : cpl A.reverse D.reverse ≤ A.length := by have := cpl_le_left A.reverse D.reverse; rw [List.length_reverse] at this; exact this
  have hqb : cpl A.reverse D.reverse ≤ D.length := by have := cpl_le_right A.reverse D.reverse; rw [List.length_reverse] at this; exact this
  generalize hqq : cpl A.reverse D.reverse = q at *
  refine seqQ (fun h => ∃ t t' t'', Loc g L1 h [("post", .int (-(q : Int)) t''), ("max_cost", .int mx tm), ("b", .str (tx D) t), ("a", .str (tx (A.take (A.length - q))) t')] ∧ News g L1 h news) ?_ ?_
  · intro Qn hN hRt
    k_extra "ks"
    exact hN _ _ ⟨_, _, _, by k_extra "lo", by assumption⟩
  intro h8 tk8 hP
  first | (revert hP; intro hx9; k_extra "xe5"; clear hx9; intro t8 t8' t8'' hx9; (first | (k_extra "xq2"; clear hx9; intro r8 F8) | obtain ⟨r8, F8⟩ := hx9); intro N8) | obtain ⟨t8, t8', t8'', ⟨r8, F8⟩, N8⟩ := hP
  clear F7 N7
  dsimp only
  refine seqQ (fun h => ∃ t t', Loc g L1 h [("max_cost", .int mx tm), ("b", .str (tx (D.take (D.length - q))) t), ("a", .str (tx (A.take (A.length - q))) t')] ∧ News g L1 h news) ?_ ?_
  · intro Qn hN hRt
    k_extra "ks"
    exact hN _ _ ⟨_, _, by k_extra "lo", by assumption⟩
  intro h9 tk9 hP
  first | (revert hP; intro hx9; k_extra "xe4"; clear hx9; intro t9 t9' hx9; (first | (k_extra "xq2"; clear hx9; intro r9 F9) | obtain ⟨r9, F9⟩ := hx9); intro N9) | obtain ⟨t9, t9', ⟨r9, F9⟩, N9⟩ := hP
  clear F8 N8
  dsimp only
  have hA' : (A.take (A.length - q)).length ≤ 40 := by rw [List.length_take]; k_extra "li"
  have hB' : (D.take (D.length - q)).length ≤ 40 := by rw [List.length_take]; k_extra "li"
  clear hqq hqa hqb
  generalize A.take (A.length - q) = P at *
  generalize D.take (D.length - q) = S at *
  rw [hres] at hret
  clear hres hA hB lA lB
  refine seqQ (fun h => ∃ t t', Loc g L1 h [("max_cost", .int mx tm), ("b", .str (tx S) t), ("a", .str (tx P) t')] ∧ News g L1 h news ∧ P ≠ [] ∧ S ≠ []) ?_ ?_
  · intro Qn hN hRt
    k_extra "ks"
    · exact hN _ _ ⟨_, _, by k_extra "lo", by assumption, by intro e; subst e; simp_all, by intro e; subst e; simp_all⟩
    · refine hRt _ _ ?_
      k_extra "ks"
      refine hret _ _ _ _ (by assumption) (by assumption) ⟨rfl, _, congrArg (fun z => Value.int z _) ?_⟩
      have : S = [] := List.length_eq_zero_iff.mp (by assumption)
      simp [levMid, this]
    · refine hRt _ _ ?_
      k_extra "ks"
      refine hret _ _ _ _ (by assumption) (by assumption) ⟨rfl, _, congrArg (fun z => Value.int z _) ?_⟩
      have : P = [] := List.length_eq_zero_iff.mp (by assumption)
      simp [levMid, this]
  intro h10 tk10 hP
  first | (revert hP; intro hx9; k_extra "xe6"; clear hx9; intro t10 t10' hx9; (first | (k_extra "xq2"; clear hx9; intro r10 F10) | obtain ⟨r10, F10⟩ := hx9); intro N10 hPn hSn) | obtain ⟨t10, t10', ⟨r10, F10⟩, N10, hPn, hSn⟩ := hP
  clear F9 N9
  dsimp only
  have hmid : levMid P S mx = if S.length < P.length then levCore S P mx else levCore P S mx := by
    simp only [levMid]
    rw [if_neg (by simp [hPn, hSn]), if_neg (by k_extra "li")]
  rw [hmid] at hret
  clear hmid
  refine seqQ (fun h => ∃ t t', Loc g L1 h [("max_cost", .int mx tm), ("b", .str (tx S) t), ("a", .str (tx P) t')] ∧ News g L1 h news) ?_ ?_
  · intro Qn hN hRt
    k_extra "ks"
    exact hN _ _ ⟨_, _, by k_extra "lo", by assumption⟩
  intro h11 tk11 hP
  first | (revert hP; intro hx9; k_extra "xe4"; clear hx9; intro t11 t11' hx9; (first | (k_extra "xq2"; clear hx9; intro r11 F11) | obtain ⟨r11, F11⟩ := hx9); intro N11) | obtain ⟨t11, t11', ⟨r11, F11⟩, N11⟩ := hP
  clear F10 N10
  dsimp only
  refine seqQ (fun h => ∃ (U V : List Nat) (t t' : Tok), Loc g L1 h [("max_cost", .int mx tm), ("b", .str (tx V) t), ("a", .str (tx U) t')] ∧ News g L1 h news ∧ U.length ≤ 40 ∧ V.length ≤ 40 ∧ U ≠ [] ∧ V ≠ [] ∧ U.length ≤ V.length ∧ (if S.length < P.length then levCore S P mx else levCore P S mx) = levCore U V mx) ?_ ?_
  · intro Qn hN hRt
    k_extra "ks"
    · exact hN _ _ ⟨S, P, _, _, by k_extra "lo", News.perm ‹_› (fun p hp => List.mem_cons_of_mem _ hp), by k_extra "li", by k_extra "li", hSn, hPn, by k_extra "li", by rw [if_pos (by k_extra "li")]⟩
    · exact hN _ _ ⟨P, S, _, _, by k_extra "lo", by assumption, by k_extra "li", by k_extra "li", hPn, hSn, by k_extra "li", by rw [if_neg (by k_extra "li")]⟩
  intro h12 tk12 hP
  first | (revert hP; intro hx9; k_extra "xe12"; clear hx9; intro U V t12 t12' hx9; (first | (k_extra "xq2"; clear hx9; intro r12 F12) | obtain ⟨r12, F12⟩ := hx9); intro N12 hU hV hUn hVn hUV hcore) | obtain ⟨U, V, t12, t12', ⟨r12, F12⟩, N12, hU, hV, hUn, hVn, hUV, hcore⟩ := hP
  clear F11 N11
  rw [hcore] at hret
  dsimp only
  refine seqQ (fun h => ∃ (t t' : Tok), Loc g L1 h [("max_cost", .int mx tm), ("b", .str (tx V) t), ("a", .str (tx U) t')] ∧ News g L1 h news ∧ ¬ ((V.length : Int) - U.length) * 2 > mx) ?_ ?_
  · intro Qn hN hRt
    k_extra "ks"
    · refine hRt _ _ ?_
      k_extra "ks"
      refine hret _ _ _ _ (by assumption) (by assumption) ⟨rfl, _, congrArg (fun z => Value.int z _) ?_⟩
      simp only [levCore]
      rw [if_pos (by k_extra "li")]
    · exact hN _ _ ⟨_, _, by k_extra "lo", by assumption, by k_extra "li"⟩
  intro h13 tk13 hP
  first | (revert hP; intro hx9; k_extra "xe5"; clear hx9; intro t13 t13' hx9; (first | (k_extra "xq2"; clear hx9; intro r13 F13) | obtain ⟨r13, F13⟩ := hx9); intro N13 hnm) | obtain ⟨t13, t13', ⟨r13, F13⟩, N13, hnm⟩ := hP
  clear F12 N12
  dsimp only
  refine seqQ (fun h => ∃ (t t' : Tok) (D : Addr) (us : List Value) (n : Nat), Loc g L1 h [("row", .ref D), ("max_cost", .int mx tm), ("b", .str (tx V) t), ("a", .str (tx U) t')] ∧ News g L1 h ((D, listOf us.toArray n) :: news) ∧ (∀ p ∈ news, p.1 < D) ∧ IntsAre us (row0 U.length)) ?_ ?_
  · intro Qn hN hRt
    k_extra "ks"
    exact hN _ _ ⟨_, _, _, _, _, by k_extra "lo", by assumption, by assumption, by assumption⟩
  intro h14 tk14 hP
  first | (revert hP; intro hx9; k_extra "xe9"; clear hx9; intro t14 t14' D us n hx9; (first | (k_extra "xq2"; clear hx9; intro r14 F14) | obtain ⟨r14, F14⟩ := hx9); intro N14 l14 I14) | obtain ⟨t14, t14', D, us, n, ⟨r14, F14⟩, N14, l14, I14⟩ := hP
  clear F13 N13
  dsimp only
  refine seqQ (fun h => ∃ (t t' t'' : Tok), Loc g L1 h [("result", .int 0 t''), ("row", .ref D), ("max_cost", .int mx tm), ("b", .str (tx V) t), ("a", .str (tx U) t')] ∧ News g L1 h ((D, listOf us.toArray n) :: news)) ?_ ?_
  · intro Qn hN hRt
    k_extra "ks"
    exact hN _ _ ⟨_, _, _, by k_extra "lo", by assumption⟩
  intro h15 tk15 hP
  first | (revert hP; intro hx9; k_extra "xe5"; clear hx9; intro t15 t15' t15'' hx9; (first | (k_extra "xq2"; clear hx9; intro r15 F15) | obtain ⟨r15, F15⟩ := hx9); intro N15) | obtain ⟨t15, t15', t15'', ⟨r15, F15⟩, N15⟩ := hP
  clear F14 N14
  dsimp only
  have hcr : levCore U V mx = outFrom U mx V 0 (row0 U.length) 0 := by simp only [levCore]; rw [if_neg hnm]
  rw [hcr] at hret
  refine seqQ (fun h => ∃ (t' : Tok) (nx : CbLed), Loc g L1 h [("result", .int (outFrom U mx V 0 (row0 U.length) 0) t')] ∧ News g L1 h nx ∧ ∀ p ∈ news, p ∈ nx) ?_ ?_
  · intro Qn hN hRt
    k_extra "kfor"
    refine forRange0 (σ := List Value × List Int × Int × Tok × Nat) (fun c => (D, listOf c.1.toArray c.2.2.2.2) :: news) (fun c => [("result", .int c.2.2.1 c.2.2.2.1), ("row", .ref D), ("max_cost", .int mx tm), ("b", .str (tx V) t15), ("a", .str (tx U) t15')])
      (fun j c => IntsAre c.1 c.2.1 ∧ c.2.1.length = U.length ∧ outFrom U mx V 0 (row0 U.length) 0 = outFrom U mx (V.drop j) j c.2.1 c.2.2.1) (us, row0 U.length, 0, t15'', n) rfl (by assumption) rfl (by k_extra "li") (by assumption) (by assumption) ?_ ?_ ?_ ?_
    · k_extra "kn_all"
    · exact ⟨I14, by simp [row0], rfl⟩
    · intro hx9
      first | (k_extra "xq5"; clear hx9; intro us1 ks1 res1 tr1 n1) | obtain ⟨us1, ks1, res1, tr1, n1⟩ := hx9
      intro i ti rr h tk own hin hoff hx9
      first | (k_extra "xq3"; clear hx9; intro I1 hl1 heq) | obtain ⟨I1, hl1, heq⟩ := hx9
      intro F1 N1
      refine turnQ ?_
      intro QT hT hVt
      dsimp only at *
      have F1' : Fr g L1 h _ := F1
      have N1' : News g L1 h _ := N1
      clear F1 N1; try k_sweep
      refine seqQ (fun h => ∃ (t : Tok), Loc g L1 h [("bchar", .str (tx [V.getD i 0]) t), ("bindex", .int (i : Int) ti), ("row", .ref D), ("max_cost", .int mx tm), ("b", .str (tx V) t15), ("a", .str (tx U) t15')] ∧ News g L1 h ((D, listOf us1.toArray n1) :: news ++ own)) ?_ ?_
      · intro Qn hN hRt
        k_extra "ks"
        exact hN _ _ ⟨_, by k_extra "lo", by assumption⟩
      intro h16 tk16 hP
      first | (revert hP; intro hx9; k_extra "xe3"; clear hx9; intro t16 hx9; (first | (k_extra "xq2"; clear hx9; intro r16 F16) | obtain ⟨r16, F16⟩ := hx9); intro N16) | obtain ⟨t16, ⟨r16, F16⟩, N16⟩ := hP
      clear F1' N1'
      dsimp only
      refine seqQ (fun h => ∃ (t t' : Tok), Loc g L1 h [("result", .int (2 * (i : Int)) t), ("distance", .int (2 * (i : Int)) t'), ("bchar", .str (tx [V.getD i 0]) t16), ("bindex", .int (i : Int) ti), ("row", .ref D), ("max_cost", .int mx tm), ("b", .str (tx V) t15), ("a", .str (tx U) t15')] ∧ News g L1 h ((D, listOf us1.toArray n1) :: news ++ own)) ?_ ?_
      · intro Qn hN hRt
        k_extra "ks"
        exact hN _ _ ⟨_, _, by k_extra "lo", by assumption⟩
      intro h17 tk17 hP
      first | (revert hP; intro hx9; k_extra "xe4"; clear hx9; intro t17 t17' hx9; (first | (k_extra "xq2"; clear hx9; intro r17 F17) | obtain ⟨r17, F17⟩ := hx9); intro N17) | obtain ⟨t17, t17', ⟨r17, F17⟩, N17⟩ := hP
      clear F16 N16
      dsimp only
      refine seqQ (fun h => ∃ (t : Tok), Loc g L1 h [("minimum", .int big t), ("result", .int (2 * (i : Int)) t17), ("distance", .int (2 * (i : Int)) t17'), ("bchar", .str (tx [V.getD i 0]) t16), ("bindex", .int (i : Int) ti), ("row", .ref D), ("max_cost", .int mx tm), ("b", .str (tx V) t15), ("a", .str (tx U) t15')] ∧ News g L1 h ((D, listOf us1.toArray n1) :: news ++ own)) ?_ ?_
      · intro Qn hN hRt
        k_extra "ks"
        exact hN _ _ ⟨_, by k_extra "lo", by assumption⟩
      intro h18 tk18 hP
      first | (revert hP; intro hx9; k_extra "xe3"; clear hx9; intro t18 hx9; (first | (k_extra "xq2"; clear hx9; intro r18 F18) | obtain ⟨r18, F18⟩ := hx9); intro N18) | obtain ⟨t18, ⟨r18, F18⟩, N18⟩ := hP
      clear F17 N17
      dsimp only
      refine seqQ (fun h => ∃ (st : InSt) (us : List Value) (t t' : Tok) (n : Nat), st = inn U (V.getD i 0) ⟨ks1, 2 * (i : Int), 2 * (i : Int), big⟩ U.length ∧ IntsAre us st.row ∧ Loc g L1 h [("minimum", .int st.mn t), ("result", .int st.res t'), ("row", .ref D), ("max_cost", .int mx tm), ("b", .str (tx V) t15), ("a", .str (tx U) t15')] ∧ News g L1 h ((D, listOf us.toArray n) :: news ++ own)) ?_ ?_
      · intro Qn hN hRt
        k_extra "kfor"
        refine forRange0 (σ := List Value × Tok × Tok × Tok × Nat × InSt) (fun c => (D, listOf c.1.toArray c.2.2.2.2.1) :: news ++ own) (fun c => [("minimum", .int c.2.2.2.2.2.mn c.2.1), ("result", .int c.2.2.2.2.2.res c.2.2.1), ("distance", .int c.2.2.2.2.2.d c.2.2.2.1), ("bchar", .str (tx [V.getD i 0]) t16), ("row", .ref D), ("max_cost", .int mx tm), ("b", .str (tx V) t15), ("a", .str (tx U) t15')])
          (fun j c => c.2.2.2.2.2 = inn U (V.getD i 0) ⟨ks1, 2 * (i : Int), 2 * (i : Int), big⟩ j ∧ IntsAre c.1 c.2.2.2.2.2.row) (us1, t18, t17, t17', n1, ⟨ks1, 2 * (i : Int), 2 * (i : Int), big⟩) rfl (by assumption) rfl (by k_extra "li") (by assumption) (by assumption) ?_ ?_ ?_ ?_
        · k_extra "kn_all"
        · exact ⟨rfl, I1⟩
        · intro hx9
          first | (k_extra "xq6"; clear hx9; intro us2 tmn tres td n2 st) | obtain ⟨us2, tmn, tres, td, n2, st⟩ := hx9
          intro k tkk rr2 h19 tk19 own2 hkn hoff2 hx9
          first | (k_extra "xq2"; clear hx9; intro hst I2) | obtain ⟨hst, I2⟩ := hx9
          intro F2 N2
          refine turnQ ?_
          intro QT2 hT hVt2
          dsimp only at *
          have F2' : Fr g L1 h19 _ := F2
          have N2' : News g L1 h19 _ := N2
          clear F2 N2; try k_sweep
          have hrl : st.row.length = U.length := by rw [hst, inn_len]; exact hl1
          k_extra "ks"
          all_goals simp only [Int.toNat_natCast] at *
          all_goals generalize hres' : (if st.d + scN (V.getD i 0) (U.getD k 0) < (if st.row.getD k 0 < st.res then st.row.getD k 0 else st.res) + 2 then st.d + scN (V.getD i 0) (U.getD k 0) else (if st.row.getD k 0 < st.res then st.row.getD k 0 else st.res) + 2) = res' at *
          · refine hT ⟨us2.set k (.int res' _), _, _, _, _, ⟨st.row.set k res', st.row.getD k 0, res', res'⟩⟩ (by assumption) (by assumption) rfl (by simp) (by k_extra "kn_all") ⟨?_, by assumption⟩
            simp only [inn]
            rw [← hst]
            simp only [inS]
            rw [hres', if_pos (by assumption)]
          · refine hT ⟨us2.set k (.int res' _), _, _, _, _, ⟨st.row.set k res', st.row.getD k 0, res', st.mn⟩⟩ (by assumption) (by assumption) rfl (by simp) (by k_extra "kn_all") ⟨?_, by assumption⟩
            simp only [inn]
            rw [← hst]
            simp only [inS]
            rw [hres', if_neg (by assumption)]
        · intro hx9
          first | (k_extra "xq6"; clear hx9; intro us2 tmn tres td n2 st) | obtain ⟨us2, tmn, tres, td, n2, st⟩ := hx9
          intro rr2 h19 tk19 hx9
          first | (k_extra "xq2"; clear hx9; intro hst I2) | obtain ⟨hst, I2⟩ := hx9
          intro F2 N2
          dsimp only at *
          exact hN _ _ ⟨st, us2, _, _, _, hst, I2, by k_extra "lo", N2⟩
      intro h20 tk20 hP
      first | (revert hP; intro hx9; k_extra "xe9"; clear hx9; intro st us2 t20 t20' n2 hst I2 hx9; (first | (k_extra "xq2"; clear hx9; intro r20 F20) | obtain ⟨r20, F20⟩ := hx9); intro N20) | obtain ⟨st, us2, t20, t20', n2, hst, I2, ⟨r20, F20⟩, N20⟩ := hP
      clear F18 N18
      dsimp only
      have hVd : V.drop i = V.getD i 0 :: V.drop (i + 1) := by
        rw [List.drop_eq_getElem_cons hin]; simp [List.getD, hin]
      rw [hVd] at heq
      simp only [outFrom] at heq
      rw [← hst] at heq
      k_extra "ks"
      · -- the bound is broken
        rw [if_pos (by k_extra "li")] at heq
        rw [heq] at hret
        refine hVt _ _ (hRt _ _ ?_)
        have N20' : News g L1 h20 news := News.perm N20 fun p hp => List.mem_cons_of_mem _ (List.mem_append_left _ hp)
        clear N20
        k_extra "ks"
        exact hret _ _ _ _ (by assumption) (by assumption) ⟨rfl, _, rfl⟩
      · rw [if_neg (by k_extra "li")] at heq
        refine hT ⟨us2, st.row, st.res, _, _⟩ (by assumption) (by assumption) rfl (by simp) (by k_extra "kn_all") ⟨I2, ?_, heq⟩
        rw [hst, inn_len]; exact hl1
    · intro hx9
      first | (k_extra "xq5"; clear hx9; intro us1 ks1 res1 tr1 n1) | obtain ⟨us1, ks1, res1, tr1, n1⟩ := hx9
      intro rr h tk hx9
      first | (k_extra "xq3"; clear hx9; intro I1 hl1 heq) | obtain ⟨I1, hl1, heq⟩ := hx9
      intro F1 N1
      dsimp only at *
      rw [List.drop_length] at heq
      refine hN _ _ ?_
      rw [heq]
      exact ⟨_, _, by k_extra "lo", N1, fun p hp => List.mem_cons_of_mem _ hp⟩
  intro h21 tk21 hP
  first | (revert hP; intro hx9; k_extra "xe5"; clear hx9; intro t21 nx hx9; (first | (k_extra "xq2"; clear hx9; intro r21 F21) | obtain ⟨r21, F21⟩ := hx9); intro N21 hsub) | obtain ⟨t21, nx, ⟨r21, F21⟩, N21, hsub⟩ := hP
  dsimp only
  have N21' : News g L1 h21 news := News.perm N21 hsub
  clear N21
  k_extra "ks"
  exact hret _ _ _ _ (by assumption) (by assumption) ⟨rfl, _, rfl⟩
end
section
theorem lbend {w : World} {loose : List Str} {mean : ExcName → Option Value} {mg mb : Str → Option Value} {g : Heap} (L : Addr) (fa : Addr) (cd : Value) (l : Addr) (vs : List Value) (ns : List Int) (C : LawCtx w loose mean mg mb g L l vs ns) (c6 : Obj) (c7 : Obj) (tot : Nat) (o1 : Obj) (b : Int) (o2 : Obj) (cnt : Nat) (tc2 : Tok) (hc1 : 3 ≤ cnt) (hc2 : cnt ≤ 5) (D4 : Addr) (ul : List Value) (o3 : Obj) (hul : IntsAre ul ((lapsL cnt).map fun (x : Nat) => (x : Int))) (e3' : o3.data = .cell (some (.ref D4))) (o4 : Obj) (fs : List Nat) (tf : Tok) (o5 : Obj) (hfl : fs.length = cnt) (hfltr : (∀ c ∈ fs, Ltr c)) (hfnd : (fs.map lo).Nodup) (e5 : o5.data = .cell (some (.str (tx fs) tf))) (hr : Int) (Dh : Addr) (uh : List Value) (way : Int) (Dt : Addr) (ut : List Value) (own1 : CbLed) (own2 : CbLed) (hTb : TbsM own1 own2 [(D4, listOf ul.toArray 0), (Dh, listOf uh.toArray 0), (L + 1 + 1 + 1 + 1 + 1 + 1 + 1, c7), (L + 1 + 1 + 1 + 1 + 1 + 1, c6), (L + 1 + 1 + 1 + 1 + 1, o5), (L + 1 + 1 + 1 + 1, o4), (L + 1 + 1 + 1, o3), (L + 1 + 1, o2), (L + 1, o1), (63, tabObj #[]), (70, tabObj #[])]) (x : Addr) (dx : Addr) (nd : Nat) (ti1 : Tok) (ti2 : Tok) (o6 : Obj) (lw : List Pr) (ps2 : Array Value) (o7 : Obj) (hlwb : lw.map Pr.b = List.replicate cnt (Str.ofString " ")) (hlws : lw.map Pr.s = ((toldOf fs ((hoursL hr way).getD 3 0)).reverse.map fun c => tx [c])) (Dp : Addr) (np : Nat) (ps3 : Array Value) (tl1 : Tok) (tl2 : Tok) (PP : Unit) : ∀ (s : Shared), AllBare s.gens → Loc g L s.heap [("rest", .int (((hoursL hr way).getD 3 0) % ((lapsL cnt).getD cnt 1 : Nat)) tl1), ("lapped", .int (((hoursL hr way).getD 3 0) / ((lapsL cnt).getD cnt 1 : Nat)) tl2), ("popped", .ref Dp), ("told", .ref Dt), ("hours", .ref Dh), ("count", .int (cnt : Int) tc2)] → News g L s.heap ((Dp, listOf (refs lw.reverse).toArray cnt) :: (63, tabObj ps3) :: (70, tabObj ps2) :: (x, lstObj 101 dx ([] : List Value).toArray np) :: (dx, dictOf (isD w.params (tot % 4) ti1 ti2) nd) :: (Dt, listOf ut.toArray 4) :: (D4, listOf ul.toArray 0) :: (Dh, listOf uh.toArray 0) :: (L + 1 + 1 + 1 + 1 + 1 + 1 + 1, o7) :: (L + 1 + 1 + 1 + 1 + 1 + 1, o6) :: (L + 1 + 1 + 1 + 1 + 1, o5) :: (L + 1 + 1 + 1 + 1, o4) :: (L + 1 + 1 + 1, o3) :: (L + 1 + 1, o2) :: (L + 1, o1) :: (tups lw ++ (own1 ++ own2))) →
    wpAny (model PySem.Challenge.rw_sr0059_01.row.prog w) (callerA.deeper (LEnv L fa cd)) (execs [lawStmt 16] (LEnv L fa cd)) (LawEnd g [(132, 128), (125, 121), (67, 63), (74, 70)] s.os) NoE s := by
  have X := C.X
  have T := C.T
  have B := C.B
  have k1 := C.k1
  have k2 := C.k2
  have k3 := C.k3
  have k4 := C.k4
  have hI := C.hI
  have lifted := C.lifted
  have hns := C.hns
  have l0 := C.l0
  have kcd : CdH g := ⟨k2, k1⟩
  clear C
  refine end_mk (show lawStmt 16 = _ from (by conv => lhs; whnf)) ?_
  intro h0 gg dr tk oo G ⟨r18, F18⟩ N18
  have k5 := G
  have G18 := G
  have Os18 : oo = oo := rfl
  have hl3 := toldOf_len hfltr ((hoursL hr way).getD 3 0)
  have hr3 := toldOf_ltr hfltr ((hoursL hr way).getD 3 0)
  have hx9 := hour_ok hfl hc1 hc2 hfltr hfnd ((hoursL hr way).getD 3 0)
  first | (k_extra "xe2"; clear hx9; intro ho1 ho2) | obtain ⟨ho1, ho2⟩ := hx9
  have hhn : 0 ≤ ((hoursL hr way).getD 3 0) % ((lapsL cnt).getD cnt 1 : Nat) := Int.emod_nonneg _ (by
    have := (lapsL_at (c := cnt) (k := cnt) hc2 (Nat.le_refl _)).2.1
    k_extra "li")
  have hx9 := rev_facts hlwb hlws
  first | (k_extra "xe2"; clear hx9; intro v1 v2) | obtain ⟨v1, v2⟩ := hx9
  have hlw : lw.length = cnt := by rw [← List.length_map (f := Pr.b), hlwb, List.length_replicate]
  generalize toldOf fs ((hoursL hr way).getD 3 0) = tz at *
  generalize ((hoursL hr way).getD 3 0) % ((lapsL cnt).getD cnt 1 : Nat) = rs at *
  repeat' ((fail_if_success (with_reducible show PySem.wpAny _ _ (eval (Expr.ListComp _ _ _ _) _) _ _ _)); k_extra "ks1"; try dsimp only)
  refine LCp.ListComp_P (F₀ := by k_asm) (by with_unfolding_all rfl) (by decide) (by rfl) (by decide) (by rfl) (by rfl) (by decide) ?_
  repeat' ((fail_if_success (show LCp.SrcLP ..)); k_extra "ks1"; try dsimp only)
  have hsz : (refs lw.reverse).length = cnt := by rw [refs, List.length_map, List.length_reverse]; exact hlw
  refine LCp.SrcLP.ledger (ax := Dp) (by rfl) (by k_asm) N18 (.head _) (by rw [List.size_toArray, hsz, PySem.sizeLine_eq]; k_extra "li") ?_
  intro g'
  refine compP (fun i ys nx => nx = (Dp, listOf (refs lw.reverse).toArray cnt) :: (63, tabObj ps3) :: (70, tabObj ps2) :: (x, lstObj 101 dx ([] : List Value).toArray np) :: (dx, dictOf (isD w.params (tot % 4) ti1 ti2) nd) :: (Dt, listOf ut.toArray 4) :: (D4, listOf ul.toArray 0) :: (Dh, listOf uh.toArray 0) :: (L + 1 + 1 + 1 + 1 + 1 + 1 + 1, o7) :: (L + 1 + 1 + 1 + 1 + 1 + 1, o6) :: (L + 1 + 1 + 1 + 1 + 1, o5) :: (L + 1 + 1 + 1 + 1, o4) :: (L + 1 + 1 + 1, o3) :: (L + 1 + 1, o2) :: (L + 1, o1) :: (tups lw ++ (own1 ++ own2)) ∧ StrsAre ys ((tz.take i).map fun c => tx [c])) ⟨rfl, .nil⟩ ?_ ?_
  · intro i v ys nx hi hv hx9
    first | (k_extra "xq2"; clear hx9; intro eq9; subst eq9; intro hys) | obtain ⟨rfl, hys⟩ := hx9
    rw [List.size_toArray, hsz] at hi
    have hx9 := pr_get (l := lw.reverse) (by simpa using hv) v1 v2
    first | (k_extra "xe5"; clear hx9; intro q hq eq9; subst eq9; intro hqb hqs) | obtain ⟨q, hq, rfl, hqb, hqs⟩ := hx9
    refine ⟨q.a, q.obj, .str q.b q.tb, .str q.s q.ts, 0, rfl, ?_, rfl, rfl, ?_⟩
    · have := tups_rev (l := lw) (tups_mem hq)
      simp only [List.mem_cons, List.mem_append, this, or_true, true_or]
    · intro I oI C oC D m₂ h tk E' hC hx hx2 F N off ne
      with_reducible show PySem.wpAny _ _ _ _ _ _
      k_fold
      try dsimp only
      k_extra "kd"
      refine LCg.CompEnd.intro F N _ (fun _ hp => hp) off (Or.inr ⟨_, .head _, rfl, _, rfl⟩) ⟨rfl, ?_⟩
      rw [hqs, take_snocN (by k_extra "li"), List.map_append]
      exact kct_snoc hys
  · intro ys nx hx9
    first | (k_extra "xq2"; clear hx9; intro eq9; subst eq9; intro hys) | obtain ⟨rfl, hys⟩ := hx9
    rw [List.size_toArray, hsz, List.take_of_length_le (by k_extra "li")] at hys
    intro D h tk F N oD
    dsimp only
    repeat' ((fail_if_success (with_reducible show PySem.wpAny _ _ (call (.builtin "str.join") _) _ _ _)); k_extra "ks1"; try dsimp only)
    refine join_list (items := ys.toArray) ⟨_, (N _ (.head _)).1, rfl, _, rfl⟩ (by show StrsAre ys _; exact hys) (join_bnd _ (by k_extra "li")) ?_
    intro t9 k9
    rw [join_tx]
    replace N := News.perm N (news' := (Dp, listOf (refs lw.reverse).toArray cnt) :: (63, tabObj ps3) :: (70, tabObj ps2) :: (x, lstObj 101 dx ([] : List Value).toArray np) :: (dx, dictOf (isD w.params (tot % 4) ti1 ti2) nd) :: (Dt, listOf ut.toArray 4) :: (D4, listOf ul.toArray 0) :: (Dh, listOf uh.toArray 0) :: (L + 1 + 1 + 1 + 1 + 1 + 1 + 1, o7) :: (L + 1 + 1 + 1 + 1 + 1 + 1, o6) :: (L + 1 + 1 + 1 + 1 + 1, o5) :: (L + 1 + 1 + 1 + 1, o4) :: (L + 1 + 1 + 1, o3) :: (L + 1 + 1, o2) :: (L + 1, o1) :: (tups lw ++ (own1 ++ own2))) (by k_extra "psub")
    try dsimp only
    repeat' ((fail_if_success (with_reducible show PySem.wpAny _ _ (call (.ref 175) _) _ _ _)); k_extra "ks1"; try dsimp only)
    (with_reducible rename News _ _ _ _ => N7)
    replace N7 := News.perm N7 (news' := (D4, listOf ul.toArray 0) :: (Dp, listOf (refs lw.reverse).toArray cnt) :: (63, tabObj ps3) :: (70, tabObj ps2) :: (x, lstObj 101 dx ([] : List Value).toArray np) :: (dx, dictOf (isD w.params (tot % 4) ti1 ti2) nd) :: (Dt, listOf ut.toArray 4) :: (Dh, listOf uh.toArray 0) :: (L + 1 + 1 + 1 + 1 + 1 + 1 + 1, o7) :: (L + 1 + 1 + 1 + 1 + 1 + 1, o6) :: (L + 1 + 1 + 1 + 1 + 1, o5) :: (L + 1 + 1 + 1 + 1, o4) :: (L + 1 + 1 + 1, o3) :: (L + 1 + 1, o2) :: (L + 1, o1) :: (tups lw ++ (own1 ++ own2))) (by k_extra "psub")
    (k_dflt (refine' Cl.use (hour_c _ _ _ _ _ ((Dp, listOf (refs lw.reverse).toArray cnt) :: (63, tabObj ps3) :: (70, tabObj ps2) :: (x, lstObj 101 dx ([] : List Value).toArray np) :: (dx, dictOf (isD w.params (tot % 4) ti1 ti2) nd) :: (Dt, listOf ut.toArray 4) :: (Dh, listOf uh.toArray 0) :: (L + 1 + 1 + 1 + 1 + 1 + 1 + 1, o7) :: (L + 1 + 1 + 1 + 1 + 1 + 1, o6) :: (L + 1 + 1 + 1 + 1 + 1, o5) :: (L + 1 + 1 + 1 + 1, o4) :: (L + 1 + 1 + 1, o3) :: (L + 1 + 1, o2) :: (L + 1, o1) :: (tups lw ++ (own1 ++ own2))) tz _ fs _ D4 ul 0 ?q1 ?q2 ?q3 ?q4 ?q5 ?q6 ?q7) ?k1 ?k2 ?k3 ?k4 ?k5 ?kK ?kd ?ku ?_; k_extra "cl_use"))
    case q1 => k_extra "li"
    case q2 => k_extra "li"
    case q3 => k_extra "li"
    case q4 => exact hfltr
    case q5 => exact hr3
    case q6 => rw [hfl]; exact hul
    case q7 => exact ho1
    intro r nx5 h5 tk5 F5 N5 hx9
    first | (k_extra "xq2"; clear hx9; intro hx9; (first | (k_extra "xq2"; clear hx9; intro t5 eq9; subst eq9) | obtain ⟨t5, rfl⟩ := hx9); intro eq9; subst eq9) | obtain ⟨⟨t5, rfl⟩, rfl⟩ := hx9
    rw [ho2, Int.toNat_of_nonneg hhn]
    try dsimp only
    k_extra "kd"
    have hx9 := hTb.1
    first | (k_extra "xe6"; clear hx9; intro y1 y2 y3 y4 eo1 _) | obtain ⟨y1, y2, y3, y4, eo1, _⟩ := hx9
    have hx9 := hTb.2.1
    first | (k_extra "xe6"; clear hx9; intro z1 z2 z3 z4 eo2 _) | obtain ⟨z1, z2, z3, z4, eo2, _⟩ := hx9
    have hm1 : ((121, tabObj #[rawInt 70, rawInt 4, .ref y1]) : Addr × Obj) ∈ own1 := by rw [eo1]; exact .tail _ (.head _)
    have hm2 : ((128, tabObj #[rawInt 85, rawInt 4, .ref z1]) : Addr × Obj) ∈ own2 := by rw [eo2]; exact .tail _ (.head _)
    refine ⟨by rw [beq_self_eq_true], fun b o e => F5.keep b o e, Os18, ⟨⟨_, (N5 (128, tabObj #[rawInt 85, rawInt 4, .ref z1]) ?_).1⟩, ⟨_, (N5 (121, tabObj #[rawInt 70, rawInt 4, .ref y1]) ?_).1⟩, ⟨_, (N5 (63, tabObj ps3) ?_).1⟩, ⟨_, (N5 (70, tabObj ps2) ?_).1⟩, trivial⟩, G18⟩
    · simp only [List.mem_cons, List.mem_append, hm2, or_true]
    · simp only [List.mem_cons, List.mem_append, hm1, or_true, true_or]
    · k_mem
    · k_mem
end
section
theorem lb0 {w : World} {loose : List Str} {mean : ExcName → Option Value} {mg mb : Str → Option Value} {g : Heap} (L : Addr) (fa : Addr) (cd : Value) (l : Addr) (vs : List Value) (ns : List Int) (C : LawCtx w loose mean mg mb g L l vs ns) (c1 : Obj) (c2 : Obj) (c3 : Obj) (c4 : Obj) (c5 : Obj) (c6 : Obj) (c7 : Obj) (d1 : c1.data = .cell none) :
    Blk w g L fa cd (lawStmt 0) [("script", .ref l)] [(L + 1 + 1 + 1 + 1 + 1 + 1 + 1, c7), (L + 1 + 1 + 1 + 1 + 1 + 1, c6), (L + 1 + 1 + 1 + 1 + 1, c5), (L + 1 + 1 + 1 + 1, c4), (L + 1 + 1 + 1, c3), (L + 1 + 1, c2), (L + 1, c1), (128, tabObj #[]), (121, tabObj #[]), (63, tabObj #[]), (70, tabObj #[])]
      (fun R => ∀ (h : Heap) (tot : Nat) (t : Tok) (o1 : Obj), (tot : Int) = (ns.map fun k => k.fmod (10 ^ Int.toNat 6)).sum → o1.data = .cell (some (.int (tot : Int) t)) → Loc g L h [("script", .ref l)] → News g L h [(L + 1 + 1 + 1 + 1 + 1 + 1 + 1, c7), (L + 1 + 1 + 1 + 1 + 1 + 1, c6), (L + 1 + 1 + 1 + 1 + 1, c5), (L + 1 + 1 + 1 + 1, c4), (L + 1 + 1 + 1, c3), (L + 1 + 1, c2), (L + 1, o1), (128, tabObj #[]), (121, tabObj #[]), (63, tabObj #[]), (70, tabObj #[])] → R h) := by
  have X := C.X
  have T := C.T
  have B := C.B
  have k1 := C.k1
  have k2 := C.k2
  have k3 := C.k3
  have k4 := C.k4
  have hI := C.hI
  have lifted := C.lifted
  have hns := C.hns
  have l0 := C.l0
  have kcd : CdH g := ⟨k2, k1⟩
  clear C
  refine blk_mk (show lawStmt 0 = _ from (by conv => lhs; whnf)) ?_
  intro h0 gg dr tk oo Q G ⟨r0, F⟩ N0 hN
  have k5 := G
  have G0 := G
  have Os0 : oo = oo := rfl
  k_extra "ks"
  (with_reducible rename CarriedAll _ _ => hC)
  rw [List.filter_eq_self.mpr (fun _ _ => rfl)] at hC
  have hS := IntsAre.ofCarried (ns := ns.map fun k => k.fmod (10 ^ Int.toNat 6)) (by rw [List.map_map]; exact hC)
  clear hC
  k_extra "ks"
  obtain ⟨tot, htot⟩ : ∃ tot : Nat, (tot : Int) = (ns.map fun k => k.fmod (10 ^ Int.toNat 6)).sum := Int.eq_ofNat_of_zero_le (sum_fmod_nn ns) |>.imp fun _ h => h.symm
  rename_i o1 F' N' d1
  rw [← htot] at d1
  exact hN _ _ _ _ G rfl _ tot _ o1 htot d1 (by k_extra "lo") (News.perm (by assumption) (by k_extra "psub"))
end
section
theorem lb1 {w : World} {loose : List Str} {mean : ExcName → Option Value} {mg mb : Str → Option Value} {g : Heap} (L : Addr) (fa : Addr) (cd : Value) (l : Addr) (vs : List Value) (ns : List Int) (C : LawCtx w loose mean mg mb g L l vs ns) (c2 : Obj) (c3 : Obj) (c4 : Obj) (c5 : Obj) (c6 : Obj) (c7 : Obj) (d2 : c2.data = .cell none) (tot : Nat) (o1 : Obj) (htot : (tot : Int) = (ns.map fun k => k.fmod (10 ^ Int.toNat 6)).sum) :
    Blk w g L fa cd (lawStmt 1) [("script", .ref l)] [(L + 1 + 1 + 1 + 1 + 1 + 1 + 1, c7), (L + 1 + 1 + 1 + 1 + 1 + 1, c6), (L + 1 + 1 + 1 + 1 + 1, c5), (L + 1 + 1 + 1 + 1, c4), (L + 1 + 1 + 1, c3), (L + 1 + 1, c2), (L + 1, o1), (128, tabObj #[]), (121, tabObj #[]), (63, tabObj #[]), (70, tabObj #[])]
      (fun R => ∀ (h : Heap) (a b c : Int) (ta tb tc : Tok) (o2 : Obj), (ns ++ [7, 10, 5]).take 3 = [a, b, c] → o2.data = .cell (some (.int (smod c) tc)) → Loc g L h [("kind", .int (smod b) tb), ("lap", .int (smod a) ta), ("script", .ref l)] → News g L h [(L + 1 + 1 + 1 + 1 + 1 + 1 + 1, c7), (L + 1 + 1 + 1 + 1 + 1 + 1, c6), (L + 1 + 1 + 1 + 1 + 1, c5), (L + 1 + 1 + 1 + 1, c4), (L + 1 + 1 + 1, c3), (L + 1 + 1, o2), (L + 1, o1), (128, tabObj #[]), (121, tabObj #[]), (63, tabObj #[]), (70, tabObj #[])] → R h) := by
  have X := C.X
  have T := C.T
  have B := C.B
  have k1 := C.k1
  have k2 := C.k2
  have k3 := C.k3
  have k4 := C.k4
  have hI := C.hI
  have lifted := C.lifted
  have hns := C.hns
  have l0 := C.l0
  have kcd : CdH g := ⟨k2, k1⟩
  clear C
  refine blk_mk (show lawStmt 1 = _ from (by conv => lhs; whnf)) ?_
  intro h0 gg dr tk oo Q G ⟨r2, F2⟩ N2 hN
  have k5 := G
  have G2 := G
  have Os2 : oo = oo := rfl
  iterate 12 (first | k_extra "ks1" | skip)
  dsimp only
  iterate 27 (first | (k_extra "ks1"; try dsimp only) | skip)
  obtain ⟨a, b, c, e3⟩ : ∃ a b c, (ns ++ [7, 10, 5]).take 3 = [a, b, c] := by
    rcases ns with _ | ⟨a, _ | ⟨b, _ | ⟨c, r⟩⟩⟩
    · exact ⟨7, 10, 5, rfl⟩
    · exact ⟨a, 7, 10, rfl⟩
    · exact ⟨a, b, 7, rfl⟩
    · exact ⟨a, b, c, rfl⟩
  (with_reducible rename IntsAre _ _ => hI8)
  rw [e3] at hI8
  simp only [List.map_cons, List.map_nil] at hI8
  have hx9 := ints3 hI8
  first | (k_extra "xe4"; clear hx9; intro ua ub uc hys) | obtain ⟨ua, ub, uc, hys⟩ := hx9
  subst hys
  iterate 14 (first | (k_extra "ks1"; try dsimp only) | skip)
  rename_i o2 F' N' d2
  exact hN _ _ _ _ G rfl _ a b c _ _ _ o2 e3 d2 (by k_extra "lo") (News.perm (by assumption) (by k_extra "psub"))
end
section
theorem lb2 {w : World} {loose : List Str} {mean : ExcName → Option Value} {mg mb : Str → Option Value} {g : Heap} (L : Addr) (fa : Addr) (cd : Value) (l : Addr) (vs : List Value) (ns : List Int) (C : LawCtx w loose mean mg mb g L l vs ns) (c3 : Obj) (c4 : Obj) (c5 : Obj) (c6 : Obj) (c7 : Obj) (o1 : Obj) (a : Int) (b : Int) (ta : Tok) (tb : Tok) (o2 : Obj) :
    Blk w g L fa cd (lawStmt 2) [("kind", .int (smod b) tb), ("lap", .int (smod a) ta), ("script", .ref l)] [(L + 1 + 1 + 1 + 1 + 1 + 1 + 1, c7), (L + 1 + 1 + 1 + 1 + 1 + 1, c6), (L + 1 + 1 + 1 + 1 + 1, c5), (L + 1 + 1 + 1 + 1, c4), (L + 1 + 1 + 1, c3), (L + 1 + 1, o2), (L + 1, o1), (128, tabObj #[]), (121, tabObj #[]), (63, tabObj #[]), (70, tabObj #[])]
      (fun R => ∀ (h : Heap) (cnt : Nat) (t : Tok), 3 ≤ cnt → cnt ≤ 5 → (cnt : Int) = 3 + (smod b).fmod 3 → Loc g L h [("count", .int (cnt : Int) t), ("kind", .int (smod b) tb), ("lap", .int (smod a) ta), ("script", .ref l)] → News g L h [(L + 1 + 1 + 1 + 1 + 1 + 1 + 1, c7), (L + 1 + 1 + 1 + 1 + 1 + 1, c6), (L + 1 + 1 + 1 + 1 + 1, c5), (L + 1 + 1 + 1 + 1, c4), (L + 1 + 1 + 1, c3), (L + 1 + 1, o2), (L + 1, o1), (128, tabObj #[]), (121, tabObj #[]), (63, tabObj #[]), (70, tabObj #[])] → R h) := by
  have X := C.X
  have T := C.T
  have B := C.B
  have k1 := C.k1
  have k2 := C.k2
  have k3 := C.k3
  have k4 := C.k4
  have hI := C.hI
  have lifted := C.lifted
  have hns := C.hns
  have l0 := C.l0
  have kcd : CdH g := ⟨k2, k1⟩
  clear C
  refine blk_mk (show lawStmt 2 = _ from (by conv => lhs; whnf)) ?_
  intro h0 gg dr tk oo Q G ⟨r3, F3⟩ N3 hN
  have k5 := G
  have G3 := G
  have Os3 : oo = oo := rfl
  k_extra "ks"
  rename_i F' N'
  obtain ⟨cnt, hc1, hc2, hcnt⟩ : ∃ cnt : Nat, 3 ≤ cnt ∧ cnt ≤ 5 ∧ (cnt : Int) = 3 + (smod b).fmod 3 := by
    have h1 : 0 ≤ (smod b).fmod 3 := Int.fmod_nonneg_of_pos _ (by decide)
    have h2 : (smod b).fmod 3 < 3 := Int.fmod_lt_of_pos _ (by decide)
    refine ⟨3 + ((smod b).fmod 3).toNat, by k_extra "li", by k_extra "li", by k_extra "li"⟩
  dsimp only at *
  rw [← hcnt] at F'
  exact hN _ _ _ _ G rfl _ cnt _ hc1 hc2 hcnt (by k_extra "lo") (News.perm (by assumption) (by k_extra "psub"))
end
section
theorem lb3 {w : World} {loose : List Str} {mean : ExcName → Option Value} {mg mb : Str → Option Value} {g : Heap} (L : Addr) (fa : Addr) (cd : Value) (l : Addr) (vs : List Value) (ns : List Int) (C : LawCtx w loose mean mg mb g L l vs ns) (c3 : Obj) (c4 : Obj) (c5 : Obj) (c6 : Obj) (c7 : Obj) (d3 : c3.data = .cell none) (tot : Nat) (o1 : Obj) (a : Int) (b : Int) (ta : Tok) (tb : Tok) (o2 : Obj) (cnt : Nat) (tc2 : Tok) :
    Blk w g L fa cd (lawStmt 3) [("count", .int (cnt : Int) tc2), ("kind", .int (smod b) tb), ("lap", .int (smod a) ta), ("script", .ref l)] [(L + 1 + 1 + 1 + 1 + 1 + 1 + 1, c7), (L + 1 + 1 + 1 + 1 + 1 + 1, c6), (L + 1 + 1 + 1 + 1 + 1, c5), (L + 1 + 1 + 1 + 1, c4), (L + 1 + 1 + 1, c3), (L + 1 + 1, o2), (L + 1, o1), (128, tabObj #[]), (121, tabObj #[]), (63, tabObj #[]), (70, tabObj #[])]
      (fun R => ∀ (h : Heap) (D4 : Addr) (ul : List Value) (o3 : Obj), @LT.lt Nat _ (L + 1 + 1 + 1 + 1 + 1 + 1 + 1) D4 → IntsAre ul ((lapsL cnt).map fun (x : Nat) => (x : Int)) → o3.data = .cell (some (.ref D4)) → Loc g L h [("count", .int (cnt : Int) tc2), ("kind", .int (smod b) tb), ("lap", .int (smod a) ta), ("script", .ref l)] → News g L h [(D4, listOf ul.toArray 0), (L + 1 + 1 + 1 + 1 + 1 + 1 + 1, c7), (L + 1 + 1 + 1 + 1 + 1 + 1, c6), (L + 1 + 1 + 1 + 1 + 1, c5), (L + 1 + 1 + 1 + 1, c4), (L + 1 + 1 + 1, o3), (L + 1 + 1, o2), (L + 1, o1), (128, tabObj #[]), (121, tabObj #[]), (63, tabObj #[]), (70, tabObj #[])] → R h) := by
  have X := C.X
  have T := C.T
  have B := C.B
  have k1 := C.k1
  have k2 := C.k2
  have k3 := C.k3
  have k4 := C.k4
  have hI := C.hI
  have lifted := C.lifted
  have hns := C.hns
  have l0 := C.l0
  have kcd : CdH g := ⟨k2, k1⟩
  clear C
  refine blk_mk (show lawStmt 3 = _ from (by conv => lhs; whnf)) ?_
  intro h0 gg dr tk oo Q G ⟨r4, F4⟩ N4 hN
  have k5 := G
  have G4 := G
  have Os4 : oo = oo := rfl
  k_extra "ks"
  (with_reducible rename IntsAre _ _ => hI8)
  rename_i o3 F' N' d3
  refine hN _ _ _ _ G rfl _ _ _ o3 (by k_extra "li") ?_ d3 (by k_extra "lo") (News.perm (by assumption) (by k_extra "psub"))
  simpa [lapsL, List.map_take] using hI8
end
section
theorem lb4 {w : World} {loose : List Str} {mean : ExcName → Option Value} {mg mb : Str → Option Value} {g : Heap} (L : Addr) (fa : Addr) (cd : Value) (l : Addr) (vs : List Value) (ns : List Int) (C : LawCtx w loose mean mg mb g L l vs ns) (c4 : Obj) (c5 : Obj) (c6 : Obj) (c7 : Obj) (d4 : c4.data = .cell none) (tot : Nat) (o1 : Obj) (a : Int) (b : Int) (c : Int) (ta : Tok) (tb : Tok) (tc : Tok) (o2 : Obj) (e2 : o2.data = .cell (some (.int (smod c) tc))) (cnt : Nat) (tc2 : Tok) (D4 : Addr) (ul : List Value) (o3 : Obj) (hD4 : @LT.lt Nat _ (L + 1 + 1 + 1 + 1 + 1 + 1 + 1) D4) :
    Blk w g L fa cd (lawStmt 4) [("count", .int (cnt : Int) tc2), ("kind", .int (smod b) tb), ("lap", .int (smod a) ta), ("script", .ref l)] [(D4, listOf ul.toArray 0), (L + 1 + 1 + 1 + 1 + 1 + 1 + 1, c7), (L + 1 + 1 + 1 + 1 + 1 + 1, c6), (L + 1 + 1 + 1 + 1 + 1, c5), (L + 1 + 1 + 1 + 1, c4), (L + 1 + 1 + 1, o3), (L + 1 + 1, o2), (L + 1, o1), (128, tabObj #[]), (121, tabObj #[]), (63, tabObj #[]), (70, tabObj #[])]
      (fun R => ∀ (h : Heap) (stp : Nat) (t : Tok) (o4 : Obj), stp ∈ [1, 3, 5, 7, 9, 11, 15, 17] → o4.data = .cell (some (.int (stp : Int) t)) → Loc g L h [("count", .int (cnt : Int) tc2), ("kind", .int (smod b) tb), ("lap", .int (smod a) ta), ("script", .ref l)] → News g L h [(D4, listOf ul.toArray 0), (L + 1 + 1 + 1 + 1 + 1 + 1 + 1, c7), (L + 1 + 1 + 1 + 1 + 1 + 1, c6), (L + 1 + 1 + 1 + 1 + 1, c5), (L + 1 + 1 + 1 + 1, o4), (L + 1 + 1 + 1, o3), (L + 1 + 1, o2), (L + 1, o1), (128, tabObj #[]), (121, tabObj #[]), (63, tabObj #[]), (70, tabObj #[])] → R h) := by
  have X := C.X
  have T := C.T
  have B := C.B
  have k1 := C.k1
  have k2 := C.k2
  have k3 := C.k3
  have k4 := C.k4
  have hI := C.hI
  have lifted := C.lifted
  have hns := C.hns
  have l0 := C.l0
  have kcd : CdH g := ⟨k2, k1⟩
  clear C
  refine blk_mk (show lawStmt 4 = _ from (by conv => lhs; whnf)) ?_
  intro h0 gg dr tk oo Q G ⟨r5, F5⟩ N5 hN
  have k5 := G
  have G5 := G
  have Os5 : oo = oo := rfl
  k_extra "kd"
  all_goals
    rename_i o4 F' N' d4
    refine hN _ _ _ _ G rfl _ _ _ o4 ?_ d4 (by k_extra "lo") (News.perm (by assumption) (by k_extra "psub"))
    decide
end
section
theorem lb5 {w : World} {loose : List Str} {mean : ExcName → Option Value} {mg mb : Str → Option Value} {g : Heap} (L : Addr) (fa : Addr) (cd : Value) (l : Addr) (vs : List Value) (ns : List Int) (C : LawCtx w loose mean mg mb g L l vs ns) (c5 : Obj) (c6 : Obj) (c7 : Obj) (d5 : c5.data = .cell none) (tot : Nat) (t1 : Tok) (o1 : Obj) (e1 : o1.data = .cell (some (.int (tot : Int) t1))) (a : Int) (b : Int) (c : Int) (ta : Tok) (tb : Tok) (tc : Tok) (o2 : Obj) (e2 : o2.data = .cell (some (.int (smod c) tc))) (cnt : Nat) (tc2 : Tok) (hc1 : 3 ≤ cnt) (hc2 : cnt ≤ 5) (hcnt : (cnt : Int) = 3 + (smod b).fmod 3) (D4 : Addr) (ul : List Value) (o3 : Obj) (hD4 : @LT.lt Nat _ (L + 1 + 1 + 1 + 1 + 1 + 1 + 1) D4) (stp : Nat) (ts : Tok) (o4 : Obj) (hstp : stp ∈ [1, 3, 5, 7, 9, 11, 15, 17]) (e4 : o4.data = .cell (some (.int (stp : Int) ts))) :
    Blk w g L fa cd (lawStmt 5) [("count", .int (cnt : Int) tc2), ("kind", .int (smod b) tb), ("lap", .int (smod a) ta), ("script", .ref l)] [(D4, listOf ul.toArray 0), (L + 1 + 1 + 1 + 1 + 1 + 1 + 1, c7), (L + 1 + 1 + 1 + 1 + 1 + 1, c6), (L + 1 + 1 + 1 + 1 + 1, c5), (L + 1 + 1 + 1 + 1, o4), (L + 1 + 1 + 1, o3), (L + 1 + 1, o2), (L + 1, o1), (128, tabObj #[]), (121, tabObj #[]), (63, tabObj #[]), (70, tabObj #[])]
      (fun R => ∀ (h : Heap) (fs : List Nat) (tf : Tok) (o5 : Obj), fs.length = cnt → (∀ c ∈ fs, Ltr c) → (fs.map lo).Nodup → o5.data = .cell (some (.str (tx fs) tf)) → Loc g L h [("count", .int (cnt : Int) tc2), ("kind", .int (smod b) tb), ("lap", .int (smod a) ta), ("script", .ref l)] → News g L h [(D4, listOf ul.toArray 0), (L + 1 + 1 + 1 + 1 + 1 + 1 + 1, c7), (L + 1 + 1 + 1 + 1 + 1 + 1, c6), (L + 1 + 1 + 1 + 1 + 1, o5), (L + 1 + 1 + 1 + 1, o4), (L + 1 + 1 + 1, o3), (L + 1 + 1, o2), (L + 1, o1), (128, tabObj #[]), (121, tabObj #[]), (63, tabObj #[]), (70, tabObj #[])] → R h) := by
  have X := C.X
  have T := C.T
  have B := C.B
  have k1 := C.k1
  have k2 := C.k2
  have k3 := C.k3
  have k4 := C.k4
  have hI := C.hI
  have lifted := C.lifted
  have hns := C.hns
  have l0 := C.l0
  have kcd : CdH g := ⟨k2, k1⟩
  clear C
  refine blk_mk (show lawStmt 5 = _ from (by conv => lhs; whnf)) ?_
  intro h0 gg dr tk oo Q G ⟨r6, F6⟩ N6 hN
  have k5 := G
  have G6 := G
  have Os6 : oo = oo := rfl
  iterate 6 (k_extra "ks1"; try dsimp only)
  refine LCg.ListComp_U (F₀ := by k_asm) (by with_unfolding_all rfl) (by decide) (by rfl) (by decide) (by rfl) ?_
  repeat' ((fail_if_success (show LCg.CompSrc ..)); k_extra "ks1"; try dsimp only)
  refine LCg.CompSrc.range (by rfl) (by k_asm) (by k_asm) (by assumption) (by first | decide | exact small_one (by l_bnd) (by l_bnd) (by l_bnd) (by l_bnd)) (by first | exact rangeSize_nat _ _ | rfl) (by rw [PySem.sizeLine_eq]; k_extra "li") ?_
  intro g'
  refine' kct_range (fun k => tx [firstC tot stp (smod c) k]) (fun k' t' I' oI' C' oC' D' m' ys' h' tk' E' hlo' hhi' hC' hx' F' N' off' ne' => ?_) ?_
  · show KPfMark → _
    intro hMark'
    kcf_last
    repeat' ((fail_if_success (with_reducible show PySem.wpAny _ _ (binaryOp .Mult _ _) _ _ _)); k_extra "ks1"; try dsimp only)
    refine PyProof.Rows.mul_int ?_ (IntMulOk.of_left (by decide))
    repeat' ((fail_if_success (with_reducible show PySem.wpAny _ _ (binaryOp .Mult _ _) _ _ _)); k_extra "ks1"; try dsimp only)
    refine PyProof.Rows.mul_int ?_ (imo_natL (stp_small hstp))
    repeat' ((fail_if_success (with_reducible show PySem.wpAny _ _ (call (.builtin "chr") _) _ _ _)); k_extra "ks1"; try dsimp only)
    refine chr_of_range (firstC_bnd0 _ _ _ _) (firstC_bnd1 _ _ _ _) ?_
    k_unfold
    dsimp only
    exact LCg.CompEnd.intro (by assumption) (by assumption) _ (fun _ hp => hp) off' trivial (kct_el rfl rfl rfl)
  unfold KPfDone
  intro ys hC hlen D h5 tk5 F5 N5 o5'
  dsimp only
  simp only [LCg.Off1, and_true] at o5'
  repeat' ((fail_if_success (with_reducible show PySem.wpAny _ _ (call (.builtin "str.join") _) _ _ _)); k_extra "ks1"; try dsimp only)
  have hS := CarriedAll.strsOf hC
  have en : (rangeKs 0 ((cnt : Int) - 0).toNat).map (fun k => tx [firstC tot stp (smod c) k]) = (firstL tot stp (smod c) cnt).map fun c => tx [c] := by
    simp [rangeKs, firstL]
  rw [en] at hS
  have hil : PySem.Heap.IsList h5 D ys.toArray := ⟨_, (N5 _ (.head _)).1, rfl, _, rfl⟩
  refine join_list (items := ys.toArray) hil (by show StrsAre ys _; exact hS) (join_bnd _ (by simp [firstL]; k_extra "li")) ?_
  intro t9 k9
  rw [join_tx]
  k_extra "kd"
  rename_i o5 F' N' d5
  exact hN _ _ _ _ G rfl _ (firstL tot stp (smod c) cnt) _ o5 (firstL_len _ _ _ _) (firstL_ltr _ _ _ _) (firstL_nodup _ _ hstp hc2) d5 (by k_extra "lo") (News.perm (by assumption) (by k_extra "psub"))
end
section
theorem lb6 {w : World} {loose : List Str} {mean : ExcName → Option Value} {mg mb : Str → Option Value} {g : Heap} (L : Addr) (fa : Addr) (cd : Value) (l : Addr) (vs : List Value) (ns : List Int) (C : LawCtx w loose mean mg mb g L l vs ns) (c6 : Obj) (c7 : Obj) (tot : Nat) (o1 : Obj) (a : Int) (b : Int) (ta : Tok) (tb : Tok) (o2 : Obj) (cnt : Nat) (tc2 : Tok) (hc1 : 3 ≤ cnt) (hc2 : cnt ≤ 5) (hcnt : (cnt : Int) = 3 + (smod b).fmod 3) (D4 : Addr) (ul : List Value) (o3 : Obj) (hul : IntsAre ul ((lapsL cnt).map fun (x : Nat) => (x : Int))) (e3' : o3.data = .cell (some (.ref D4))) (o4 : Obj) (fs : List Nat) (o5 : Obj) (hfl : fs.length = cnt) :
    Blk w g L fa cd (lawStmt 6) [("count", .int (cnt : Int) tc2), ("kind", .int (smod b) tb), ("lap", .int (smod a) ta), ("script", .ref l)] [(D4, listOf ul.toArray 0), (L + 1 + 1 + 1 + 1 + 1 + 1 + 1, c7), (L + 1 + 1 + 1 + 1 + 1 + 1, c6), (L + 1 + 1 + 1 + 1 + 1, o5), (L + 1 + 1 + 1 + 1, o4), (L + 1 + 1 + 1, o3), (L + 1 + 1, o2), (L + 1, o1), (128, tabObj #[]), (121, tabObj #[]), (63, tabObj #[]), (70, tabObj #[])]
      (fun R => ∀ (h : Heap) (hr : Int) (t : Tok), -4000000000 ≤ hr → hr ≤ 4000000000 → Loc g L h [("hour", .int hr t), ("count", .int (cnt : Int) tc2), ("kind", .int (smod b) tb)] → News g L h [(D4, listOf ul.toArray 0), (L + 1 + 1 + 1 + 1 + 1 + 1 + 1, c7), (L + 1 + 1 + 1 + 1 + 1 + 1, c6), (L + 1 + 1 + 1 + 1 + 1, o5), (L + 1 + 1 + 1 + 1, o4), (L + 1 + 1 + 1, o3), (L + 1 + 1, o2), (L + 1, o1), (128, tabObj #[]), (121, tabObj #[]), (63, tabObj #[]), (70, tabObj #[])] → R h) := by
  have X := C.X
  have T := C.T
  have B := C.B
  have k1 := C.k1
  have k2 := C.k2
  have k3 := C.k3
  have k4 := C.k4
  have hI := C.hI
  have lifted := C.lifted
  have hns := C.hns
  have l0 := C.l0
  have kcd : CdH g := ⟨k2, k1⟩
  clear C
  refine blk_mk (show lawStmt 6 = _ from (by conv => lhs; whnf)) ?_
  intro h0 gg dr tk oo Q G ⟨r7, F7⟩ N7 hN
  have k5 := G
  have G7 := G
  have Os7 : oo = oo := rfl
  have h1 : 0 ≤ ((smod b).fdiv 3).fmod cnt := Int.fmod_nonneg_of_pos _ (by k_extra "li")
  have h2 : ((smod b).fdiv 3).fmod cnt < cnt := Int.fmod_lt_of_pos _ (by k_extra "li")
  obtain ⟨lvl, hlvl⟩ : ∃ lvl : Nat, (lvl : Int) = ((smod b).fdiv 3).fmod cnt := Int.eq_ofNat_of_zero_le h1 |>.imp fun _ h => h.symm
  have hcn : (cnt : Int) ≠ 0 := by k_extra "li"
  rw [← hlvl] at h2
  iterate 12 (k_extra "ks1"; try dsimp only)
  rw [← hlvl]
  have hll : ((lapsL cnt).map fun (x : Nat) => (x : Int)).length = cnt + 1 := by
    simp [lapsL]; k_extra "li"
  k_extra "kd"
  have hx9 := lapsL_at (c := cnt) (k := lvl) hc2 (by k_extra "li")
  first | (k_extra "xe3"; clear hx9; intro m1 m2 m3) | obtain ⟨m1, m2, m3⟩ := hx9
  rw [Int.toNat_natCast, m1]
  refine PyProof.Rows.mul_int ?_ (imo_nat (by k_extra "li"))
  k_extra "kd"
  exact hN _ _ _ _ G rfl _ _ _ ((hour_bnd _ _ m3).1) ((hour_bnd _ _ m3).2) (by k_extra "lo") (by assumption)
end
section
theorem lb7 {w : World} {loose : List Str} {mean : ExcName → Option Value} {mg mb : Str → Option Value} {g : Heap} (L : Addr) (fa : Addr) (cd : Value) (l : Addr) (vs : List Value) (ns : List Int) (C : LawCtx w loose mean mg mb g L l vs ns) (c6 : Obj) (c7 : Obj) (tot : Nat) (o1 : Obj) (b : Int) (tb : Tok) (o2 : Obj) (cnt : Nat) (tc2 : Tok) (D4 : Addr) (ul : List Value) (o3 : Obj) (o4 : Obj) (fs : List Nat) (o5 : Obj) (hr : Int) (th : Tok) :
    Blk w g L fa cd (lawStmt 7) [("hour", .int hr th), ("count", .int (cnt : Int) tc2), ("kind", .int (smod b) tb)] [(D4, listOf ul.toArray 0), (L + 1 + 1 + 1 + 1 + 1 + 1 + 1, c7), (L + 1 + 1 + 1 + 1 + 1 + 1, c6), (L + 1 + 1 + 1 + 1 + 1, o5), (L + 1 + 1 + 1 + 1, o4), (L + 1 + 1 + 1, o3), (L + 1 + 1, o2), (L + 1, o1), (128, tabObj #[]), (121, tabObj #[]), (63, tabObj #[]), (70, tabObj #[])]
      (fun R => ∀ (h : Heap) (Dh : Addr) (uh : List Value) (way : Int), @LT.lt Nat _ (L + 1 + 1 + 1 + 1 + 1 + 1 + 1) Dh → IntsAre uh (hoursL hr way) → Loc g L h [("hours", .ref Dh), ("count", .int (cnt : Int) tc2)] → News g L h [(Dh, listOf uh.toArray 0), (D4, listOf ul.toArray 0), (L + 1 + 1 + 1 + 1 + 1 + 1 + 1, c7), (L + 1 + 1 + 1 + 1 + 1 + 1, c6), (L + 1 + 1 + 1 + 1 + 1, o5), (L + 1 + 1 + 1 + 1, o4), (L + 1 + 1 + 1, o3), (L + 1 + 1, o2), (L + 1, o1), (128, tabObj #[]), (121, tabObj #[]), (63, tabObj #[]), (70, tabObj #[])] → R h) := by
  have X := C.X
  have T := C.T
  have B := C.B
  have k1 := C.k1
  have k2 := C.k2
  have k3 := C.k3
  have k4 := C.k4
  have hI := C.hI
  have lifted := C.lifted
  have hns := C.hns
  have l0 := C.l0
  have kcd : CdH g := ⟨k2, k1⟩
  clear C
  refine blk_mk (show lawStmt 7 = _ from (by conv => lhs; whnf)) ?_
  intro h0 gg dr tk oo Q G ⟨r8, F8⟩ N8 hN
  have k5 := G
  have G8 := G
  have Os8 : oo = oo := rfl
  have hw : ((smod b).fdiv 15).fmod 2 = 0 ∨ ((smod b).fdiv 15).fmod 2 = 1 := by
    have h1 : 0 ≤ ((smod b).fdiv 15).fmod 2 := Int.fmod_nonneg_of_pos _ (by decide)
    have h2 : ((smod b).fdiv 15).fmod 2 < 2 := Int.fmod_lt_of_pos _ (by decide)
    k_extra "li"
  repeat' ((fail_if_success (with_reducible show PySem.wpAny _ _ (subscriptTail _ _ (.ref _) (.ref _)) _ _ _)); k_extra "ks1"; try dsimp only)
  rcases hw with hw | hw
  all_goals
    rw [hw]
    refine kba_turn (value' := .Name "x" ⟨0, 0, 0, 0⟩) (fun _ => rfl) ?_
    refine' kmk_slice3_lit (s := ⟨_, _, _, _, _⟩) ?w9F ?w9N ?w9l ?w9p ?w9q ?w9k ?w9o ?w9e ?_ ?w9s ?w9t ?w9z
    (case w9F => k_asm)
    (case w9N => k_asm)
    (case w9l => kmk_list)
    (case w9p => kmk_part)
    (case w9q => kmk_part)
    (case w9k => kmk_part)
    (case w9o => decide)
    (case w9e => rfl)
    (case w9s => with_unfolding_all rfl)
    (case w9t => kmk_pure)
    (case w9z => kmk_size)
    intro D' h' F' N' l1
    dsimp only
    k_extra "kd"
    first
    | (refine hN _ _ _ _ G rfl _ D' _ 0 (l1 (_, c7) (.tail _ (.tail _ (.head _)))) ?_ (by k_extra "lo") (News.perm (by assumption) (by k_extra "psub")); with_unfolding_all exact .cons _ _ (.cons _ _ (.cons _ _ (.cons _ _ .nil))))
    | (refine hN _ _ _ _ G rfl _ D' _ 1 (l1 (_, c7) (.tail _ (.tail _ (.head _)))) ?_ (by k_extra "lo") (News.perm (by assumption) (by k_extra "psub")); with_unfolding_all exact .cons _ _ (.cons _ _ (.cons _ _ (.cons _ _ .nil))))
end
section
theorem lb8 {w : World} {loose : List Str} {mean : ExcName → Option Value} {mg mb : Str → Option Value} {g : Heap} (L : Addr) (fa : Addr) (cd : Value) (l : Addr) (vs : List Value) (ns : List Int) (C : LawCtx w loose mean mg mb g L l vs ns) (c6 : Obj) (c7 : Obj) (tot : Nat) (o1 : Obj) (b : Int) (o2 : Obj) (cnt : Nat) (tc2 : Tok) (hc1 : 3 ≤ cnt) (hc2 : cnt ≤ 5) (D4 : Addr) (ul : List Value) (o3 : Obj) (hD4 : @LT.lt Nat _ (L + 1 + 1 + 1 + 1 + 1 + 1 + 1) D4) (hul : IntsAre ul ((lapsL cnt).map fun (x : Nat) => (x : Int))) (e3' : o3.data = .cell (some (.ref D4))) (o4 : Obj) (fs : List Nat) (tf : Tok) (o5 : Obj) (hfl : fs.length = cnt) (hfltr : (∀ c ∈ fs, Ltr c)) (e5 : o5.data = .cell (some (.str (tx fs) tf))) (hr : Int) (hhr1 : -4000000000 ≤ hr) (hhr2 : hr ≤ 4000000000) (Dh : Addr) (uh : List Value) (way : Int) (hDh : @LT.lt Nat _ (L + 1 + 1 + 1 + 1 + 1 + 1 + 1) Dh) (huh : IntsAre uh (hoursL hr way)) :
    Blk w g L fa cd (lawStmt 8) [("hours", .ref Dh), ("count", .int (cnt : Int) tc2)] [(Dh, listOf uh.toArray 0), (D4, listOf ul.toArray 0), (L + 1 + 1 + 1 + 1 + 1 + 1 + 1, c7), (L + 1 + 1 + 1 + 1 + 1 + 1, c6), (L + 1 + 1 + 1 + 1 + 1, o5), (L + 1 + 1 + 1 + 1, o4), (L + 1 + 1 + 1, o3), (L + 1 + 1, o2), (L + 1, o1), (128, tabObj #[]), (121, tabObj #[]), (63, tabObj #[]), (70, tabObj #[])]
      (fun R => ∀ (h : Heap) (Dt : Addr) (ut : List Value) (own1 own2 : CbLed), StrsAre ut (((hoursL hr way).map (toldOf fs)).map tx) → TbsM own1 own2 [(D4, listOf ul.toArray 0), (Dh, listOf uh.toArray 0), (L + 1 + 1 + 1 + 1 + 1 + 1 + 1, c7), (L + 1 + 1 + 1 + 1 + 1 + 1, c6), (L + 1 + 1 + 1 + 1 + 1, o5), (L + 1 + 1 + 1 + 1, o4), (L + 1 + 1 + 1, o3), (L + 1 + 1, o2), (L + 1, o1), (63, tabObj #[]), (70, tabObj #[])] → @Ne Nat (L + 1 + 1 + 1 + 1 + 1 + 1 + 1) Dt → @Ne Nat (L + 1 + 1 + 1 + 1 + 1 + 1) Dt → Loc g L h [("told", .ref Dt), ("hours", .ref Dh), ("count", .int (cnt : Int) tc2)] → News g L h ((Dt, listOf ut.toArray 4) :: (D4, listOf ul.toArray 0) :: (Dh, listOf uh.toArray 0) :: (L + 1 + 1 + 1 + 1 + 1 + 1 + 1, c7) :: (L + 1 + 1 + 1 + 1 + 1 + 1, c6) :: (L + 1 + 1 + 1 + 1 + 1, o5) :: (L + 1 + 1 + 1 + 1, o4) :: (L + 1 + 1 + 1, o3) :: (L + 1 + 1, o2) :: (L + 1, o1) :: (63, tabObj #[]) :: (70, tabObj #[]) :: (own1 ++ own2)) → R h) := by
  have X := C.X
  have T := C.T
  have B := C.B
  have k1 := C.k1
  have k2 := C.k2
  have k3 := C.k3
  have k4 := C.k4
  have hI := C.hI
  have lifted := C.lifted
  have hns := C.hns
  have l0 := C.l0
  have kcd : CdH g := ⟨k2, k1⟩
  clear C
  refine blk_mk (show lawStmt 8 = _ from (by conv => lhs; whnf)) ?_
  intro h0 gg dr tk oo Q G ⟨r9, F9⟩ N9 hN
  have k5 := G
  have G9 := G
  have Os9 : oo = oo := rfl
  refine LCg.Assign_ListComp_U (F₀ := by k_asm) (by rfl) (by with_unfolding_all rfl) (by with_unfolding_all rfl) (by decide) (by rfl) (by decide) (by rfl) (by rfl) (by rfl) ?_
  repeat' ((fail_if_success (show LCg.CompSrc ..)); k_extra "ks1"; try dsimp only)
  have N9' := News.perm N9 (news' := (D4, listOf ul.toArray 0) :: (Dh, listOf uh.toArray 0) :: (L + 1 + 1 + 1 + 1 + 1 + 1 + 1, c7) :: (L + 1 + 1 + 1 + 1 + 1 + 1, c6) :: (L + 1 + 1 + 1 + 1 + 1, o5) :: (L + 1 + 1 + 1 + 1, o4) :: (L + 1 + 1 + 1, o3) :: (L + 1 + 1, o2) :: (L + 1, o1) :: (63, tabObj #[]) :: (70, tabObj #[]) :: [(121, tabObj #[]), (128, tabObj #[])]) (by k_extra "psub")
  have hlh : uh.length = 4 := by
    rw [huh.length]; unfold hoursL; split <;> rfl
  refine LCg.CompSrc.ledger (by rfl) (by k_asm) N9' (.tail _ (.head _)) (by rw [List.size_toArray, hlh]; exact Nat.le_of_ble_eq_true rfl) ?_
  intro g'
  refine compL (fun i ys nx => ∃ own1 own2, nx = (D4, listOf ul.toArray 0) :: (Dh, listOf uh.toArray 0) :: (L + 1 + 1 + 1 + 1 + 1 + 1 + 1, c7) :: (L + 1 + 1 + 1 + 1 + 1 + 1, c6) :: (L + 1 + 1 + 1 + 1 + 1, o5) :: (L + 1 + 1 + 1 + 1, o4) :: (L + 1 + 1 + 1, o3) :: (L + 1 + 1, o2) :: (L + 1, o1) :: (63, tabObj #[]) :: (70, tabObj #[]) :: (own1 ++ own2) ∧ Tbs own1 own2 ((D4, listOf ul.toArray 0) :: [(Dh, listOf uh.toArray 0), (L + 1 + 1 + 1 + 1 + 1 + 1 + 1, c7), (L + 1 + 1 + 1 + 1 + 1 + 1, c6), (L + 1 + 1 + 1 + 1 + 1, o5), (L + 1 + 1 + 1 + 1, o4), (L + 1 + 1 + 1, o3), (L + 1 + 1, o2), (L + 1, o1), (63, tabObj #[]), (70, tabObj #[])]) ∧ (0 < i → TbsM own1 own2 ((D4, listOf ul.toArray 0) :: [(Dh, listOf uh.toArray 0), (L + 1 + 1 + 1 + 1 + 1 + 1 + 1, c7), (L + 1 + 1 + 1 + 1 + 1 + 1, c6), (L + 1 + 1 + 1 + 1 + 1, o5), (L + 1 + 1 + 1 + 1, o4), (L + 1 + 1 + 1, o3), (L + 1 + 1, o2), (L + 1, o1), (63, tabObj #[]), (70, tabObj #[])])) ∧ StrsAre ys (((hoursL hr way).take i).map fun x => tx (toldOf fs x))) ?_ ?_ ?_
  · refine ⟨[(121, tabObj #[])], [(128, tabObj #[])], rfl, ⟨.inl rfl, .inl rfl, ?_, ?_⟩, fun h => absurd h (by k_extra "li"), .nil⟩
    · intro p hp q hq
      rw [List.mem_singleton.mp hp]
      simp only [List.singleton_append, List.mem_cons, List.not_mem_nil, or_false] at hq
      first | (revert l0; intro hx9; k_extra "xe4"; clear hx9; intro l1 l2 l3 l4) | obtain ⟨l1, l2, l3, l4⟩ := l0
      rcases hq with rfl | rfl | rfl | rfl | rfl | rfl | rfl | rfl | rfl | rfl | rfl | rfl | rfl <;> first | exact Nat.ne_of_gt (by k_extra "li") | exact Nat.ne_of_lt (by k_extra "li") | exact (by decide)
    · intro p hp q hq
      rw [List.mem_singleton.mp hp]
      simp only [List.mem_cons, List.not_mem_nil, or_false] at hq
      first | (revert l0; intro hx9; k_extra "xe4"; clear hx9; intro l1 l2 l3 l4) | obtain ⟨l1, l2, l3, l4⟩ := l0
      rcases hq with rfl | rfl | rfl | rfl | rfl | rfl | rfl | rfl | rfl | rfl | rfl | rfl <;> first | exact Nat.ne_of_gt (by k_extra "li") | exact Nat.ne_of_lt (by k_extra "li") | exact (by decide)
  · intro i v I oI C oC D m₂ ys nx h tk E' hi hv hJ hC hx F N off ne
    first | (revert hJ; intro hx9; k_extra "xe6"; clear hx9; intro own1 own2 eq9; subst eq9; intro hT hM hS) | obtain ⟨own1, own2, rfl, hT, hM, hS⟩ := hJ
    rw [List.size_toArray, hlh] at hi
    have hv : uh[i]? = some v := by simpa using hv
    have hx9 := ints_at huh hv
    first | (k_extra "xe2"; clear hx9; intro t ht) | obtain ⟨t, ht⟩ := hx9
    subst ht
    with_reducible show PySem.wpAny _ _ _ _ _ _
    k_fold
    dsimp only
    repeat' ((fail_if_success (with_reducible show PySem.wpAny _ _ (call (.ref 168) _) _ _ _)); k_extra "ks1"; try dsimp only)
    replace N := News.perm N (news' := own1 ++ (own2 ++ ((D4, listOf ul.toArray 0) :: (Dh, listOf uh.toArray 0) :: (L + 1 + 1 + 1 + 1 + 1 + 1 + 1, c7) :: (L + 1 + 1 + 1 + 1 + 1 + 1, c6) :: (L + 1 + 1 + 1 + 1 + 1, o5) :: (L + 1 + 1 + 1 + 1, o4) :: (L + 1 + 1 + 1, o3) :: (L + 1 + 1, o2) :: (L + 1, o1) :: (63, tabObj #[]) :: (70, tabObj #[]) :: [(I, oI), (C, oC), (D, LCg.lst ys)]))) (by k_extra "psub")
    have hoff := off.mem
    have hT2 : Tbs own1 own2 ((D4, listOf ul.toArray 0) :: (Dh, listOf uh.toArray 0) :: (L + 1 + 1 + 1 + 1 + 1 + 1 + 1, c7) :: (L + 1 + 1 + 1 + 1 + 1 + 1, c6) :: (L + 1 + 1 + 1 + 1 + 1, o5) :: (L + 1 + 1 + 1 + 1, o4) :: (L + 1 + 1 + 1, o3) :: (L + 1 + 1, o2) :: (L + 1, o1) :: (63, tabObj #[]) :: (70, tabObj #[]) :: [(I, oI), (C, oC), (D, LCg.lst ys)]) := Tbs.more (news := (D4, listOf ul.toArray 0) :: [(Dh, listOf uh.toArray 0), (L + 1 + 1 + 1 + 1 + 1 + 1 + 1, c7), (L + 1 + 1 + 1 + 1 + 1 + 1, c6), (L + 1 + 1 + 1 + 1 + 1, o5), (L + 1 + 1 + 1 + 1, o4), (L + 1 + 1 + 1, o3), (L + 1 + 1, o2), (L + 1, o1), (63, tabObj #[]), (70, tabObj #[])]) (add := [(I, oI), (C, oC), (D, LCg.lst ys)]) hT (by
      intro p hp q hq
      have hm := hoff p (by simp only [List.mem_cons]; exact .inr (.inr (.inr (.inr (.inr (.inr (.inr (.inr (.inr (.inr (.inr hp)))))))))))
      simp only [List.mem_cons, List.not_mem_nil, or_false] at hq
      rcases hq with rfl | rfl | rfl
      · exact Ne.symm hm.1
      · exact Ne.symm hm.2.1
      · exact Ne.symm hm.2.2)
    (k_dflt (refine' ClB.use (told_c _ _ _ _ _ own1 own2 ((Dh, listOf uh.toArray 0) :: (L + 1 + 1 + 1 + 1 + 1 + 1 + 1, c7) :: (L + 1 + 1 + 1 + 1 + 1 + 1, c6) :: (L + 1 + 1 + 1 + 1 + 1, o5) :: (L + 1 + 1 + 1 + 1, o4) :: (L + 1 + 1 + 1, o3) :: (L + 1 + 1, o2) :: (L + 1, o1) :: (63, tabObj #[]) :: (70, tabObj #[]) :: [(I, oI), (C, oC), (D, LCg.lst ys)]) _ _ fs _ D4 ul 0 ?q1 ?q2 ?q3 ?q4 ?q5 ?q6 ?q7) ?k0 ?k1 ?k2 ?k3 ?k4 ?k5 ?kK ?kd ?ku ?_; k_extra "clb_use"))
    case q1 => k_extra "li"
    case q2 => k_extra "li"
    case q3 => exact hfltr
    case q4 => rcases hoursL_mem hr way i with h | h | h | h | h <;> k_extra "li"
    case q5 => rcases hoursL_mem hr way i with h | h | h | h | h <;> k_extra "li"
    case q6 => rw [hfl]; exact hul
    case q7 => exact hT2
    intro r nx h2 tk2 F2 N2 hR
    first | (revert hR; intro hx9; k_extra "xe6"; clear hx9; intro t2 own1' own2' e1 e2 hTR) | obtain ⟨t2, own1', own2', e1, e2, hTR⟩ := hR
    subst e1
    subst e2
    k_unfold
    dsimp only
    have hM2 : TbsM own1' own2' ((D4, listOf ul.toArray 0) :: [(Dh, listOf uh.toArray 0), (L + 1 + 1 + 1 + 1 + 1 + 1 + 1, c7), (L + 1 + 1 + 1 + 1 + 1 + 1, c6), (L + 1 + 1 + 1 + 1 + 1, o5), (L + 1 + 1 + 1 + 1, o4), (L + 1 + 1 + 1, o3), (L + 1 + 1, o2), (L + 1, o1), (63, tabObj #[]), (70, tabObj #[])]) := TbsM.less (add := [(I, oI), (C, oC), (D, LCg.lst ys)]) hTR.1
    have hof2 := hTR.1.offs
    refine LCg.CompEnd.intro (by assumption) N2 ((D4, listOf ul.toArray 0) :: (Dh, listOf uh.toArray 0) :: (L + 1 + 1 + 1 + 1 + 1 + 1 + 1, c7) :: (L + 1 + 1 + 1 + 1 + 1 + 1, c6) :: (L + 1 + 1 + 1 + 1 + 1, o5) :: (L + 1 + 1 + 1 + 1, o4) :: (L + 1 + 1 + 1, o3) :: (L + 1 + 1, o2) :: (L + 1, o1) :: (63, tabObj #[]) :: (70, tabObj #[]) :: (own1' ++ own2')) (by k_extra "psub") ?_ (Or.inr ⟨_, .tail _ (.head _), rfl, _, rfl⟩) ⟨own1', own2', rfl, hM2.tbs, fun _ => hM2, ?_⟩
    · refine LCg.Off3.of fun p hp => ?_
      have hp2 : p ∈ ((D4, listOf ul.toArray 0) :: [(Dh, listOf uh.toArray 0), (L + 1 + 1 + 1 + 1 + 1 + 1 + 1, c7), (L + 1 + 1 + 1 + 1 + 1 + 1, c6), (L + 1 + 1 + 1 + 1 + 1, o5), (L + 1 + 1 + 1 + 1, o4), (L + 1 + 1 + 1, o3), (L + 1 + 1, o2), (L + 1, o1), (63, tabObj #[]), (70, tabObj #[])]) ++ (own1' ++ own2') := hp
      rcases List.mem_append.mp hp2 with hp2 | hp2
      · exact hoff p (List.mem_append_left (as := (D4, listOf ul.toArray 0) :: [(Dh, listOf uh.toArray 0), (L + 1 + 1 + 1 + 1 + 1 + 1 + 1, c7), (L + 1 + 1 + 1 + 1 + 1 + 1, c6), (L + 1 + 1 + 1 + 1 + 1, o5), (L + 1 + 1 + 1 + 1, o4), (L + 1 + 1 + 1, o3), (L + 1 + 1, o2), (L + 1, o1), (63, tabObj #[]), (70, tabObj #[])]) (own1 ++ own2) hp2)
      · exact ⟨Ne.symm (hof2 p hp2 (I, oI) (by k_mem)), Ne.symm (hof2 p hp2 (C, oC) (by k_mem)), Ne.symm (hof2 p hp2 (D, LCg.lst ys) (by k_mem))⟩
    · have hS2 := kct_snoc (y := tx (toldOf fs ((hoursL hr way).getD i 0))) (t := t2) hS
      have hl4 : (hoursL hr way).length = 4 := by unfold hoursL; split <;> rfl
      have e5 : (hoursL hr way).take (i + 1) = (hoursL hr way).take i ++ [(hoursL hr way).getD i 0] := by
        rw [List.take_add_one, List.getElem?_eq_getElem (by k_extra "li")]
        simp [List.getD, List.getElem?_eq_getElem (show i < (hoursL hr way).length by k_extra "li")]
      rw [e5, List.map_append]
      exact hS2
  · intro ys nx hx9
    first | (k_extra "xq6"; clear hx9; intro own1 own2 eq9; subst eq9; intro hT hM hS) | obtain ⟨own1, own2, rfl, hT, hM, hS⟩ := hx9
    rw [List.size_toArray, hlh] at hM hS
    have hl4 : (hoursL hr way).length = 4 := by unfold hoursL; split <;> rfl
    rw [List.take_of_length_le (by k_extra "li")] at hS
    intro D h tk F N o1
    dsimp only at *
    have hly : ys.length = 4 := by rw [hS.length, List.length_map]; exact hl4
    have N' := N
    rw [show (LCg.lst ys) = listOf ys.toArray 4 from by rw [← hly]] at N'
    exact hN _ _ _ _ G rfl _ D ys own1 own2 (by rw [List.map_map]; exact hS) (hM (by k_extra "li")) (o1.2.2.1) (o1.2.2.2.1) (by k_extra "lo") N'
end
section
theorem lb9 {w : World} {loose : List Str} {mean : ExcName → Option Value} {mg mb : Str → Option Value} {g : Heap} (L : Addr) (fa : Addr) (cd : Value) (l : Addr) (vs : List Value) (ns : List Int) (C : LawCtx w loose mean mg mb g L l vs ns) (c6 : Obj) (c7 : Obj) (d6 : c6.data = .cell none) (tot : Nat) (t1 : Tok) (o1 : Obj) (e1 : o1.data = .cell (some (.int (tot : Int) t1))) (b : Int) (o2 : Obj) (cnt : Nat) (tc2 : Tok) (D4 : Addr) (ul : List Value) (o3 : Obj) (hD4 : @LT.lt Nat _ (L + 1 + 1 + 1 + 1 + 1 + 1 + 1) D4) (o4 : Obj) (fs : List Nat) (o5 : Obj) (hr : Int) (Dh : Addr) (uh : List Value) (hDh : @LT.lt Nat _ (L + 1 + 1 + 1 + 1 + 1 + 1 + 1) Dh) (Dt : Addr) (ut : List Value) (own1 : CbLed) (own2 : CbLed) (hTb : TbsM own1 own2 [(D4, listOf ul.toArray 0), (Dh, listOf uh.toArray 0), (L + 1 + 1 + 1 + 1 + 1 + 1 + 1, c7), (L + 1 + 1 + 1 + 1 + 1 + 1, c6), (L + 1 + 1 + 1 + 1 + 1, o5), (L + 1 + 1 + 1 + 1, o4), (L + 1 + 1 + 1, o3), (L + 1 + 1, o2), (L + 1, o1), (63, tabObj #[]), (70, tabObj #[])]) (hDt6 : @Ne Nat (L + 1 + 1 + 1 + 1 + 1 + 1) Dt) :
    Blk w g L fa cd (lawStmt 9) [("told", .ref Dt), ("hours", .ref Dh), ("count", .int (cnt : Int) tc2)] ((Dt, listOf ut.toArray 4) :: (D4, listOf ul.toArray 0) :: (Dh, listOf uh.toArray 0) :: (L + 1 + 1 + 1 + 1 + 1 + 1 + 1, c7) :: (L + 1 + 1 + 1 + 1 + 1 + 1, c6) :: (L + 1 + 1 + 1 + 1 + 1, o5) :: (L + 1 + 1 + 1 + 1, o4) :: (L + 1 + 1 + 1, o3) :: (L + 1 + 1, o2) :: (L + 1, o1) :: (63, tabObj #[]) :: (70, tabObj #[]) :: (own1 ++ own2))
      (fun R => ∀ (h : Heap) (x dx : Addr) (n nd : Nat) (t1 t2 : Tok) (o6 : Obj), o6.data = .cell (some (.ref x)) → Loc g L h [("told", .ref Dt), ("hours", .ref Dh), ("count", .int (cnt : Int) tc2)] → News g L h ((63, tabObj #[]) :: (70, tabObj #[]) :: (x, lstObj 101 dx ([] : List Value).toArray n) :: (dx, dictOf (isD w.params (tot % 4) t1 t2) nd) :: (Dt, listOf ut.toArray 4) :: (D4, listOf ul.toArray 0) :: (Dh, listOf uh.toArray 0) :: (L + 1 + 1 + 1 + 1 + 1 + 1 + 1, c7) :: (L + 1 + 1 + 1 + 1 + 1 + 1, o6) :: (L + 1 + 1 + 1 + 1 + 1, o5) :: (L + 1 + 1 + 1 + 1, o4) :: (L + 1 + 1 + 1, o3) :: (L + 1 + 1, o2) :: (L + 1, o1) :: (own1 ++ own2)) → R h) := by
  have X := C.X
  have T := C.T
  have B := C.B
  have k1 := C.k1
  have k2 := C.k2
  have k3 := C.k3
  have k4 := C.k4
  have hI := C.hI
  have lifted := C.lifted
  have hns := C.hns
  have l0 := C.l0
  have kcd : CdH g := ⟨k2, k1⟩
  clear C
  refine blk_mk (show lawStmt 9 = _ from (by conv => lhs; whnf)) ?_
  intro h0 gg dr tk oo Q G ⟨r10, F10⟩ N10 hN
  have k5 := G
  have G10 := G
  have Os10 : oo = oo := rfl
  have hof := hTb.offs
  have ho61 : ∀ p ∈ own1, p.1 ≠ L + 1 + 1 + 1 + 1 + 1 + 1 := fun p hp => Ne.symm (hof p (List.mem_append_left _ hp) (L + 1 + 1 + 1 + 1 + 1 + 1, c6) (by k_mem))
  have ho62 : ∀ p ∈ own2, p.1 ≠ L + 1 + 1 + 1 + 1 + 1 + 1 := fun p hp => Ne.symm (hof p (List.mem_append_right _ hp) (L + 1 + 1 + 1 + 1 + 1 + 1, c6) (by k_mem))
  repeat' ((fail_if_success (with_reducible show PySem.wpAny _ _ (call (.ref 101) _) _ _ _)); k_extra "ks1"; try dsimp only)
  have e4 : (tot : Int).fmod 4 = ((tot % 4 : Nat) : Int) := by
    rw [Int.fmod_eq_emod_of_nonneg _ (by decide)]; k_extra "li"
  rw [e4]
  (k_dflt (refine' Cl.use (new_c _ _ _ _ _ ((Dt, listOf ut.toArray 4) :: (D4, listOf ul.toArray 0) :: (Dh, listOf uh.toArray 0) :: (L + 1 + 1 + 1 + 1 + 1 + 1 + 1, c7) :: (L + 1 + 1 + 1 + 1 + 1 + 1, c6) :: (L + 1 + 1 + 1 + 1 + 1, o5) :: (L + 1 + 1 + 1 + 1, o4) :: (L + 1 + 1 + 1, o3) :: (L + 1 + 1, o2) :: (L + 1, o1) :: (63, tabObj #[]) :: (70, tabObj #[]) :: (own1 ++ own2)) _ _) ?k1 ?k2 ?k3 ?k4 ?k5 ?kK ?kd ?ku ?_; k_extra "cl_use"))
  intro r nx h2 tk2 F2 N2 hR
  first | (revert hR; intro hx9; k_extra "xe7"; clear hx9; intro x dx n t1 nd e1 e2) | obtain ⟨x, dx, n, t1, nd, e1, e2⟩ := hR
  subst e1
  subst e2
  have hx6 : @Ne Nat x (L + 1 + 1 + 1 + 1 + 1 + 1) := ne_cell N2 (.head _) (b := L + 1 + 1 + 1 + 1 + 1 + 1) (oc := c6) (by k_mem) d6 (fun v e => by cases e)
  have hdx6 : @Ne Nat dx (L + 1 + 1 + 1 + 1 + 1 + 1) := ne_cell N2 (.tail _ (.head _)) (b := L + 1 + 1 + 1 + 1 + 1 + 1) (oc := c6) (by k_mem) d6 (fun v e => by cases e)
  first | (revert l0; intro hx9; k_extra "xe4"; clear hx9; intro l1 l2 l3 l4) | obtain ⟨l1, l2, l3, l4⟩ := l0
  k_extra "kd"
  rename_i o6 F' N' d9
  exact hN _ _ _ _ G rfl _ _ _ _ _ _ _ o6 d9 (by k_extra "lo") (News.perm (by assumption) (by k_extra "psub"))
end
section
theorem lb10 {w : World} {loose : List Str} {mean : ExcName → Option Value} {mg mb : Str → Option Value} {g : Heap} (L : Addr) (fa : Addr) (cd : Value) (l : Addr) (vs : List Value) (ns : List Int) (C : LawCtx w loose mean mg mb g L l vs ns) (c6 : Obj) (c7 : Obj) (d7 : c7.data = .cell none) (tot : Nat) (t1 : Tok) (o1 : Obj) (e1 : o1.data = .cell (some (.int (tot : Int) t1))) (b : Int) (c : Int) (tc : Tok) (o2 : Obj) (e2 : o2.data = .cell (some (.int (smod c) tc))) (cnt : Nat) (tc2 : Tok) (hc2 : cnt ≤ 5) (D4 : Addr) (ul : List Value) (o3 : Obj) (e3' : o3.data = .cell (some (.ref D4))) (stp : Nat) (ts : Tok) (o4 : Obj) (e4 : o4.data = .cell (some (.int (stp : Int) ts))) (fs : List Nat) (tf : Tok) (o5 : Obj) (hfl : fs.length = cnt) (hfltr : (∀ c ∈ fs, Ltr c)) (e5 : o5.data = .cell (some (.str (tx fs) tf))) (hr : Int) (Dh : Addr) (uh : List Value) (way : Int) (Dt : Addr) (ut : List Value) (own1 : CbLed) (own2 : CbLed) (hut : StrsAre ut (((hoursL hr way).map (toldOf fs)).map tx)) (hTb : TbsM own1 own2 [(D4, listOf ul.toArray 0), (Dh, listOf uh.toArray 0), (L + 1 + 1 + 1 + 1 + 1 + 1 + 1, c7), (L + 1 + 1 + 1 + 1 + 1 + 1, c6), (L + 1 + 1 + 1 + 1 + 1, o5), (L + 1 + 1 + 1 + 1, o4), (L + 1 + 1 + 1, o3), (L + 1 + 1, o2), (L + 1, o1), (63, tabObj #[]), (70, tabObj #[])]) (x : Addr) (dx : Addr) (n : Nat) (nd : Nat) (ti1 : Tok) (ti2 : Tok) (o6 : Obj) (e6 : o6.data = .cell (some (.ref x))) :
    Blk w g L fa cd (lawStmt 10) [("told", .ref Dt), ("hours", .ref Dh), ("count", .int (cnt : Int) tc2)] ((63, tabObj #[]) :: (70, tabObj #[]) :: (x, lstObj 101 dx ([] : List Value).toArray n) :: (dx, dictOf (isD w.params (tot % 4) ti1 ti2) nd) :: (Dt, listOf ut.toArray 4) :: (D4, listOf ul.toArray 0) :: (Dh, listOf uh.toArray 0) :: (L + 1 + 1 + 1 + 1 + 1 + 1 + 1, c7) :: (L + 1 + 1 + 1 + 1 + 1 + 1, o6) :: (L + 1 + 1 + 1 + 1 + 1, o5) :: (L + 1 + 1 + 1 + 1, o4) :: (L + 1 + 1 + 1, o3) :: (L + 1 + 1, o2) :: (L + 1, o1) :: (own1 ++ own2))
      (fun R => ∀ (h : Heap) (lp : List Pr) (n : Nat), lp.map Pr.b = List.replicate cnt (Str.ofString " ") → lp.map Pr.s = ((toldOf fs ((hoursL hr way).getD 0 0)).reverse.map fun c => tx [c]) → Loc g L h [("told", .ref Dt), ("hours", .ref Dh), ("count", .int (cnt : Int) tc2)] → News g L h ((63, tabObj #[]) :: (70, tabObj #[]) :: (x, lstObj 101 dx (refs lp).toArray n) :: (dx, dictOf (isD w.params (tot % 4) ti1 ti2) nd) :: (Dt, listOf ut.toArray 4) :: (D4, listOf ul.toArray 0) :: (Dh, listOf uh.toArray 0) :: (L + 1 + 1 + 1 + 1 + 1 + 1 + 1, c7) :: (L + 1 + 1 + 1 + 1 + 1 + 1, o6) :: (L + 1 + 1 + 1 + 1 + 1, o5) :: (L + 1 + 1 + 1 + 1, o4) :: (L + 1 + 1 + 1, o3) :: (L + 1 + 1, o2) :: (L + 1, o1) :: (tups lp ++ (own1 ++ own2))) → R h) := by
  have X := C.X
  have T := C.T
  have B := C.B
  have k1 := C.k1
  have k2 := C.k2
  have k3 := C.k3
  have k4 := C.k4
  have hI := C.hI
  have lifted := C.lifted
  have hns := C.hns
  have l0 := C.l0
  have kcd : CdH g := ⟨k2, k1⟩
  clear C
  refine blk_mk (show lawStmt 10 = _ from (by conv => lhs; whnf)) ?_
  intro h0 gg dr tk oo Q G ⟨r11, F11⟩ N11 hN
  have k5 := G
  have G11 := G
  have Os11 : oo = oo := rfl
  have h00 := tl_get (F := fs) (hs := hoursL hr way) (i := 0) (by rw [hoursL_len]; k_extra "li")
  have hlt0 := toldOf_ltr hfltr ((hoursL hr way).getD 0 0)
  have hln0 := toldOf_len hfltr ((hoursL hr way).getD 0 0)
  have htl4 : ((hoursL hr way).map (toldOf fs)).length = 4 := by rw [List.length_map, hoursL_len]
  generalize toldOf fs ((hoursL hr way).getD 0 0) = t0 at *
  generalize (hoursL hr way).map (toldOf fs) = tl at *
  refine forTextG g t0.reverse (fun i m nx => ∃ (lp : List Pr) (n : Nat), nx = (63, tabObj #[]) :: (70, tabObj #[]) :: (x, lstObj 101 dx (refs lp).toArray n) :: (dx, dictOf (isD w.params (tot % 4) ti1 ti2) nd) :: (Dt, listOf ut.toArray 4) :: (D4, listOf ul.toArray 0) :: (Dh, listOf uh.toArray 0) :: (L + 1 + 1 + 1 + 1 + 1 + 1 + 1, c7) :: (L + 1 + 1 + 1 + 1 + 1 + 1, o6) :: (L + 1 + 1 + 1 + 1 + 1, o5) :: (L + 1 + 1 + 1 + 1, o4) :: (L + 1 + 1 + 1, o3) :: (L + 1 + 1, o2) :: (L + 1, o1) :: (tups lp ++ (own1 ++ own2)) ∧ lp.map Pr.b = List.replicate i (Str.ofString " ") ∧ lp.map Pr.s = ((t0.reverse.take i).map fun c => tx [c]) ∧ (∀ p ∈ ([("told", .ref Dt), ("hours", .ref Dh), ("count", .int (cnt : Int) tc2)] : List (Str × Value)), m p.1 = some p.2)) (fun c hc => ltr_128 hlt0 c (List.mem_reverse.mp hc)) (by rfl) (by rfl) ?_ (by intro _; rfl)
  iterate 4 (k_extra "ks1"; try dsimp only)
  refine it_strs (k := 0) (tl := tl) N11 (D := Dt) (kk := 4) (us := ut) (by k_mem) hut (by k_extra "li") (by k_extra "li") ?_ (by with_unfolding_all rfl)
  intro t'
  rw [h00]
  iterate 7 (k_extra "ks1"; try dsimp only)
  refine' sl_rev (s := ⟨_, _, _, _, _⟩) ?w9F ?w9N ?w9hl ?_ ?w9hs ?w9ht
  (case w9F => k_asm)
  (case w9N => k_asm)
  (case w9hl => k_extra "li")
  (case w9hs => with_unfolding_all rfl)
  (case w9ht => intro _; with_unfolding_all rfl)
  intro h2 t2 tk2 F2 N2
  have hof := hTb.offs
  have e0 : (Str.ofString "append") = (Str.ofString "append") := rfl
  refine ⟨_, _, _, rfl, rfl, F2, News.perm N2 (news' := (63, tabObj #[]) :: (70, tabObj #[]) :: (x, lstObj 101 dx (refs []).toArray n) :: (dx, dictOf (isD w.params (tot % 4) ti1 ti2) nd) :: (Dt, listOf ut.toArray 4) :: (D4, listOf ul.toArray 0) :: (Dh, listOf uh.toArray 0) :: (L + 1 + 1 + 1 + 1 + 1 + 1 + 1, c7) :: (L + 1 + 1 + 1 + 1 + 1 + 1, o6) :: (L + 1 + 1 + 1 + 1 + 1, o5) :: (L + 1 + 1 + 1 + 1, o4) :: (L + 1 + 1 + 1, o3) :: (L + 1 + 1, o2) :: (L + 1, o1) :: (tups [] ++ (own1 ++ own2))) (by k_extra "psub"), by exact k5, ⟨[], n, rfl, rfl, rfl, ?_⟩, ?_, ?_⟩
  · k_extra "kn_all"
  · intro i ti m₁ nx s₂ I oI hi hx9
    first | (k_extra "xq6"; clear hx9; intro lp n' eq9; subst eq9; intro hb hs hm) | obtain ⟨lp, n', rfl, hb, hs, hm⟩ := hx9
    intro os2 G2 F3 N3 hIc hoff
    have hx9 := locS F3 hm
    first | (k_extra "xe2"; clear hx9; intro r3 F3') | obtain ⟨r3, F3'⟩ := hx9
    have N3' : News g L s₂.heap ((x, lstObj 101 dx (refs lp).toArray n') :: (dx, dictOf (isD w.params (tot % 4) ti1 ti2) nd) :: (63, tabObj #[]) :: (70, tabObj #[]) :: (Dt, listOf ut.toArray 4) :: (D4, listOf ul.toArray 0) :: (Dh, listOf uh.toArray 0) :: (L + 1 + 1 + 1 + 1 + 1 + 1 + 1, c7) :: (L + 1 + 1 + 1 + 1 + 1 + 1, o6) :: (L + 1 + 1 + 1 + 1 + 1, o5) :: (L + 1 + 1 + 1 + 1, o4) :: (L + 1 + 1 + 1, o3) :: (L + 1 + 1, o2) :: (L + 1, o1) :: (tups lp ++ (own1 ++ own2) ++ [(I, oI)])) := News.perm N3 (by k_extra "psub")
    have hna : NoAcc x ((63, tabObj #[]) :: (70, tabObj #[]) :: (Dt, listOf ut.toArray 4) :: (D4, listOf ul.toArray 0) :: (Dh, listOf uh.toArray 0) :: (L + 1 + 1 + 1 + 1 + 1 + 1 + 1, c7) :: (L + 1 + 1 + 1 + 1 + 1 + 1, o6) :: (L + 1 + 1 + 1 + 1 + 1, o5) :: (L + 1 + 1 + 1 + 1, o4) :: (L + 1 + 1 + 1, o3) :: (L + 1 + 1, o2) :: (L + 1, o1) :: (tups lp ++ (own1 ++ own2) ++ [(I, oI)])) := apart_acc N3' (.head _) (fun p hp => .tail _ (.tail _ hp)) (by
      have a1 := hTb.1
      have a2 := hTb.2.1
      k_extra "na_all")
    clear F3 N3 F2 N2
    have F3'' : Fr g L s₂.heap _ := F3'
    clear F3'
    have hlen : (refs lp).length ≤ 500 := by
      rw [refs, List.length_map, ← List.length_map (f := Pr.b), hb, List.length_replicate]
      rw [List.length_reverse] at hi
      k_extra "li"
    repeat' ((fail_if_success (with_reducible show PySem.wpAny _ _ (call (.ref 45) _) _ _ _)); k_extra "ks1"; try dsimp only)
    (k_dflt (refine' Cl.use (push_c _ _ _ _ _ ((63, tabObj #[]) :: (70, tabObj #[]) :: (Dt, listOf ut.toArray 4) :: (D4, listOf ul.toArray 0) :: (Dh, listOf uh.toArray 0) :: (L + 1 + 1 + 1 + 1 + 1 + 1 + 1, c7) :: (L + 1 + 1 + 1 + 1 + 1 + 1, o6) :: (L + 1 + 1 + 1 + 1 + 1, o5) :: (L + 1 + 1 + 1 + 1, o4) :: (L + 1 + 1 + 1, o3) :: (L + 1 + 1, o2) :: (L + 1, o1) :: (tups lp ++ (own1 ++ own2) ++ [(I, oI)])) x dx (refs lp) n' (isD w.params (tot % 4) ti1 ti2) nd _ _ _ _ ?q1 ?q2 ?q3) ?k1 ?k2 ?k3 ?k4 ?k5 ?kK ?kd ?ku ?_; k_extra "cl_use"))
    case q1 => exact hlen
    case q2 => rfl
    case q3 => exact hna
    intro r nx3 h3 tk3 F4 N4 hR
    first | (revert hR; intro hx9; k_extra "xe4"; clear hx9; intro eq9; subst eq9; intro T mm eq9; subst eq9) | obtain ⟨rfl, T, mm, rfl⟩ := hR
    dsimp only
    k_extra "kd"
    have hTI : @Ne Nat T I := ne_obj N4 (.head _) (b := I) (o' := oI) (by simp) (by rw [hIc]; exact fun e => absurd (Value.type.inj e) (by decide))
    refine ⟨_, (63, tabObj #[]) :: (70, tabObj #[]) :: (x, lstObj 101 dx (refs lp ++ [Value.ref T]).toArray mm) :: (dx, dictOf (isD w.params (tot % 4) ti1 ti2) nd) :: (Dt, listOf ut.toArray 4) :: (D4, listOf ul.toArray 0) :: (Dh, listOf uh.toArray 0) :: (L + 1 + 1 + 1 + 1 + 1 + 1 + 1, c7) :: (L + 1 + 1 + 1 + 1 + 1 + 1, o6) :: (L + 1 + 1 + 1 + 1 + 1, o5) :: (L + 1 + 1 + 1 + 1, o4) :: (L + 1 + 1 + 1, o3) :: (L + 1 + 1, o2) :: (L + 1, o1) :: (tups lp ++ [(T, { cls := .type "tuple", data := .seq #[.str (Str.ofString " ") s₂.toks, .str (tx [t0.reverse.getD i 0]) ti] })] ++ (own1 ++ own2)), F4, News.perm N4 ?_, ?_, G2, os2, lp ++ [⟨T, Str.ofString " ", s₂.toks, tx [t0.reverse.getD i 0], ti⟩], mm, ?_, ?_, ?_, ?_⟩
    · k_extra "psub"
    · have hofx : @Ne Nat x I := hoff (x, lstObj 101 dx (refs lp).toArray n') (by k_mem)
      repeat' (first | exact List.forall_mem_nil _ | refine List.forall_mem_append.mpr ⟨?_, ?_⟩ | refine List.forall_mem_cons.mpr ⟨?_, ?_⟩)
      all_goals first | exact hTI | exact hofx | exact hoff (_, _) (by k_mem) | exact fun q hq => hoff q (by k_extra "sbm")
    · rw [tups_snoc, refs_snoc]
    · rw [List.map_append, hb, List.replicate_succ']
      rfl
    · rw [List.map_append, hs, List.take_add_one, List.getElem?_eq_getElem hi]
      simp [List.getD, List.getElem?_eq_getElem hi]
    · k_extra "kn_all"
  · intro m₁ nx s₂ hx9
    first | (k_extra "xq6"; clear hx9; intro lp n' eq9; subst eq9; intro hb hs hm) | obtain ⟨lp, n', rfl, hb, hs, hm⟩ := hx9
    intro os2 G2 F3 N3
    have hcl : t0.reverse.length = cnt := by rw [List.length_reverse]; k_extra "li"
    rw [List.take_length] at hs
    rw [hcl] at hb
    exact hN _ _ _ _ (G2) (os2) _ lp n' hb hs ⟨m₁, kn F3 hm⟩ N3
end
section
theorem lt0 {w : World} {loose : List Str} {mean : ExcName → Option Value} {mg mb : Str → Option Value} {g : Heap} (L : Addr) (fa : Addr) (cd : Value) (l : Addr) (vs : List Value) (ns : List Int) (C : LawCtx w loose mean mg mb g L l vs ns) (tot : Nat) (o1 : Obj) (b : Int) (o2 : Obj) (cnt : Nat) (tc2 : Tok) (D4 : Addr) (ul : List Value) (o3 : Obj) (o4 : Obj) (fs : List Nat) (o5 : Obj) (hr : Int) (Dh : Addr) (uh : List Value) (Dt : Addr) (ut : List Value) (own1 : CbLed) (own2 : CbLed) (x : Addr) (dx : Addr) (nd : Nat) (ti1 : Tok) (ti2 : Tok) (o6 : Obj) (tl : List (List Nat)) (hs : List Int) (hut : StrsAre ut (tl.map tx)) (htl4 : tl.length = 4) (i : Nat) (ti : Tok) (I : Addr) (oI : Obj) (hi : i < 3) (lq : List Pr) (nq : Nat) (ps1 : Array Value) (ps2 : Array Value) (o7 : Obj) (tB : List Nat) (tH : List Nat) (htB : tl.getD i [] = tB) (htH : tl.getD (i + 1) [] = tH) :
    Blk w g L fa cd (turnStmt 0) [("turn", .int (i : Int) ti), ("told", .ref Dt), ("hours", .ref Dh), ("count", .int (cnt : Int) tc2)] ((63, tabObj ps1) :: (70, tabObj ps2) :: (x, lstObj 101 dx (refs lq).toArray nq) :: (dx, dictOf (isD w.params (tot % 4) ti1 ti2) nd) :: (Dt, listOf ut.toArray 4) :: (D4, listOf ul.toArray 0) :: (Dh, listOf uh.toArray 0) :: (L + 1 + 1 + 1 + 1 + 1 + 1 + 1, o7) :: (L + 1 + 1 + 1 + 1 + 1 + 1, o6) :: (L + 1 + 1 + 1 + 1 + 1, o5) :: (L + 1 + 1 + 1 + 1, o4) :: (L + 1 + 1 + 1, o3) :: (L + 1 + 1, o2) :: (L + 1, o1) :: (tups lq ++ (own1 ++ own2) ++ [(I, oI)]))
      (fun R => ∀ (h : Heap) (ka kb : Tok), Loc g L h [("behind", .str (tx tH) kb), ("before", .str (tx tB) ka), ("turn", .int (i : Int) ti), ("told", .ref Dt), ("hours", .ref Dh), ("count", .int (cnt : Int) tc2)] → News g L h ((63, tabObj ps1) :: (70, tabObj ps2) :: (x, lstObj 101 dx (refs lq).toArray nq) :: (dx, dictOf (isD w.params (tot % 4) ti1 ti2) nd) :: (Dt, listOf ut.toArray 4) :: (D4, listOf ul.toArray 0) :: (Dh, listOf uh.toArray 0) :: (L + 1 + 1 + 1 + 1 + 1 + 1 + 1, o7) :: (L + 1 + 1 + 1 + 1 + 1 + 1, o6) :: (L + 1 + 1 + 1 + 1 + 1, o5) :: (L + 1 + 1 + 1 + 1, o4) :: (L + 1 + 1 + 1, o3) :: (L + 1 + 1, o2) :: (L + 1, o1) :: (tups lq ++ (own1 ++ own2) ++ [(I, oI)])) → R h) := by
  have X := C.X
  have T := C.T
  have B := C.B
  have k1 := C.k1
  have k2 := C.k2
  have k3 := C.k3
  have k4 := C.k4
  have hI := C.hI
  have lifted := C.lifted
  have hns := C.hns
  have l0 := C.l0
  have kcd : CdH g := ⟨k2, k1⟩
  clear C
  refine blk_mk (show turnStmt 0 = _ from (by conv => lhs; whnf)) ?_
  intro h0 gg dr tk oo Q G ⟨r2, F2⟩ N2 hN
  have k5 := G
  have G2 := G
  have os2 : oo = oo := rfl
  k_extra "kd"
  (with_reducible rename Fr _ _ _ _ => F9)
  rw [getD_tx, getD_tx, htB, htH] at F9
  exact hN _ _ _ _ (G2) (os2) _ _ _ (by k_extra "lo") (News.perm (by assumption) (by k_extra "psub"))
end
section
theorem lt1 {w : World} {loose : List Str} {mean : ExcName → Option Value} {mg mb : Str → Option Value} {g : Heap} (L : Addr) (fa : Addr) (cd : Value) (l : Addr) (vs : List Value) (ns : List Int) (C : LawCtx w loose mean mg mb g L l vs ns) (tot : Nat) (o1 : Obj) (b : Int) (o2 : Obj) (cnt : Nat) (tc2 : Tok) (D4 : Addr) (ul : List Value) (o3 : Obj) (hD4 : @LT.lt Nat _ (L + 1 + 1 + 1 + 1 + 1 + 1 + 1) D4) (o4 : Obj) (fs : List Nat) (o5 : Obj) (hr : Int) (Dh : Addr) (uh : List Value) (hDh : @LT.lt Nat _ (L + 1 + 1 + 1 + 1 + 1 + 1 + 1) Dh) (Dt : Addr) (ut : List Value) (own1 : CbLed) (own2 : CbLed) (hDt7 : @Ne Nat (L + 1 + 1 + 1 + 1 + 1 + 1 + 1) Dt) (x : Addr) (dx : Addr) (nd : Nat) (ti1 : Tok) (ti2 : Tok) (o6 : Obj) (tl : List (List Nat)) (hs : List Int) (huh : IntsAre uh hs) (hhl4 : hs.length = 4) (i : Nat) (ti : Tok) (I : Addr) (oI : Obj) (hi : i < 3) (lq : List Pr) (nq : Nat) (ps1 : Array Value) (ps2 : Array Value) (o7 : Obj) (v7 : Option Value) (ho7 : o7.data = .cell v7) (tB : List Nat) (tH : List Nat) (hI7 : @Ne Nat I (L + 1 + 1 + 1 + 1 + 1 + 1 + 1)) (hx7 : @Ne Nat x (L + 1 + 1 + 1 + 1 + 1 + 1 + 1)) (hdx7 : @Ne Nat dx (L + 1 + 1 + 1 + 1 + 1 + 1 + 1)) (hown17 : ∀ p ∈ own1, p.1 ≠ L + 1 + 1 + 1 + 1 + 1 + 1 + 1) (hown27 : ∀ p ∈ own2, p.1 ≠ L + 1 + 1 + 1 + 1 + 1 + 1 + 1) (htup7 : ∀ p ∈ tups lq, p.1 ≠ L + 1 + 1 + 1 + 1 + 1 + 1 + 1) (ka : Tok) (kb : Tok) :
    Blk w g L fa cd (turnStmt 1) [("behind", .str (tx tH) kb), ("before", .str (tx tB) ka), ("turn", .int (i : Int) ti), ("told", .ref Dt), ("hours", .ref Dh), ("count", .int (cnt : Int) tc2)] ((63, tabObj ps1) :: (70, tabObj ps2) :: (x, lstObj 101 dx (refs lq).toArray nq) :: (dx, dictOf (isD w.params (tot % 4) ti1 ti2) nd) :: (Dt, listOf ut.toArray 4) :: (D4, listOf ul.toArray 0) :: (Dh, listOf uh.toArray 0) :: (L + 1 + 1 + 1 + 1 + 1 + 1 + 1, o7) :: (L + 1 + 1 + 1 + 1 + 1 + 1, o6) :: (L + 1 + 1 + 1 + 1 + 1, o5) :: (L + 1 + 1 + 1 + 1, o4) :: (L + 1 + 1 + 1, o3) :: (L + 1 + 1, o2) :: (L + 1, o1) :: (tups lq ++ (own1 ++ own2) ++ [(I, oI)]))
      (fun R => ∀ (h : Heap) (tv : Tok) (o7 : Obj), o7.data = .cell (some (.int (laterOf hs i) tv)) → Loc g L h [("behind", .str (tx tH) kb), ("before", .str (tx tB) ka), ("turn", .int (i : Int) ti), ("told", .ref Dt), ("hours", .ref Dh), ("count", .int (cnt : Int) tc2)] → News g L h ((63, tabObj ps1) :: (70, tabObj ps2) :: (x, lstObj 101 dx (refs lq).toArray nq) :: (dx, dictOf (isD w.params (tot % 4) ti1 ti2) nd) :: (Dt, listOf ut.toArray 4) :: (D4, listOf ul.toArray 0) :: (Dh, listOf uh.toArray 0) :: (L + 1 + 1 + 1 + 1 + 1 + 1 + 1, o7) :: (L + 1 + 1 + 1 + 1 + 1 + 1, o6) :: (L + 1 + 1 + 1 + 1 + 1, o5) :: (L + 1 + 1 + 1 + 1, o4) :: (L + 1 + 1 + 1, o3) :: (L + 1 + 1, o2) :: (L + 1, o1) :: (tups lq ++ (own1 ++ own2) ++ [(I, oI)])) → R h) := by
  have X := C.X
  have T := C.T
  have B := C.B
  have k1 := C.k1
  have k2 := C.k2
  have k3 := C.k3
  have k4 := C.k4
  have hI := C.hI
  have lifted := C.lifted
  have hns := C.hns
  have l0 := C.l0
  have kcd : CdH g := ⟨k2, k1⟩
  clear C
  refine blk_mk (show turnStmt 1 = _ from (by conv => lhs; whnf)) ?_
  intro h0 gg dr tk oo Q G ⟨r3, F3⟩ N3 hN
  have k5 := G
  have G3 := G
  have os3 : oo = oo := rfl
  k_extra "kd"
  rename_i o7 F' N' d9
  rw [Int.toNat_natCast, Int.toNat_natCast] at d9
  exact hN _ _ _ _ (G3) (os3) _ _ o7 d9 (by k_extra "lo") (News.perm (by assumption) (by k_extra "psub"))
end
section
theorem lt2 {w : World} {loose : List Str} {mean : ExcName → Option Value} {mg mb : Str → Option Value} {g : Heap} (L : Addr) (fa : Addr) (cd : Value) (l : Addr) (vs : List Value) (ns : List Int) (C : LawCtx w loose mean mg mb g L l vs ns) (tot : Nat) (o1 : Obj) (b : Int) (o2 : Obj) (cnt : Nat) (tc2 : Tok) (hc2 : cnt ≤ 5) (D4 : Addr) (ul : List Value) (o3 : Obj) (o4 : Obj) (fs : List Nat) (o5 : Obj) (hr : Int) (Dh : Addr) (uh : List Value) (Dt : Addr) (ut : List Value) (own1 : CbLed) (own2 : CbLed) (x : Addr) (dx : Addr) (nd : Nat) (ti1 : Tok) (ti2 : Tok) (o6 : Obj) (tl : List (List Nat)) (hs : List Int) (i : Nat) (ti : Tok) (I : Addr) (oI : Obj) (lq : List Pr) (nq : Nat) (ps1 : Array Value) (ps2 : Array Value) (K : Nat) (tB : List Nat) (tH : List Nat) (hK : TurnOk cnt tB tH (laterOf hs i) K) (ka : Tok) (kb : Tok) (oL : Obj) :
    Blk w g L fa cd (turnStmt 2) [("behind", .str (tx tH) kb), ("before", .str (tx tB) ka), ("turn", .int (i : Int) ti), ("told", .ref Dt), ("hours", .ref Dh), ("count", .int (cnt : Int) tc2)] ((63, tabObj ps1) :: (70, tabObj ps2) :: (x, lstObj 101 dx (refs lq).toArray nq) :: (dx, dictOf (isD w.params (tot % 4) ti1 ti2) nd) :: (Dt, listOf ut.toArray 4) :: (D4, listOf ul.toArray 0) :: (Dh, listOf uh.toArray 0) :: (L + 1 + 1 + 1 + 1 + 1 + 1 + 1, oL) :: (L + 1 + 1 + 1 + 1 + 1 + 1, o6) :: (L + 1 + 1 + 1 + 1 + 1, o5) :: (L + 1 + 1 + 1 + 1, o4) :: (L + 1 + 1 + 1, o3) :: (L + 1 + 1, o2) :: (L + 1, o1) :: (tups lq ++ (own1 ++ own2) ++ [(I, oI)]))
      (fun R => ∀ (h : Heap) (tf3 : Tok), Loc g L h [("far", .int ((2 * K - K % 2 : Nat) : Int) tf3), ("behind", .str (tx tH) kb), ("before", .str (tx tB) ka), ("turn", .int (i : Int) ti), ("told", .ref Dt), ("hours", .ref Dh), ("count", .int (cnt : Int) tc2)] → News g L h ((63, tabObj ps1) :: (70, tabObj ps2) :: (x, lstObj 101 dx (refs lq).toArray nq) :: (dx, dictOf (isD w.params (tot % 4) ti1 ti2) nd) :: (Dt, listOf ut.toArray 4) :: (D4, listOf ul.toArray 0) :: (Dh, listOf uh.toArray 0) :: (L + 1 + 1 + 1 + 1 + 1 + 1 + 1, oL) :: (L + 1 + 1 + 1 + 1 + 1 + 1, o6) :: (L + 1 + 1 + 1 + 1 + 1, o5) :: (L + 1 + 1 + 1 + 1, o4) :: (L + 1 + 1 + 1, o3) :: (L + 1 + 1, o2) :: (L + 1, o1) :: (tups lq ++ (own1 ++ own2) ++ [(I, oI)])) → R h) := by
  have X := C.X
  have T := C.T
  have B := C.B
  have k1 := C.k1
  have k2 := C.k2
  have k3 := C.k3
  have k4 := C.k4
  have hI := C.hI
  have lifted := C.lifted
  have hns := C.hns
  have l0 := C.l0
  have kcd : CdH g := ⟨k2, k1⟩
  clear C
  refine blk_mk (show turnStmt 2 = _ from (by conv => lhs; whnf)) ?_
  intro h0 gg dr tk oo Q G ⟨r4, F4⟩ N4 hN
  have k5 := G
  have G4 := G
  have os4 : oo = oo := rfl
  repeat' ((fail_if_success (with_reducible show PySem.wpAny _ _ (call (.ref 161) _) _ _ _)); k_extra "ks1"; try dsimp only)
  (k_dflt (refine' Cl.use (lev_c _ _ _ _ _ ((63, tabObj ps1) :: (70, tabObj ps2) :: (x, lstObj 101 dx (refs lq).toArray nq) :: (dx, dictOf (isD w.params (tot % 4) ti1 ti2) nd) :: (Dt, listOf ut.toArray 4) :: (D4, listOf ul.toArray 0) :: (Dh, listOf uh.toArray 0) :: (L + 1 + 1 + 1 + 1 + 1 + 1 + 1, oL) :: (L + 1 + 1 + 1 + 1 + 1 + 1, o6) :: (L + 1 + 1 + 1 + 1 + 1, o5) :: (L + 1 + 1 + 1 + 1, o4) :: (L + 1 + 1 + 1, o3) :: (L + 1 + 1, o2) :: (L + 1, o1) :: (tups lq ++ (own1 ++ own2) ++ [(I, oI)])) tB _ tH _ _ _ ?q1 ?q2) ?k1 ?k2 ?k3 ?k4 ?k5 ?kK ?kd ?ku ?_; k_extra "cl_use"))
  case q1 => rw [hK.lB]; k_extra "li"
  case q2 => rw [hK.lH]; k_extra "li"
  intro r nx h2 tk2 F2 N2 hx9
  first | (k_extra "xq3"; clear hx9; intro eq9; subst eq9; intro t2 eq9; subst eq9) | obtain ⟨rfl, t2, rfl⟩ := hx9
  rw [hK.far]
  dsimp only
  k_extra "kd"
  exact hN _ _ _ _ (G4) (os4) _ _ (by k_extra "lo") (News.perm (by assumption) (by k_extra "psub"))
end
section
theorem lt3 {w : World} {loose : List Str} {mean : ExcName → Option Value} {mg mb : Str → Option Value} {g : Heap} (L : Addr) (fa : Addr) (cd : Value) (l : Addr) (vs : List Value) (ns : List Int) (C : LawCtx w loose mean mg mb g L l vs ns) (tot : Nat) (o1 : Obj) (o2 : Obj) (cnt : Nat) (tc2 : Tok) (D4 : Addr) (ul : List Value) (o3 : Obj) (o4 : Obj) (o5 : Obj) (Dh : Addr) (uh : List Value) (Dt : Addr) (ut : List Value) (own1 : CbLed) (own2 : CbLed) (x : Addr) (dx : Addr) (nd : Nat) (ti1 : Tok) (ti2 : Tok) (o6 : Obj) (hs : List Int) (i : Nat) (ti : Tok) (I : Addr) (oI : Obj) (lq : List Pr) (nq : Nat) (ps1 : Array Value) (ps2 : Array Value) (K : Nat) (tB : List Nat) (tH : List Nat) (hK : TurnOk cnt tB tH (laterOf hs i) K) (ka : Tok) (kb : Tok) (oL : Obj) (tf3 : Tok) :
    Blk w g L fa cd (turnStmt 3) [("far", .int ((2 * K - K % 2 : Nat) : Int) tf3), ("behind", .str (tx tH) kb), ("before", .str (tx tB) ka), ("turn", .int (i : Int) ti), ("told", .ref Dt), ("hours", .ref Dh), ("count", .int (cnt : Int) tc2)] ((63, tabObj ps1) :: (70, tabObj ps2) :: (x, lstObj 101 dx (refs lq).toArray nq) :: (dx, dictOf (isD w.params (tot % 4) ti1 ti2) nd) :: (Dt, listOf ut.toArray 4) :: (D4, listOf ul.toArray 0) :: (Dh, listOf uh.toArray 0) :: (L + 1 + 1 + 1 + 1 + 1 + 1 + 1, oL) :: (L + 1 + 1 + 1 + 1 + 1 + 1, o6) :: (L + 1 + 1 + 1 + 1 + 1, o5) :: (L + 1 + 1 + 1 + 1, o4) :: (L + 1 + 1 + 1, o3) :: (L + 1 + 1, o2) :: (L + 1, o1) :: (tups lq ++ (own1 ++ own2) ++ [(I, oI)]))
      (fun R => ∀ (h : Heap) (tz : Tok), Loc g L h [("size", .int (K : Int) tz), ("far", .int ((2 * K - K % 2 : Nat) : Int) tf3), ("behind", .str (tx tH) kb), ("before", .str (tx tB) ka), ("turn", .int (i : Int) ti), ("told", .ref Dt), ("hours", .ref Dh), ("count", .int (cnt : Int) tc2)] → News g L h ((63, tabObj ps1) :: (70, tabObj ps2) :: (x, lstObj 101 dx (refs lq).toArray nq) :: (dx, dictOf (isD w.params (tot % 4) ti1 ti2) nd) :: (Dt, listOf ut.toArray 4) :: (D4, listOf ul.toArray 0) :: (Dh, listOf uh.toArray 0) :: (L + 1 + 1 + 1 + 1 + 1 + 1 + 1, oL) :: (L + 1 + 1 + 1 + 1 + 1 + 1, o6) :: (L + 1 + 1 + 1 + 1 + 1, o5) :: (L + 1 + 1 + 1 + 1, o4) :: (L + 1 + 1 + 1, o3) :: (L + 1 + 1, o2) :: (L + 1, o1) :: (tups lq ++ (own1 ++ own2) ++ [(I, oI)])) → R h) := by
  have X := C.X
  have T := C.T
  have B := C.B
  have k1 := C.k1
  have k2 := C.k2
  have k3 := C.k3
  have k4 := C.k4
  have hI := C.hI
  have lifted := C.lifted
  have hns := C.hns
  have l0 := C.l0
  have kcd : CdH g := ⟨k2, k1⟩
  clear C
  refine blk_mk (show turnStmt 3 = _ from (by conv => lhs; whnf)) ?_
  intro h0 gg dr tk oo Q G ⟨r5, F5⟩ N5 hN
  have k5 := G
  have G5 := G
  have os5 : oo = oo := rfl
  k_extra "kd"
  (with_reducible rename Fr _ _ _ _ => F9)
  have e9 : ((2 * K - K % 2 + 1 : Nat) : Int).fdiv 2 = (K : Int) := by
    have := hK.k1
    rw [Int.fdiv_eq_ediv_of_nonneg _ (by decide)]
    k_extra "li"
  rw [e9] at F9
  exact hN _ _ _ _ (G5) (os5) _ _ (by k_extra "lo") (News.perm (by assumption) (by k_extra "psub"))
end
section
theorem lt4 {w : World} {loose : List Str} {mean : ExcName → Option Value} {mg mb : Str → Option Value} {g : Heap} (L : Addr) (fa : Addr) (cd : Value) (l : Addr) (vs : List Value) (ns : List Int) (C : LawCtx w loose mean mg mb g L l vs ns) (tot : Nat) (o1 : Obj) (b : Int) (o2 : Obj) (cnt : Nat) (tc2 : Tok) (D4 : Addr) (ul : List Value) (o3 : Obj) (o4 : Obj) (fs : List Nat) (o5 : Obj) (hr : Int) (Dh : Addr) (uh : List Value) (Dt : Addr) (ut : List Value) (own1 : CbLed) (own2 : CbLed) (x : Addr) (dx : Addr) (nd : Nat) (ti1 : Tok) (ti2 : Tok) (o6 : Obj) (tl : List (List Nat)) (hs : List Int) (i : Nat) (ti : Tok) (I : Addr) (oI : Obj) (lq : List Pr) (nq : Nat) (ps1 : Array Value) (ps2 : Array Value) (K : Nat) (tB : List Nat) (tH : List Nat) (ka : Tok) (kb : Tok) (oL : Obj) (tf3 : Tok) (tz : Tok) :
    Blk w g L fa cd (turnStmt 4) [("size", .int (K : Int) tz), ("far", .int ((2 * K - K % 2 : Nat) : Int) tf3), ("behind", .str (tx tH) kb), ("before", .str (tx tB) ka), ("turn", .int (i : Int) ti), ("told", .ref Dt), ("hours", .ref Dh), ("count", .int (cnt : Int) tc2)] ((63, tabObj ps1) :: (70, tabObj ps2) :: (x, lstObj 101 dx (refs lq).toArray nq) :: (dx, dictOf (isD w.params (tot % 4) ti1 ti2) nd) :: (Dt, listOf ut.toArray 4) :: (D4, listOf ul.toArray 0) :: (Dh, listOf uh.toArray 0) :: (L + 1 + 1 + 1 + 1 + 1 + 1 + 1, oL) :: (L + 1 + 1 + 1 + 1 + 1 + 1, o6) :: (L + 1 + 1 + 1 + 1 + 1, o5) :: (L + 1 + 1 + 1 + 1, o4) :: (L + 1 + 1 + 1, o3) :: (L + 1 + 1, o2) :: (L + 1, o1) :: (tups lq ++ (own1 ++ own2) ++ [(I, oI)]))
      (fun R => ∀ (h : Heap), Loc g L h [("size", .int (K : Int) tz), ("far", .int ((2 * K - K % 2 : Nat) : Int) tf3), ("behind", .str (tx tH) kb), ("before", .str (tx tB) ka), ("turn", .int (i : Int) ti), ("told", .ref Dt), ("hours", .ref Dh), ("count", .int (cnt : Int) tc2)] → News g L h ((63, tabObj ps1) :: (70, tabObj ps2) :: (x, lstObj 101 dx (refs lq).toArray nq) :: (dx, dictOf (isD w.params (tot % 4) ti1 ti2) nd) :: (Dt, listOf ut.toArray 4) :: (D4, listOf ul.toArray 0) :: (Dh, listOf uh.toArray 0) :: (L + 1 + 1 + 1 + 1 + 1 + 1 + 1, oL) :: (L + 1 + 1 + 1 + 1 + 1 + 1, o6) :: (L + 1 + 1 + 1 + 1 + 1, o5) :: (L + 1 + 1 + 1 + 1, o4) :: (L + 1 + 1 + 1, o3) :: (L + 1 + 1, o2) :: (L + 1, o1) :: (tups lq ++ (own1 ++ own2) ++ [(I, oI)])) → R h) := by
  have X := C.X
  have T := C.T
  have B := C.B
  have k1 := C.k1
  have k2 := C.k2
  have k3 := C.k3
  have k4 := C.k4
  have hI := C.hI
  have lifted := C.lifted
  have hns := C.hns
  have l0 := C.l0
  have kcd : CdH g := ⟨k2, k1⟩
  clear C
  refine blk_mk (show turnStmt 4 = _ from (by conv => lhs; whnf)) ?_
  intro h0 gg dr tk oo Q G ⟨r6, F6⟩ N6 hN
  have k5 := G
  have G6 := G
  have os6 : oo = oo := rfl
  have e9 : ((2 * K - K % 2 : Nat) : Int) = 2 * (K : Int) - (K : Int).fmod 2 := by
    rw [Int.fmod_eq_emod_of_nonneg _ (by decide)]
    k_extra "li"
  k_extra "kd"
  all_goals first
    | exact absurd e9 (by assumption)
    | exact hN _ _ _ _ (G6) (os6) _ (by k_extra "lo") (News.perm (by assumption) (by k_extra "psub"))
    | exact ⟨by first | exact trivial | rfl, by k_extra "lo", News.perm (by assumption) (by k_extra "psub"), G6, os6⟩
end
section
theorem lt5 {w : World} {loose : List Str} {mean : ExcName → Option Value} {mg mb : Str → Option Value} {g : Heap} (L : Addr) (fa : Addr) (cd : Value) (l : Addr) (vs : List Value) (ns : List Int) (C : LawCtx w loose mean mg mb g L l vs ns) (tot : Nat) (o1 : Obj) (b : Int) (o2 : Obj) (cnt : Nat) (tc2 : Tok) (hc1 : 3 ≤ cnt) (hc2 : cnt ≤ 5) (hcnt : (cnt : Int) = 3 + (smod b).fmod 3) (D4 : Addr) (ul : List Value) (o3 : Obj) (hul : IntsAre ul ((lapsL cnt).map fun (x : Nat) => (x : Int))) (e3' : o3.data = .cell (some (.ref D4))) (o4 : Obj) (fs : List Nat) (o5 : Obj) (hfl : fs.length = cnt) (hr : Int) (Dh : Addr) (uh : List Value) (Dt : Addr) (ut : List Value) (own1 : CbLed) (own2 : CbLed) (x : Addr) (dx : Addr) (nd : Nat) (ti1 : Tok) (ti2 : Tok) (o6 : Obj) (tl : List (List Nat)) (hs : List Int) (i : Nat) (ti : Tok) (I : Addr) (oI : Obj) (lq : List Pr) (nq : Nat) (ps1 : Array Value) (ps2 : Array Value) (K : Nat) (tB : List Nat) (tH : List Nat) (hK : TurnOk cnt tB tH (laterOf hs i) K) (ka : Tok) (kb : Tok) (tv : Tok) (oL : Obj) (hoL : oL.data = .cell (some (.int (laterOf hs i) tv))) (tf3 : Tok) (tz : Tok) :
    Blk w g L fa cd (turnStmt 5) [("size", .int (K : Int) tz), ("far", .int ((2 * K - K % 2 : Nat) : Int) tf3), ("behind", .str (tx tH) kb), ("before", .str (tx tB) ka), ("turn", .int (i : Int) ti), ("told", .ref Dt), ("hours", .ref Dh), ("count", .int (cnt : Int) tc2)] ((63, tabObj ps1) :: (70, tabObj ps2) :: (x, lstObj 101 dx (refs lq).toArray nq) :: (dx, dictOf (isD w.params (tot % 4) ti1 ti2) nd) :: (Dt, listOf ut.toArray 4) :: (D4, listOf ul.toArray 0) :: (Dh, listOf uh.toArray 0) :: (L + 1 + 1 + 1 + 1 + 1 + 1 + 1, oL) :: (L + 1 + 1 + 1 + 1 + 1 + 1, o6) :: (L + 1 + 1 + 1 + 1 + 1, o5) :: (L + 1 + 1 + 1 + 1, o4) :: (L + 1 + 1 + 1, o3) :: (L + 1 + 1, o2) :: (L + 1, o1) :: (tups lq ++ (own1 ++ own2) ++ [(I, oI)]))
      (fun R => ∀ (h : Heap), Loc g L h [("size", .int (K : Int) tz), ("far", .int ((2 * K - K % 2 : Nat) : Int) tf3), ("behind", .str (tx tH) kb), ("before", .str (tx tB) ka), ("turn", .int (i : Int) ti), ("told", .ref Dt), ("hours", .ref Dh), ("count", .int (cnt : Int) tc2)] → News g L h ((63, tabObj ps1) :: (70, tabObj ps2) :: (x, lstObj 101 dx (refs lq).toArray nq) :: (dx, dictOf (isD w.params (tot % 4) ti1 ti2) nd) :: (Dt, listOf ut.toArray 4) :: (D4, listOf ul.toArray 0) :: (Dh, listOf uh.toArray 0) :: (L + 1 + 1 + 1 + 1 + 1 + 1 + 1, oL) :: (L + 1 + 1 + 1 + 1 + 1 + 1, o6) :: (L + 1 + 1 + 1 + 1 + 1, o5) :: (L + 1 + 1 + 1 + 1, o4) :: (L + 1 + 1 + 1, o3) :: (L + 1 + 1, o2) :: (L + 1, o1) :: (tups lq ++ (own1 ++ own2) ++ [(I, oI)])) → R h) := by
  have X := C.X
  have T := C.T
  have B := C.B
  have k1 := C.k1
  have k2 := C.k2
  have k3 := C.k3
  have k4 := C.k4
  have hI := C.hI
  have lifted := C.lifted
  have hns := C.hns
  have l0 := C.l0
  have kcd : CdH g := ⟨k2, k1⟩
  clear C
  refine blk_mk (show turnStmt 5 = _ from (by conv => lhs; whnf)) ?_
  intro h0 gg dr tk oo Q G ⟨r7, F7⟩ N7 hN
  have k5 := G
  have G7 := G
  have os7 : oo = oo := rfl
  repeat' ((fail_if_success (with_reducible show PySem.wpAny _ _ (eval (Expr.ListComp _ _ _ _) _) _ _ _)); k_extra "ks1"; try dsimp only)
  refine LCt.ListComp_T (F₀ := by k_asm) (by with_unfolding_all rfl) (by decide) (by rfl) (by decide) (by rfl) ?_
  repeat' ((fail_if_success (show LCt.CompSrcT ..)); k_extra "ks1"; try dsimp only)
  refine LCt.CompSrcT.range (n := cnt) (by rfl) (by k_asm) (by k_asm) (by assumption) (small_one (by k_extra "li") (by k_extra "li") (by k_extra "li") (by k_extra "li")) (by rw [rangeSize_one]; split <;> k_extra "li") (by rw [PySem.sizeLine_eq]; k_extra "li") ?_
  intro g'
  refine' kci_range (fun l k => if (laterOf hs i) % ((lapsL cnt).getD (k - 1).toNat 1 : Nat) = 0 then l ++ [k] else l) (fun k' t' I' oI' C' oC' D' m' ys' l' h' tk' E' hlo' hhi' hI' hC' hx' F' N' off' ne' => ?_) ?_ ?_
  · show KPfMark → _
    intro hMark'
    obtain ⟨q, rfl⟩ : ∃ q : Nat, k' = ((q + 1 : Nat) : Int) := ⟨(k' - 1).toNat, by k_extra "li"⟩
    have hq : q < cnt := by k_extra "li"
    have hx9 := lapsL_at (c := cnt) (k := q) hc2 (by k_extra "li")
    first | (k_extra "xe3"; clear hx9; intro m1 m2 m3) | obtain ⟨m1, m2, m3⟩ := hx9
    have hm0 : (((lapsL cnt).getD q 1 : Nat) : Int) ≠ 0 := by k_extra "li"
    have hll : ((lapsL cnt).map fun (x : Nat) => (x : Int)).length = cnt + 1 := by
      simp [lapsL]; k_extra "li"
    have eG : (((q + 1 : Nat) : Int) - 1).toNat = q := by k_extra "li"
    rw [eG]
    with_reducible show PySem.wpAny _ _ _ _ _ _
    kcf_last
    repeat' ((fail_if_success (with_reducible show PySem.wpAny _ _ (subscriptTail _ _ _ _) _ _ _)); k_extra "ks1"; try dsimp only)
    rw [Nat.add_sub_cancel]
    k_extra "ks1"
    rw [Int.toNat_natCast, m1]
    with_reducible show PySem.wpAny _ _ _ _ _ _
    k_extra "kd"
    · rename_i e9
      rw [Int.fmod_eq_emod_of_nonneg _ (by k_extra "li")] at e9
      exact LCg.CompEnd.intro (by assumption) (by assumption) _ (fun _ hp => hp) off' trivial (kci_el (by rw [if_pos e9]) rfl rfl)
    · rename_i e9
      rw [Int.fmod_eq_emod_of_nonneg _ (by k_extra "li")] at e9
      exact LCg.CompEnd.intro (by assumption) (by assumption) _ (fun _ hp => hp) off' trivial (kci_no (by rw [if_neg e9]) rfl)
  · unfold KPfDone
    intro ys hI hlen D h5 tk5 F5 N5 o5'
    have hk1 := hK.k1
    have hk2 := hK.k2
    have hKm := (dv_mem hK.dvd (K : Int)).mpr ⟨K - 1, by k_extra "li", by k_extra "li", by k_extra "li"⟩
    dsimp only
    repeat' ((fail_if_success (with_reducible show PySem.wpAny _ _ (call (.builtin "max") _) _ _ _)); k_extra "ks1"; try dsimp only)
    refine max_list_N rfl F5 N5 ⟨_, (N5 _ (.head _)).1, rfl, _, rfl⟩ hI (List.length_pos_of_mem hKm) ?_
    intro h6 M t6 tk6 F6' N6' hM hle
    have hx9 := (dv_mem hK.dvd M).mp hM
    first | (k_extra "xe4"; clear hx9; intro j hj1 hj2 eq9; subst eq9) | obtain ⟨j, hj1, hj2, rfl⟩ := hx9
    have := hle _ hKm
    rw [show ((j : Int) + 1) = (K : Int) from by k_extra "li"]
    dsimp only
    have e9 : (K : Int) = (K : Int) := rfl
    k_extra "kd"
    all_goals first
      | exact absurd e9 (by assumption)
      | exact hN _ _ _ _ (G7) (os7) _ (by k_extra "lo") (News.perm (by assumption) (by k_extra "psub"))
      | exact ⟨by first | exact trivial | rfl, by k_extra "lo", News.perm (by assumption) (by k_extra "psub"), G7, os7⟩
  · intro l k
    dsimp only
    split <;> simp
end
section
theorem lt6 {w : World} {loose : List Str} {mean : ExcName → Option Value} {mg mb : Str → Option Value} {g : Heap} (L : Addr) (fa : Addr) (cd : Value) (l : Addr) (vs : List Value) (ns : List Int) (C : LawCtx w loose mean mg mb g L l vs ns) (tot : Nat) (o1 : Obj) (b : Int) (o2 : Obj) (cnt : Nat) (tc2 : Tok) (hc2 : cnt ≤ 5) (D4 : Addr) (ul : List Value) (o3 : Obj) (o4 : Obj) (fs : List Nat) (o5 : Obj) (hr : Int) (Dh : Addr) (uh : List Value) (Dt : Addr) (ut : List Value) (own1 : CbLed) (own2 : CbLed) (x : Addr) (dx : Addr) (nd : Nat) (ti1 : Tok) (ti2 : Tok) (o6 : Obj) (tl : List (List Nat)) (hs : List Int) (i : Nat) (ti : Tok) (I : Addr) (oI : Obj) (lq : List Pr) (nq : Nat) (ps1 : Array Value) (ps2 : Array Value) (K : Nat) (tB : List Nat) (tH : List Nat) (hK : TurnOk cnt tB tH (laterOf hs i) K) (ka : Tok) (kb : Tok) (oL : Obj) (tf3 : Tok) (tz : Tok) :
    Blk w g L fa cd (turnStmt 6) [("size", .int (K : Int) tz), ("far", .int ((2 * K - K % 2 : Nat) : Int) tf3), ("behind", .str (tx tH) kb), ("before", .str (tx tB) ka), ("turn", .int (i : Int) ti), ("told", .ref Dt), ("hours", .ref Dh), ("count", .int (cnt : Int) tc2)] ((63, tabObj ps1) :: (70, tabObj ps2) :: (x, lstObj 101 dx (refs lq).toArray nq) :: (dx, dictOf (isD w.params (tot % 4) ti1 ti2) nd) :: (Dt, listOf ut.toArray 4) :: (D4, listOf ul.toArray 0) :: (Dh, listOf uh.toArray 0) :: (L + 1 + 1 + 1 + 1 + 1 + 1 + 1, oL) :: (L + 1 + 1 + 1 + 1 + 1 + 1, o6) :: (L + 1 + 1 + 1 + 1 + 1, o5) :: (L + 1 + 1 + 1 + 1, o4) :: (L + 1 + 1 + 1, o3) :: (L + 1 + 1, o2) :: (L + 1, o1) :: (tups lq ++ (own1 ++ own2) ++ [(I, oI)]))
      (fun R => ∀ (h : Heap), Loc g L h [("size", .int (K : Int) tz), ("far", .int ((2 * K - K % 2 : Nat) : Int) tf3), ("behind", .str (tx tH) kb), ("before", .str (tx tB) ka), ("turn", .int (i : Int) ti), ("told", .ref Dt), ("hours", .ref Dh), ("count", .int (cnt : Int) tc2)] → News g L h ((63, tabObj ps1) :: (70, tabObj ps2) :: (x, lstObj 101 dx (refs lq).toArray nq) :: (dx, dictOf (isD w.params (tot % 4) ti1 ti2) nd) :: (Dt, listOf ut.toArray 4) :: (D4, listOf ul.toArray 0) :: (Dh, listOf uh.toArray 0) :: (L + 1 + 1 + 1 + 1 + 1 + 1 + 1, oL) :: (L + 1 + 1 + 1 + 1 + 1 + 1, o6) :: (L + 1 + 1 + 1 + 1 + 1, o5) :: (L + 1 + 1 + 1 + 1, o4) :: (L + 1 + 1 + 1, o3) :: (L + 1 + 1, o2) :: (L + 1, o1) :: (tups lq ++ (own1 ++ own2) ++ [(I, oI)])) → R h) := by
  have X := C.X
  have T := C.T
  have B := C.B
  have k1 := C.k1
  have k2 := C.k2
  have k3 := C.k3
  have k4 := C.k4
  have hI := C.hI
  have lifted := C.lifted
  have hns := C.hns
  have l0 := C.l0
  have kcd : CdH g := ⟨k2, k1⟩
  clear C
  refine blk_mk (show turnStmt 6 = _ from (by conv => lhs; whnf)) ?_
  intro h0 gg dr tk oo Q G ⟨r8, F8⟩ N8 hN
  have k5 := G
  have G8 := G
  have os8 : oo = oo := rfl
  have hk1 := hK.k1
  have hk2 := hK.k2
  have hlB := hK.lB
  have hlH := hK.lH
  repeat' ((fail_if_success (with_reducible show PySem.wpAny _ _ (call (.ref 161) _) _ _ _)); k_extra "ks1"; try dsimp only)
  (k_dflt (refine' Cl.use (lev_c _ _ _ _ _ ((63, tabObj ps1) :: (70, tabObj ps2) :: (x, lstObj 101 dx (refs lq).toArray nq) :: (dx, dictOf (isD w.params (tot % 4) ti1 ti2) nd) :: (Dt, listOf ut.toArray 4) :: (D4, listOf ul.toArray 0) :: (Dh, listOf uh.toArray 0) :: (L + 1 + 1 + 1 + 1 + 1 + 1 + 1, oL) :: (L + 1 + 1 + 1 + 1 + 1 + 1, o6) :: (L + 1 + 1 + 1 + 1 + 1, o5) :: (L + 1 + 1 + 1 + 1, o4) :: (L + 1 + 1 + 1, o3) :: (L + 1 + 1, o2) :: (L + 1, o1) :: (tups lq ++ (own1 ++ own2) ++ [(I, oI)])) tB.reverse _ tH.reverse _ _ _ ?q1 ?q2) ?k1 ?k2 ?k3 ?k4 ?k5 ?kK ?kd ?ku ?_; k_extra "cl_use"))
  case q1 => rw [List.length_reverse, hK.lB]; k_extra "li"
  case q2 => rw [List.length_reverse, hK.lH]; k_extra "li"
  intro r nx h2 tk2 F2 N2 hx9
  first | (k_extra "xq3"; clear hx9; intro eq9; subst eq9; intro t2 eq9; subst eq9) | obtain ⟨rfl, t2, rfl⟩ := hx9
  rw [show ((2 * K - K % 2 - 1 : Nat) : Int) = ((2 * K - K % 2 : Nat) : Int) - 1 from by k_extra "li", hK.rev]
  dsimp only
  have e9 : ((2 * K - K % 2 : Nat) : Int) = ((2 * K - K % 2 : Nat) : Int) := rfl
  k_extra "kd"
  all_goals first
    | exact absurd e9 (by assumption)
    | exact hN _ _ _ _ (G8) (os8) _ (by k_extra "lo") (News.perm (by assumption) (by k_extra "psub"))
    | exact ⟨by first | exact trivial | rfl, by k_extra "lo", News.perm (by assumption) (by k_extra "psub"), G8, os8⟩
end
section
theorem lt7 {w : World} {loose : List Str} {mean : ExcName → Option Value} {mg mb : Str → Option Value} {g : Heap} (L : Addr) (fa : Addr) (cd : Value) (l : Addr) (vs : List Value) (ns : List Int) (C : LawCtx w loose mean mg mb g L l vs ns) (c6 : Obj) (c7 : Obj) (tot : Nat) (t1 : Tok) (o1 : Obj) (e1 : o1.data = .cell (some (.int (tot : Int) t1))) (b : Int) (c : Int) (tc : Tok) (o2 : Obj) (e2 : o2.data = .cell (some (.int (smod c) tc))) (cnt : Nat) (tc2 : Tok) (hc1 : 3 ≤ cnt) (hc2 : cnt ≤ 5) (D4 : Addr) (ul : List Value) (o3 : Obj) (e3' : o3.data = .cell (some (.ref D4))) (stp : Nat) (ts : Tok) (o4 : Obj) (e4 : o4.data = .cell (some (.int (stp : Int) ts))) (fs : List Nat) (tf : Tok) (o5 : Obj) (e5 : o5.data = .cell (some (.str (tx fs) tf))) (hr : Int) (Dh : Addr) (uh : List Value) (Dt : Addr) (ut : List Value) (own1 : CbLed) (own2 : CbLed) (hTb : TbsM own1 own2 [(D4, listOf ul.toArray 0), (Dh, listOf uh.toArray 0), (L + 1 + 1 + 1 + 1 + 1 + 1 + 1, c7), (L + 1 + 1 + 1 + 1 + 1 + 1, c6), (L + 1 + 1 + 1 + 1 + 1, o5), (L + 1 + 1 + 1 + 1, o4), (L + 1 + 1 + 1, o3), (L + 1 + 1, o2), (L + 1, o1), (63, tabObj #[]), (70, tabObj #[])]) (x : Addr) (dx : Addr) (nd : Nat) (ti1 : Tok) (ti2 : Tok) (o6 : Obj) (e6 : o6.data = .cell (some (.ref x))) (tl : List (List Nat)) (hs : List Int) (i : Nat) (ti : Tok) (I : Addr) (oI : Obj) (hIc : oI.cls = .type "range_iterator") (lq : List Pr) (nq : Nat) (ps1 : Array Value) (ps2 : Array Value) (K : Nat) (tB : List Nat) (tH : List Nat) (hK : TurnOk cnt tB tH (laterOf hs i) K) (hb : lq.map Pr.b = List.replicate cnt (Str.ofString " ")) (ka : Tok) (kb : Tok) (tv : Tok) (oL : Obj) (hoL : oL.data = .cell (some (.int (laterOf hs i) tv))) (tf3 : Tok) (tz : Tok) :
    Blk w g L fa cd (turnStmt 7) [("size", .int (K : Int) tz), ("far", .int ((2 * K - K % 2 : Nat) : Int) tf3), ("behind", .str (tx tH) kb), ("before", .str (tx tB) ka), ("turn", .int (i : Int) ti), ("told", .ref Dt), ("hours", .ref Dh), ("count", .int (cnt : Int) tc2)] ((63, tabObj ps1) :: (70, tabObj ps2) :: (x, lstObj 101 dx (refs lq).toArray nq) :: (dx, dictOf (isD w.params (tot % 4) ti1 ti2) nd) :: (Dt, listOf ut.toArray 4) :: (D4, listOf ul.toArray 0) :: (Dh, listOf uh.toArray 0) :: (L + 1 + 1 + 1 + 1 + 1 + 1 + 1, oL) :: (L + 1 + 1 + 1 + 1 + 1 + 1, o6) :: (L + 1 + 1 + 1 + 1 + 1, o5) :: (L + 1 + 1 + 1 + 1, o4) :: (L + 1 + 1 + 1, o3) :: (L + 1 + 1, o2) :: (L + 1, o1) :: (tups lq ++ (own1 ++ own2) ++ [(I, oI)]))
      (fun R => ∀ (h : Heap) (Dk : Addr) (nz : Nat) (la lb : List Pr), lq = la ++ lb → lb.length = K → Loc g L h [("taken", .ref Dk), ("size", .int (K : Int) tz), ("far", .int ((2 * K - K % 2 : Nat) : Int) tf3), ("behind", .str (tx tH) kb), ("before", .str (tx tB) ka), ("turn", .int (i : Int) ti), ("told", .ref Dt), ("hours", .ref Dh), ("count", .int (cnt : Int) tc2)] → News g L h ((Dk, listOf (refs lb).toArray 0) :: (63, tabObj ps1) :: (70, tabObj ps2) :: (x, lstObj 101 dx (refs la).toArray nz) :: (dx, dictOf (isD w.params (tot % 4) ti1 ti2) nd) :: (Dt, listOf ut.toArray 4) :: (D4, listOf ul.toArray 0) :: (Dh, listOf uh.toArray 0) :: (L + 1 + 1 + 1 + 1 + 1 + 1 + 1, oL) :: (L + 1 + 1 + 1 + 1 + 1 + 1, o6) :: (L + 1 + 1 + 1 + 1 + 1, o5) :: (L + 1 + 1 + 1 + 1, o4) :: (L + 1 + 1 + 1, o3) :: (L + 1 + 1, o2) :: (L + 1, o1) :: (tups (la ++ lb) ++ (own1 ++ own2) ++ [(I, oI)])) → R h) := by
  have X := C.X
  have T := C.T
  have B := C.B
  have k1 := C.k1
  have k2 := C.k2
  have k3 := C.k3
  have k4 := C.k4
  have hI := C.hI
  have lifted := C.lifted
  have hns := C.hns
  have l0 := C.l0
  have kcd : CdH g := ⟨k2, k1⟩
  clear C
  refine blk_mk (show turnStmt 7 = _ from (by conv => lhs; whnf)) ?_
  intro h0 gg dr tk oo Q G ⟨r9, F9⟩ N9 hN
  have k5 := G
  have G9 := G
  have os9 : oo = oo := rfl
  have hk1 := hK.k1
  have hk2 := hK.k2
  have hna : NoAcc x ((63, tabObj ps1) :: (70, tabObj ps2) :: (Dt, listOf ut.toArray 4) :: (D4, listOf ul.toArray 0) :: (Dh, listOf uh.toArray 0) :: (L + 1 + 1 + 1 + 1 + 1 + 1 + 1, oL) :: (L + 1 + 1 + 1 + 1 + 1 + 1, o6) :: (L + 1 + 1 + 1 + 1 + 1, o5) :: (L + 1 + 1 + 1 + 1, o4) :: (L + 1 + 1 + 1, o3) :: (L + 1 + 1, o2) :: (L + 1, o1) :: (tups lq ++ (own1 ++ own2) ++ [(I, oI)])) := apart_acc N9 (by k_mem) (by k_extra "psub") (by
    have a1 := hTb.1
    have a2 := hTb.2.1
    k_extra "na_all")
  have hlen : (refs lq).length = cnt := by
    rw [refs, List.length_map, ← List.length_map (f := Pr.b), hb, List.length_replicate]
  repeat' ((fail_if_success (with_reducible show PySem.wpAny _ _ (call (.ref 53) _) _ _ _)); k_extra "ks1"; try dsimp only)
  · replace N9 := News.perm N9 (news' := (x, lstObj 101 dx (refs lq).toArray nq) :: (dx, dictOf (isD w.params (tot % 4) ti1 ti2) nd) :: (63, tabObj ps1) :: (70, tabObj ps2) :: (Dt, listOf ut.toArray 4) :: (D4, listOf ul.toArray 0) :: (Dh, listOf uh.toArray 0) :: (L + 1 + 1 + 1 + 1 + 1 + 1 + 1, oL) :: (L + 1 + 1 + 1 + 1 + 1 + 1, o6) :: (L + 1 + 1 + 1 + 1 + 1, o5) :: (L + 1 + 1 + 1 + 1, o4) :: (L + 1 + 1 + 1, o3) :: (L + 1 + 1, o2) :: (L + 1, o1) :: (tups lq ++ (own1 ++ own2) ++ [(I, oI)])) (by k_extra "psub")
    (k_dflt (refine' Cl.use (pf_c _ _ _ _ _ ((63, tabObj ps1) :: (70, tabObj ps2) :: (Dt, listOf ut.toArray 4) :: (D4, listOf ul.toArray 0) :: (Dh, listOf uh.toArray 0) :: (L + 1 + 1 + 1 + 1 + 1 + 1 + 1, oL) :: (L + 1 + 1 + 1 + 1 + 1 + 1, o6) :: (L + 1 + 1 + 1 + 1 + 1, o5) :: (L + 1 + 1 + 1 + 1, o4) :: (L + 1 + 1 + 1, o3) :: (L + 1 + 1, o2) :: (L + 1, o1) :: (tups lq ++ (own1 ++ own2) ++ [(I, oI)])) x dx (refs lq) nq (isD w.params (tot % 4) ti1 ti2) nd (cnt - K) _ ?q1 ?q2 ?q3) ?k1 ?k2 ?k3 ?k4 ?k5 ?kK ?kd ?ku ?_; k_extra "cl_use"))
    case q1 => k_extra "li"
    case q2 => k_extra "li"
    case q3 => exact hna
    intro r nx h2 tk2 F2 N2 hx9
    first | (k_extra "xq4"; clear hx9; intro D k eq9; subst eq9; intro eq9; subst eq9) | obtain ⟨D, k, rfl, rfl⟩ := hx9
    rw [show (refs lq).drop (cnt - K) = refs (lq.drop (cnt - K)) from (List.map_drop ..).symm, show (refs lq).take (cnt - K) = refs (lq.take (cnt - K)) from (List.map_take ..).symm] at N2
    dsimp only
    k_extra "kd"
    refine hN _ _ _ _ (G9) (os9) _ D k (lq.take (cnt - K)) (lq.drop (cnt - K)) ((List.take_append_drop _ _).symm) ?_ (by k_extra "lo") ?_
    · rw [List.length_drop]
      rw [refs, List.length_map] at hlen
      k_extra "li"
    · rw [List.take_append_drop]
      exact News.perm (by assumption) (by k_extra "psub")
  · have hKc : K = cnt := by k_extra "li"
    rw [List.append_nil]
    replace N9 := News.perm N9 (news' := (x, lstObj 101 dx (refs lq).toArray nq) :: (dx, dictOf (isD w.params (tot % 4) ti1 ti2) nd) :: (63, tabObj ps1) :: (70, tabObj ps2) :: (Dt, listOf ut.toArray 4) :: (D4, listOf ul.toArray 0) :: (Dh, listOf uh.toArray 0) :: (L + 1 + 1 + 1 + 1 + 1 + 1 + 1, oL) :: (L + 1 + 1 + 1 + 1 + 1 + 1, o6) :: (L + 1 + 1 + 1 + 1 + 1, o5) :: (L + 1 + 1 + 1 + 1, o4) :: (L + 1 + 1 + 1, o3) :: (L + 1 + 1, o2) :: (L + 1, o1) :: (tups lq ++ (own1 ++ own2) ++ [(I, oI)])) (by k_extra "psub")
    (k_dflt (refine' Cl.use (pf0_c _ _ _ _ _ ((63, tabObj ps1) :: (70, tabObj ps2) :: (Dt, listOf ut.toArray 4) :: (D4, listOf ul.toArray 0) :: (Dh, listOf uh.toArray 0) :: (L + 1 + 1 + 1 + 1 + 1 + 1 + 1, oL) :: (L + 1 + 1 + 1 + 1 + 1 + 1, o6) :: (L + 1 + 1 + 1 + 1 + 1, o5) :: (L + 1 + 1 + 1 + 1, o4) :: (L + 1 + 1 + 1, o3) :: (L + 1 + 1, o2) :: (L + 1, o1) :: (tups lq ++ (own1 ++ own2) ++ [(I, oI)])) x dx (refs lq) nq (isD w.params (tot % 4) ti1 ti2) nd ?q1 ?q3) ?k1 ?k2 ?k3 ?k4 ?k5 ?kK ?kd ?ku ?_; k_extra "cl_use"))
    case q1 => k_extra "li"
    case q3 => exact hna
    intro r nx h2 tk2 F2 N2 hx9
    first | (k_extra "xq4"; clear hx9; intro D k eq9; subst eq9; intro eq9; subst eq9) | obtain ⟨D, k, rfl, rfl⟩ := hx9
    dsimp only
    k_extra "kd"
    refine hN _ _ _ _ (G9) (os9) _ D k [] lq rfl ?_ (by k_extra "lo") ?_
    · rw [refs, List.length_map] at hlen
      k_extra "li"
    · rw [List.nil_append]
      exact News.perm (by assumption) (by k_extra "psub")
end
section
theorem lt8 {w : World} {loose : List Str} {mean : ExcName → Option Value} {mg mb : Str → Option Value} {g : Heap} (L : Addr) (fa : Addr) (cd : Value) (l : Addr) (vs : List Value) (ns : List Int) (C : LawCtx w loose mean mg mb g L l vs ns) (c6 : Obj) (c7 : Obj) (tot : Nat) (t1 : Tok) (o1 : Obj) (e1 : o1.data = .cell (some (.int (tot : Int) t1))) (b : Int) (c : Int) (tc : Tok) (o2 : Obj) (e2 : o2.data = .cell (some (.int (smod c) tc))) (cnt : Nat) (tc2 : Tok) (hc2 : cnt ≤ 5) (D4 : Addr) (ul : List Value) (o3 : Obj) (e3' : o3.data = .cell (some (.ref D4))) (stp : Nat) (ts : Tok) (o4 : Obj) (e4 : o4.data = .cell (some (.int (stp : Int) ts))) (fs : List Nat) (tf : Tok) (o5 : Obj) (e5 : o5.data = .cell (some (.str (tx fs) tf))) (hr : Int) (Dh : Addr) (uh : List Value) (Dt : Addr) (ut : List Value) (own1 : CbLed) (own2 : CbLed) (hTb : TbsM own1 own2 [(D4, listOf ul.toArray 0), (Dh, listOf uh.toArray 0), (L + 1 + 1 + 1 + 1 + 1 + 1 + 1, c7), (L + 1 + 1 + 1 + 1 + 1 + 1, c6), (L + 1 + 1 + 1 + 1 + 1, o5), (L + 1 + 1 + 1 + 1, o4), (L + 1 + 1 + 1, o3), (L + 1 + 1, o2), (L + 1, o1), (63, tabObj #[]), (70, tabObj #[])]) (x : Addr) (dx : Addr) (nd : Nat) (ti1 : Tok) (ti2 : Tok) (o6 : Obj) (e6 : o6.data = .cell (some (.ref x))) (tl : List (List Nat)) (hs : List Int) (i : Nat) (ti : Tok) (I : Addr) (oI : Obj) (hIc : oI.cls = .type "range_iterator") (lq : List Pr) (ps1 : Array Value) (ps2 : Array Value) (K : Nat) (tB : List Nat) (tH : List Nat) (hK : TurnOk cnt tB tH (laterOf hs i) K) (hb : lq.map Pr.b = List.replicate cnt (Str.ofString " ")) (hs9 : lq.map Pr.s = (tB.reverse.map fun c => tx [c])) (ka : Tok) (kb : Tok) (tv : Tok) (oL : Obj) (hoL : oL.data = .cell (some (.int (laterOf hs i) tv))) (tf3 : Tok) (tz : Tok) (Dk : Addr) (nz : Nat) (la : List Pr) (lb : List Pr) (hlq : lq = la ++ lb) (hl2 : lb.length = K) :
    Blk w g L fa cd (turnStmt 8) [("taken", .ref Dk), ("size", .int (K : Int) tz), ("far", .int ((2 * K - K % 2 : Nat) : Int) tf3), ("behind", .str (tx tH) kb), ("before", .str (tx tB) ka), ("turn", .int (i : Int) ti), ("told", .ref Dt), ("hours", .ref Dh), ("count", .int (cnt : Int) tc2)] ((Dk, listOf (refs lb).toArray 0) :: (63, tabObj ps1) :: (70, tabObj ps2) :: (x, lstObj 101 dx (refs la).toArray nz) :: (dx, dictOf (isD w.params (tot % 4) ti1 ti2) nd) :: (Dt, listOf ut.toArray 4) :: (D4, listOf ul.toArray 0) :: (Dh, listOf uh.toArray 0) :: (L + 1 + 1 + 1 + 1 + 1 + 1 + 1, oL) :: (L + 1 + 1 + 1 + 1 + 1 + 1, o6) :: (L + 1 + 1 + 1 + 1 + 1, o5) :: (L + 1 + 1 + 1 + 1, o4) :: (L + 1 + 1 + 1, o3) :: (L + 1 + 1, o2) :: (L + 1, o1) :: (tups (la ++ lb) ++ (own1 ++ own2) ++ [(I, oI)]))
      (fun R => ∀ (h : Heap) (lr : List Pr) (ny : Nat), lr.map Pr.b = List.replicate cnt (Str.ofString " ") → lr.map Pr.s = (tH.reverse.map fun c => tx [c]) → Loc g L h [("size", .int (K : Int) tz), ("far", .int ((2 * K - K % 2 : Nat) : Int) tf3), ("behind", .str (tx tH) kb), ("before", .str (tx tB) ka), ("turn", .int (i : Int) ti), ("told", .ref Dt), ("hours", .ref Dh), ("count", .int (cnt : Int) tc2)] → News g L h ((63, tabObj ps1) :: (70, tabObj ps2) :: (x, lstObj 101 dx (refs lr).toArray ny) :: (dx, dictOf (isD w.params (tot % 4) ti1 ti2) nd) :: (Dt, listOf ut.toArray 4) :: (D4, listOf ul.toArray 0) :: (Dh, listOf uh.toArray 0) :: (L + 1 + 1 + 1 + 1 + 1 + 1 + 1, oL) :: (L + 1 + 1 + 1 + 1 + 1 + 1, o6) :: (L + 1 + 1 + 1 + 1 + 1, o5) :: (L + 1 + 1 + 1 + 1, o4) :: (L + 1 + 1 + 1, o3) :: (L + 1 + 1, o2) :: (L + 1, o1) :: (tups lr ++ (own1 ++ own2) ++ [(I, oI)])) → R h) := by
  have X := C.X
  have T := C.T
  have B := C.B
  have k1 := C.k1
  have k2 := C.k2
  have k3 := C.k3
  have k4 := C.k4
  have hI := C.hI
  have lifted := C.lifted
  have hns := C.hns
  have l0 := C.l0
  have kcd : CdH g := ⟨k2, k1⟩
  clear C
  refine blk_mk (show turnStmt 8 = _ from (by conv => lhs; whnf)) ?_
  intro h0 gg dr tk oo Q G ⟨r10, F10⟩ N10 hN
  have k5 := G
  have G10 := G
  have os10 : oo = oo := rfl
  have hk1 := hK.k1
  have hk2 := hK.k2
  refine forListG g (fun j m nx => ∃ (lc : List Pr) (ny : Nat), nx = (63, tabObj ps1) :: (70, tabObj ps2) :: (x, lstObj 101 dx (refs la ++ refs lc).toArray ny) :: (dx, dictOf (isD w.params (tot % 4) ti1 ti2) nd) :: (Dt, listOf ut.toArray 4) :: (D4, listOf ul.toArray 0) :: (Dh, listOf uh.toArray 0) :: (L + 1 + 1 + 1 + 1 + 1 + 1 + 1, oL) :: (L + 1 + 1 + 1 + 1 + 1 + 1, o6) :: (L + 1 + 1 + 1 + 1 + 1, o5) :: (L + 1 + 1 + 1 + 1, o4) :: (L + 1 + 1 + 1, o3) :: (L + 1 + 1, o2) :: (L + 1, o1) :: (tups (la ++ lb) ++ tups lc ++ (own1 ++ own2) ++ [(I, oI)]) ∧ lc.map Pr.b = List.replicate j (Str.ofString " ") ∧ lc.map Pr.s = ((tB.take j).map fun c => tx [sw c]) ∧ (∀ p ∈ ([("taken", .ref Dk), ("size", .int (K : Int) tz), ("far", .int ((2 * K - K % 2 : Nat) : Int) tf3), ("behind", .str (tx tH) kb), ("before", .str (tx tB) ka), ("turn", .int (i : Int) ti), ("told", .ref Dt), ("hours", .ref Dh), ("count", .int (cnt : Int) tc2)] : List (Str × Value)), m p.1 = some p.2)) ?_ (by intro _; rfl)
  repeat' ((fail_if_success (with_reducible show PySem.wpAny _ _ (subscriptTail _ _ (.ref _) (.ref _)) _ _ _)); k_extra "ks1"; try dsimp only)
  have hx9 := lists_split hlq hb hs9 hK.lB hl2 hk2
  first | (k_extra "xe4"; clear hx9; intro sp1 sp2 sp3 sp4) | obtain ⟨sp1, sp2, sp3, sp4⟩ := hx9
  refine' krv_lit (s := ⟨_, _, _, _, _⟩) (its := (refs lb).toArray) (zs := refs lb.reverse) ?w9F ?w9N ?w9l ?w9k ?w9e ?_ ?w9s ?w9t ?w9z
  (case w9F => k_asm)
  (case w9N => k_asm)
  (case w9l => exact ⟨_, (N10 (Dk, listOf (refs lb).toArray 0) (by k_mem)).1, rfl, _, rfl⟩)
  (case w9k => exact IsPart.int _ _)
  (case w9e => simp [refs])
  (case w9s => with_unfolding_all rfl)
  (case w9t => kmk_pure)
  (case w9z => simp [refs, sizeLine_eq]; k_extra "li")
  intro DD h3 F3 N3 l3
  have hrl : lb.reverse.length = K := by rw [List.length_reverse]; exact hl2
  refine ⟨DD, refs lb.reverse, 0, _, _, rfl, rfl, F3, News.perm N3 (news' := ((63, tabObj ps1) :: (70, tabObj ps2) :: (x, lstObj 101 dx (refs la).toArray nz) :: (dx, dictOf (isD w.params (tot % 4) ti1 ti2) nd) :: (Dt, listOf ut.toArray 4) :: (D4, listOf ul.toArray 0) :: (Dh, listOf uh.toArray 0) :: (L + 1 + 1 + 1 + 1 + 1 + 1 + 1, oL) :: (L + 1 + 1 + 1 + 1 + 1 + 1, o6) :: (L + 1 + 1 + 1 + 1 + 1, o5) :: (L + 1 + 1 + 1 + 1, o4) :: (L + 1 + 1 + 1, o3) :: (L + 1 + 1, o2) :: (L + 1, o1) :: (tups (la ++ lb) ++ (own1 ++ own2) ++ [(I, oI)])) ++ [(DD, listOf (refs lb.reverse).toArray 0)]) (by k_extra "psub"), G10, ⟨[], nz, by simp [refs, tups], rfl, rfl, by k_extra "kn_all"⟩, ?_, ?_⟩
  · intro jj v m₁ nx hx9
    first | (k_extra "xq5"; clear hx9; intro h4 gg4 dr4 tk4 oo4) | obtain ⟨h4, gg4, dr4, tk4, oo4⟩ := hx9
    intro I2 oI2 hj hv hx9
    first | (k_extra "xq6"; clear hx9; intro lc ny eq9; subst eq9; intro hcb hcs hm) | obtain ⟨lc, ny, rfl, hcb, hcs, hm⟩ := hx9
    intro os4 G4 F4 N4 hIc4 hoff4
    dsimp only at os4 G4 F4 N4
    have hx9 := pr_get hv sp2 sp4
    first | (k_extra "xe5"; clear hx9; intro q hq eq9; subst eq9; intro hqb hqs) | obtain ⟨q, hq, rfl, hqb, hqs⟩ := hx9
    have hjK : jj < K := by
      rw [refs, List.length_map, hrl] at hj
      exact hj
    have hlB := hK.lB
    have hltB := hK.ltrB
    have e7 : (tB.take K).getD jj 0 = tB.getD jj 0 := by
      simp only [List.getD_eq_getElem?_getD, List.getElem?_take, hjK, if_true]
    rw [e7] at hqs
    first | (revert q; intro hx9; k_extra "xe5"; clear hx9; intro qa qb qtb qs qts) | obtain ⟨qa, qb, qtb, qs, qts⟩ := q
    dsimp only at hqb hqs hv ⊢
    subst hqb
    subst hqs
    have hqm : ((qa, { cls := .type "tuple", data := .seq #[.str (Str.ofString " ") qtb, .str (tx [tB.getD jj 0]) qts] }) : Addr × Obj) ∈ tups (la ++ lb) := tups_mem (q := ⟨qa, (Str.ofString " "), qtb, tx [tB.getD jj 0], qts⟩) (List.mem_append_right _ (List.mem_reverse.mp hq))
    have N5 : News g L h4 ((qa, { cls := .type "tuple", data := .seq #[.str (Str.ofString " ") qtb, .str (tx [tB.getD jj 0]) qts] }) :: (x, lstObj 101 dx (refs la ++ refs lc).toArray ny) :: (dx, dictOf (isD w.params (tot % 4) ti1 ti2) nd) :: (63, tabObj ps1) :: (70, tabObj ps2) :: (Dt, listOf ut.toArray 4) :: (D4, listOf ul.toArray 0) :: (Dh, listOf uh.toArray 0) :: (L + 1 + 1 + 1 + 1 + 1 + 1 + 1, oL) :: (L + 1 + 1 + 1 + 1 + 1 + 1, o6) :: (L + 1 + 1 + 1 + 1 + 1, o5) :: (L + 1 + 1 + 1 + 1, o4) :: (L + 1 + 1 + 1, o3) :: (L + 1 + 1, o2) :: (L + 1, o1) :: (tups (la ++ lb) ++ tups lc ++ (own1 ++ own2) ++ [(I, oI)] ++ [(I2, oI2), (DD, listOf (refs lb.reverse).toArray 0)])) := News.perm N4 (List.forall_mem_cons.mpr ⟨by simp only [List.mem_cons, List.mem_append, hqm, or_true, true_or], by k_extra "psub"⟩)
    have hna : NoAcc x ((qa, { cls := .type "tuple", data := .seq #[.str (Str.ofString " ") qtb, .str (tx [tB.getD jj 0]) qts] }) :: (63, tabObj ps1) :: (70, tabObj ps2) :: (Dt, listOf ut.toArray 4) :: (D4, listOf ul.toArray 0) :: (Dh, listOf uh.toArray 0) :: (L + 1 + 1 + 1 + 1 + 1 + 1 + 1, oL) :: (L + 1 + 1 + 1 + 1 + 1 + 1, o6) :: (L + 1 + 1 + 1 + 1 + 1, o5) :: (L + 1 + 1 + 1 + 1, o4) :: (L + 1 + 1 + 1, o3) :: (L + 1 + 1, o2) :: (L + 1, o1) :: (tups (la ++ lb) ++ tups lc ++ (own1 ++ own2) ++ [(I, oI)] ++ [(I2, oI2), (DD, listOf (refs lb.reverse).toArray 0)])) := apart_acc N5 (.tail _ (.head _)) (fun p hp => by
      rcases List.mem_cons.mp hp with rfl | hp
      · exact .head _
      · exact .tail _ (.tail _ (.tail _ hp))) (by
      have a1 := hTb.1
      have a2 := hTb.2.1
      k_extra "na_all")
    have hI27 : @Ne Nat I2 x := fun e => hoff4 (x, lstObj 101 dx (refs la ++ refs lc).toArray ny) (by k_mem) e.symm
    have hoff5 := hoff4
    obtain ⟨r5, F5⟩ : Loc g L h4 [("taken", .ref Dk), ("size", .int (K : Int) tz), ("far", .int ((2 * K - K % 2 : Nat) : Int) tf3), ("behind", .str (tx tH) kb), ("before", .str (tx tB) ka), ("turn", .int (i : Int) ti), ("told", .ref Dt), ("hours", .ref Dh), ("count", .int (cnt : Int) tc2)] := ⟨m₁, kn F4 hm⟩
    clear F4 N4 hm hoff4
    have hlen : (refs la ++ refs lc).length ≤ 500 := by
      have b1 : (refs la).length = cnt - K := by rw [refs, List.length_map, ← List.length_map (f := Pr.b), sp1, List.length_replicate]
      have b2 : (refs lc).length = jj := by rw [refs, List.length_map, ← List.length_map (f := Pr.b), hcb, List.length_replicate]
      rw [List.length_append, b1, b2]
      k_extra "li"
    repeat' ((fail_if_success (with_reducible show PySem.wpAny _ _ (call (.ref 45) _) _ _ _)); k_extra "ks1"; try dsimp only)
    rename_i t9 tk9
    (with_reducible rename News _ _ _ _ => N7)
    replace N7 := News.perm N7 (news' := (x, lstObj 101 dx (refs la ++ refs lc).toArray ny) :: (dx, dictOf (isD w.params (tot % 4) ti1 ti2) nd) :: (qa, { cls := .type "tuple", data := .seq #[.str (Str.ofString " ") qtb, .str (tx [tB.getD jj 0]) qts] }) :: (63, tabObj ps1) :: (70, tabObj ps2) :: (Dt, listOf ut.toArray 4) :: (D4, listOf ul.toArray 0) :: (Dh, listOf uh.toArray 0) :: (L + 1 + 1 + 1 + 1 + 1 + 1 + 1, oL) :: (L + 1 + 1 + 1 + 1 + 1 + 1, o6) :: (L + 1 + 1 + 1 + 1 + 1, o5) :: (L + 1 + 1 + 1 + 1, o4) :: (L + 1 + 1 + 1, o3) :: (L + 1 + 1, o2) :: (L + 1, o1) :: (tups (la ++ lb) ++ tups lc ++ (own1 ++ own2) ++ [(I, oI)] ++ [(I2, oI2), (DD, listOf (refs lb.reverse).toArray 0)])) (by k_extra "psub")
    (k_dflt (refine' Cl.use (push_c _ _ _ _ _ ((qa, { cls := .type "tuple", data := .seq #[.str (Str.ofString " ") qtb, .str (tx [tB.getD jj 0]) qts] }) :: (63, tabObj ps1) :: (70, tabObj ps2) :: (Dt, listOf ut.toArray 4) :: (D4, listOf ul.toArray 0) :: (Dh, listOf uh.toArray 0) :: (L + 1 + 1 + 1 + 1 + 1 + 1 + 1, oL) :: (L + 1 + 1 + 1 + 1 + 1 + 1, o6) :: (L + 1 + 1 + 1 + 1 + 1, o5) :: (L + 1 + 1 + 1 + 1, o4) :: (L + 1 + 1 + 1, o3) :: (L + 1 + 1, o2) :: (L + 1, o1) :: (tups (la ++ lb) ++ tups lc ++ (own1 ++ own2) ++ [(I, oI)] ++ [(I2, oI2), (DD, listOf (refs lb.reverse).toArray 0)])) x dx (refs la ++ refs lc) ny (isD w.params (tot % 4) ti1 ti2) nd _ _ _ _ ?q1 ?q2 ?q3) ?k1 ?k2 ?k3 ?k4 ?k5 ?kK ?kd ?ku ?_; k_extra "cl_use"))
    case q1 => exact hlen
    case q2 => rfl
    case q3 => exact hna
    intro r nx6 h6 tk6 F6 N6 hx9
    first | (k_extra "xq4"; clear hx9; intro eq9; subst eq9; intro T mm eq9; subst eq9) | obtain ⟨rfl, T, mm, rfl⟩ := hx9
    dsimp only
    k_extra "kd"
    have hTI : @Ne Nat T I2 := ne_obj N6 (.head _) (b := I2) (o' := oI2) (by simp) (by rw [hIc4]; exact fun e => absurd (Value.type.inj e) (by decide))
    refine ⟨_, (63, tabObj ps1) :: (70, tabObj ps2) :: (x, lstObj 101 dx (refs la ++ refs lc ++ [Value.ref T]).toArray mm) :: (dx, dictOf (isD w.params (tot % 4) ti1 ti2) nd) :: (Dt, listOf ut.toArray 4) :: (D4, listOf ul.toArray 0) :: (Dh, listOf uh.toArray 0) :: (L + 1 + 1 + 1 + 1 + 1 + 1 + 1, oL) :: (L + 1 + 1 + 1 + 1 + 1 + 1, o6) :: (L + 1 + 1 + 1 + 1 + 1, o5) :: (L + 1 + 1 + 1 + 1, o4) :: (L + 1 + 1 + 1, o3) :: (L + 1 + 1, o2) :: (L + 1, o1) :: (tups (la ++ lb) ++ tups lc ++ [(T, { cls := .type "tuple", data := .seq #[.str (Str.ofString " ") qtb, .str (tx [sw (tB.getD jj 0)]) t9] })] ++ (own1 ++ own2) ++ [(I, oI)]), F6, News.perm N6 ?_, ?_, G4, os4, lc ++ [⟨T, (Str.ofString " "), qtb, tx [sw (tB.getD jj 0)], t9⟩], mm, ?_, ?_, ?_, ?_⟩
    · k_extra "psub"
    · repeat' (first | exact List.forall_mem_nil _ | refine List.forall_mem_append.mpr ⟨?_, ?_⟩ | refine List.forall_mem_cons.mpr ⟨?_, ?_⟩)
      all_goals first | exact hTI | exact Ne.symm hI27 | exact hoff5 (_, _) (by k_mem) | exact hoff5 (I, oI) (by simp) | exact fun q hq => hoff5 q (by k_extra "sbm")
    · rw [tups_snoc, refs_snoc, List.append_assoc (refs la), ← List.append_assoc (tups (la ++ lb))]
    · rw [List.map_append, hcb, List.replicate_succ']
      rfl
    · have e8 : tB.take (jj + 1) = tB.take jj ++ [tB.getD jj 0] := by
        rw [List.take_add_one, List.getElem?_eq_getElem (show jj < tB.length by k_extra "li")]
        simp [List.getD, List.getElem?_eq_getElem (show jj < tB.length by k_extra "li")]
      rw [List.map_append, hcs, e8, List.map_append]
      rfl
    · k_extra "kn_all"
  · intro m₁ nx hx9
    first | (k_extra "xq5"; clear hx9; intro h4 gg4 dr4 tk4 oo4) | obtain ⟨h4, gg4, dr4, tk4, oo4⟩ := hx9
    intro hx9
    first | (k_extra "xq6"; clear hx9; intro lc ny eq9; subst eq9; intro hcb hcs hm) | obtain ⟨lc, ny, rfl, hcb, hcs, hm⟩ := hx9
    intro os4 G4 F4 N4
    dsimp only at os4 G4 F4 N4
    have hru : (refs lb.reverse).length = K := by rw [refs, List.length_map, hrl]
    rw [hru] at hcb hcs
    refine hN _ _ _ _ (G4) (os4.trans os10) _ (la ++ lc) ny ?_ ?_ ?_ ?_
    · rw [List.map_append, sp1, hcb, List.replicate_append_replicate]
      congr 1
      k_extra "li"
    · rw [List.map_append, sp3, hcs, hK.flip]
      simp [flipK, List.map_reverse, Function.comp_def]
    · obtain ⟨r5, F5⟩ : Loc g L h4 [("taken", .ref Dk), ("size", .int (K : Int) tz), ("far", .int ((2 * K - K % 2 : Nat) : Int) tf3), ("behind", .str (tx tH) kb), ("before", .str (tx tB) ka), ("turn", .int (i : Int) ti), ("told", .ref Dt), ("hours", .ref Dh), ("count", .int (cnt : Int) tc2)] := ⟨m₁, kn F4 hm⟩
      k_extra "lo"
    · rw [show refs (la ++ lc) = refs la ++ refs lc from List.map_append .., show tups (la ++ lc) = tups la ++ tups lc from List.map_append ..]
      rw [show tups (la ++ lb) = tups la ++ tups lb from List.map_append ..] at N4
      exact News.perm N4 (by k_extra "psub")
end
section
theorem lt9 {w : World} {loose : List Str} {mean : ExcName → Option Value} {mg mb : Str → Option Value} {g : Heap} (L : Addr) (fa : Addr) (cd : Value) (l : Addr) (vs : List Value) (ns : List Int) (C : LawCtx w loose mean mg mb g L l vs ns) (c6 : Obj) (c7 : Obj) (tot : Nat) (t1 : Tok) (o1 : Obj) (htot : (tot : Int) = (ns.map fun k => k.fmod (10 ^ Int.toNat 6)).sum) (e1 : o1.data = .cell (some (.int (tot : Int) t1))) (b : Int) (c : Int) (tc : Tok) (o2 : Obj) (e2 : o2.data = .cell (some (.int (smod c) tc))) (cnt : Nat) (tc2 : Tok) (hc1 : 3 ≤ cnt) (hc2 : cnt ≤ 5) (hcnt : (cnt : Int) = 3 + (smod b).fmod 3) (D4 : Addr) (ul : List Value) (o3 : Obj) (e3' : o3.data = .cell (some (.ref D4))) (stp : Nat) (ts : Tok) (o4 : Obj) (e4 : o4.data = .cell (some (.int (stp : Int) ts))) (fs : List Nat) (tf : Tok) (o5 : Obj) (hfl : fs.length = cnt) (e5 : o5.data = .cell (some (.str (tx fs) tf))) (hr : Int) (Dh : Addr) (uh : List Value) (Dt : Addr) (ut : List Value) (own1 : CbLed) (own2 : CbLed) (hTb : TbsM own1 own2 [(D4, listOf ul.toArray 0), (Dh, listOf uh.toArray 0), (L + 1 + 1 + 1 + 1 + 1 + 1 + 1, c7), (L + 1 + 1 + 1 + 1 + 1 + 1, c6), (L + 1 + 1 + 1 + 1 + 1, o5), (L + 1 + 1 + 1 + 1, o4), (L + 1 + 1 + 1, o3), (L + 1 + 1, o2), (L + 1, o1), (63, tabObj #[]), (70, tabObj #[])]) (x : Addr) (dx : Addr) (nd : Nat) (ti1 : Tok) (ti2 : Tok) (o6 : Obj) (e6 : o6.data = .cell (some (.ref x))) (tl : List (List Nat)) (hs : List Int) (i : Nat) (ti : Tok) (I : Addr) (oI : Obj) (hIc : oI.cls = .type "range_iterator") (ps1 : Array Value) (ps2 : Array Value) (ht1 : TriplesOk ps1.toList) (ht2 : TriplesOk ps2.toList) (K : Nat) (tB : List Nat) (tH : List Nat) (hK : TurnOk cnt tB tH (laterOf hs i) K) (ka : Tok) (kb : Tok) (tv : Tok) (oL : Obj) (hoL : oL.data = .cell (some (.int (laterOf hs i) tv))) (tf3 : Tok) (tz : Tok) (lb : List Pr) (lr : List Pr) (ny : Nat) (hrb : lr.map Pr.b = List.replicate cnt (Str.ofString " ")) (hrs : lr.map Pr.s = (tH.reverse.map fun c => tx [c])) :
    Blk w g L fa cd (turnStmt 9) [("size", .int (K : Int) tz), ("far", .int ((2 * K - K % 2 : Nat) : Int) tf3), ("behind", .str (tx tH) kb), ("before", .str (tx tB) ka), ("turn", .int (i : Int) ti), ("told", .ref Dt), ("hours", .ref Dh), ("count", .int (cnt : Int) tc2)] ((63, tabObj ps1) :: (70, tabObj ps2) :: (x, lstObj 101 dx (refs lr).toArray ny) :: (dx, dictOf (isD w.params (tot % 4) ti1 ti2) nd) :: (Dt, listOf ut.toArray 4) :: (D4, listOf ul.toArray 0) :: (Dh, listOf uh.toArray 0) :: (L + 1 + 1 + 1 + 1 + 1 + 1 + 1, oL) :: (L + 1 + 1 + 1 + 1 + 1 + 1, o6) :: (L + 1 + 1 + 1 + 1 + 1, o5) :: (L + 1 + 1 + 1 + 1, o4) :: (L + 1 + 1 + 1, o3) :: (L + 1 + 1, o2) :: (L + 1, o1) :: (tups lr ++ (own1 ++ own2) ++ [(I, oI)]))
      (fun R => ∀ (h : Heap) (ps1 ps2 : Array Value) (nx : Nat), TriplesOk ps1.toList → TriplesOk ps2.toList → Loc g L h [("told", .ref Dt), ("hours", .ref Dh), ("count", .int (cnt : Int) tc2)] → News g L h ((63, tabObj ps1) :: (70, tabObj ps2) :: (x, lstObj 101 dx (refs lr).toArray nx) :: (dx, dictOf (isD w.params (tot % 4) ti1 ti2) nd) :: (Dt, listOf ut.toArray 4) :: (D4, listOf ul.toArray 0) :: (Dh, listOf uh.toArray 0) :: (L + 1 + 1 + 1 + 1 + 1 + 1 + 1, oL) :: (L + 1 + 1 + 1 + 1 + 1 + 1, o6) :: (L + 1 + 1 + 1 + 1 + 1, o5) :: (L + 1 + 1 + 1 + 1, o4) :: (L + 1 + 1 + 1, o3) :: (L + 1 + 1, o2) :: (L + 1, o1) :: (tups lr ++ (own1 ++ own2) ++ [(I, oI)])) → R h) := by
  have X := C.X
  have T := C.T
  have B := C.B
  have k1 := C.k1
  have k2 := C.k2
  have k3 := C.k3
  have k4 := C.k4
  have hI := C.hI
  have lifted := C.lifted
  have hns := C.hns
  have l0 := C.l0
  have kcd : CdH g := ⟨k2, k1⟩
  clear C
  refine blk_mk (show turnStmt 9 = _ from (by conv => lhs; whnf)) ?_
  intro h0 gg dr tk oo Q G ⟨r11, F11⟩ N11 hN
  have k5 := G
  have G11 := G
  have os11 : oo = oo := rfl
  have hlr : lr.length = cnt := by rw [← List.length_map (f := Pr.b), hrb, List.length_replicate]
  have hlH := hK.lH
  have hbs : ∀ q ∈ lr, q.b.length ≤ 1000 ∧ q.s.length ≤ 1000 := pr_small hrb hrs
  have hnt : NoTab 70 ((63, tabObj ps1) :: (Dt, listOf ut.toArray 4) :: (D4, listOf ul.toArray 0) :: (Dh, listOf uh.toArray 0) :: (L + 1 + 1 + 1 + 1 + 1 + 1 + 1, oL) :: (L + 1 + 1 + 1 + 1 + 1 + 1, o6) :: (L + 1 + 1 + 1 + 1 + 1, o5) :: (L + 1 + 1 + 1 + 1, o4) :: (L + 1 + 1 + 1, o3) :: (L + 1 + 1, o2) :: (L + 1, o1) :: ((own1 ++ own2) ++ [(I, oI)])) := by
    have hf := hTb.offs
    repeat' (first | exact List.forall_mem_nil _ | refine List.forall_mem_append.mpr ⟨?_, ?_⟩ | refine List.forall_mem_cons.mpr ⟨?_, ?_⟩)
    all_goals first
      | exact nt_addr (by decide)
      | exact .inl (fun e => by cases e)
      | exact .inr (Nat.ne_of_gt (by k_extra "li"))
      | exact .inl (by rw [hIc]; exact fun e => by cases e)
      | exact fun p hp => .inr (Ne.symm (hf p (List.mem_append_left _ hp) (70, tabObj #[]) (by k_mem)))
      | exact fun p hp => .inr (Ne.symm (hf p (List.mem_append_right _ hp) (70, tabObj #[]) (by k_mem)))
  repeat' ((fail_if_success (with_reducible show PySem.wpAny _ _ (call (.ref 75) _) _ _ _)); k_extra "ks1"; try dsimp only)
  (with_reducible rename News _ _ _ _ => N7)
  replace N7 := News.perm N7 (news' := (70, tabObj ps2) :: (x, lstObj 101 dx (refs lr).toArray ny) :: (dx, dictOf (isD w.params (tot % 4) ti1 ti2) nd) :: (tups lr ++ ((63, tabObj ps1) :: (Dt, listOf ut.toArray 4) :: (D4, listOf ul.toArray 0) :: (Dh, listOf uh.toArray 0) :: (L + 1 + 1 + 1 + 1 + 1 + 1 + 1, oL) :: (L + 1 + 1 + 1 + 1 + 1 + 1, o6) :: (L + 1 + 1 + 1 + 1 + 1, o5) :: (L + 1 + 1 + 1 + 1, o4) :: (L + 1 + 1 + 1, o3) :: (L + 1 + 1, o2) :: (L + 1, o1) :: ((own1 ++ own2) ++ [(I, oI)])))) (by k_extra "psub")
  (k_dflt (refine' ClG.use (str_c _ _ _ _ _ ((63, tabObj ps1) :: (Dt, listOf ut.toArray 4) :: (D4, listOf ul.toArray 0) :: (Dh, listOf uh.toArray 0) :: (L + 1 + 1 + 1 + 1 + 1 + 1 + 1, oL) :: (L + 1 + 1 + 1 + 1 + 1 + 1, o6) :: (L + 1 + 1 + 1 + 1 + 1, o5) :: (L + 1 + 1 + 1 + 1, o4) :: (L + 1 + 1 + 1, o3) :: (L + 1 + 1, o2) :: (L + 1, o1) :: ((own1 ++ own2) ++ [(I, oI)])) ps2 x dx lr ny _ nd ?q1 hbs ht2 hnt) ?k0 ?kg ?k1 ?k2 ?k3 ?k4 ?k5 ?kK ?kd ?ku ?_; (case k0 => exact k4); (case kg => exact G11); (case k1 => k_asm); (case k2 => k_asm); (case k3 => k_asm); (case k4 => k_asm); (case k5 => k_asm); (case kK => first | exact rfl | assumption); (case kd => first | ktr_room | k_extra "li"); (case ku => first | ktr_units | k_extra "li")))
  case q1 => k_extra "li"
  intro r nx6 hx9
  first | (k_extra "xq5"; clear hx9; intro h6 g6 d6' tk6 o6') | obtain ⟨h6, g6, d6', tk6, o6'⟩ := hx9
  intro F6 N6 G6' os6' hx9
  first | (k_extra "xq4"; clear hx9; intro hx9; (first | (k_extra "xq2"; clear hx9; intro t6 eq9; subst eq9) | obtain ⟨t6, rfl⟩ := hx9); intro ps2' htr2 eq9; subst eq9) | obtain ⟨⟨t6, rfl⟩, ps2', htr2, rfl⟩ := hx9
  try dsimp only at F6 N6 G6' os6'
  replace N6 := News.perm N6 (news' := (63, tabObj ps1) :: (70, tabObj ps2') :: (x, lstObj 101 dx (refs lr).toArray ny) :: (dx, dictOf (isD w.params (tot % 4) ti1 ti2) nd) :: (Dt, listOf ut.toArray 4) :: (D4, listOf ul.toArray 0) :: (Dh, listOf uh.toArray 0) :: (L + 1 + 1 + 1 + 1 + 1 + 1 + 1, oL) :: (L + 1 + 1 + 1 + 1 + 1 + 1, o6) :: (L + 1 + 1 + 1 + 1 + 1, o5) :: (L + 1 + 1 + 1 + 1, o4) :: (L + 1 + 1 + 1, o3) :: (L + 1 + 1, o2) :: (L + 1, o1) :: (tups lr ++ (own1 ++ own2) ++ [(I, oI)])) (by k_extra "psub")
  dsimp only [StrBack]
  repeat' ((fail_if_success (with_reducible show PySem.wpAny _ _ (eval (Expr.ListComp _ _ _ _) _) _ _ _)); k_extra "ks1"; try dsimp only)
  refine ListComp_tx tH.reverse (F₀ := by k_asm) (by with_unfolding_all rfl) (by decide) (by rfl) (by decide) (by rfl) ?_ (by intro _; rfl)
  repeat' ((fail_if_success (with_reducible show Exists _)); k_extra "ks1"; try dsimp only)
  (with_reducible rename Fr _ _ _ _ => F8)
  (with_reducible rename News _ _ _ _ => N8)
  refine ⟨_, _, rfl, rfl, F8, N8, fun c hc => ltr_128 hK.ltrH c (List.mem_reverse.mp hc), by rw [List.length_reverse]; k_extra "li", ?_⟩
  intro g'
  refine compL (fun j ys nx => nx = (63, tabObj ps1) :: (70, tabObj ps2') :: (x, lstObj 101 dx (refs lr).toArray ny) :: (dx, dictOf (isD w.params (tot % 4) ti1 ti2) nd) :: (Dt, listOf ut.toArray 4) :: (D4, listOf ul.toArray 0) :: (Dh, listOf uh.toArray 0) :: (L + 1 + 1 + 1 + 1 + 1 + 1 + 1, oL) :: (L + 1 + 1 + 1 + 1 + 1 + 1, o6) :: (L + 1 + 1 + 1 + 1 + 1, o5) :: (L + 1 + 1 + 1 + 1, o4) :: (L + 1 + 1 + 1, o3) :: (L + 1 + 1, o2) :: (L + 1, o1) :: (tups lr ++ (own1 ++ own2) ++ [(I, oI)]) ∧ StrsAre ys ((tH.reverse.take j).map fun c => Str.ofString " " ++ tx [c])) ⟨rfl, .nil⟩ ?_ ?_
  · intro j v I3 oI3 C3 oC3 D3 m₃ ys nx h7 tk7 E7 hj hv hx9
    first | (k_extra "xq2"; clear hx9; intro eq9; subst eq9; intro hys) | obtain ⟨rfl, hys⟩ := hx9
    intro hC3 hx3 F7 N7 off3 ne3
    have hx9 := sign_at hv
    first | (k_extra "xe2"; clear hx9; intro t9 eq9; subst eq9) | obtain ⟨t9, rfl⟩ := hx9
    with_reducible show PySem.wpAny _ _ _ _ _ _
    k_fold
    try dsimp only
    k_extra "kd"
    refine LCg.CompEnd.intro F7 N7 _ (fun _ hp => hp) off3 trivial ⟨rfl, ?_⟩
    rw [take_snocN hj, List.map_append]
    exact kct_snoc hys
  · intro ys nx hx9
    first | (k_extra "xq2"; clear hx9; intro eq9; subst eq9; intro hys) | obtain ⟨rfl, hys⟩ := hx9
    rw [List.take_length] at hys
    intro D9 h9 tk9 F9 N9 o9
    dsimp only
    repeat' ((fail_if_success (with_reducible show PySem.wpAny _ _ (call (.builtin "str.join") _) _ _ _)); k_extra "ks1"; try dsimp only)
    refine join_list (items := ys.toArray) ⟨_, (N9 _ (.head _)).1, rfl, _, rfl⟩ (by show StrsAre ys _; exact hys) (join_bnd2 _ (by rw [List.length_reverse]; k_extra "li")) ?_
    intro t9 k9
    rw [lr_join hrb hrs]
    dsimp only
    have e9 : Txt.join (Str.ofString "") (tH.reverse.map fun c => Str.ofString " " ++ tx [c]) = Txt.join (Str.ofString "") (tH.reverse.map fun c => Str.ofString " " ++ tx [c]) := rfl
    replace N9 := News.perm N9 (news' := (63, tabObj ps1) :: (70, tabObj ps2') :: (x, lstObj 101 dx (refs lr).toArray ny) :: (dx, dictOf (isD w.params (tot % 4) ti1 ti2) nd) :: (Dt, listOf ut.toArray 4) :: (D4, listOf ul.toArray 0) :: (Dh, listOf uh.toArray 0) :: (L + 1 + 1 + 1 + 1 + 1 + 1 + 1, oL) :: (L + 1 + 1 + 1 + 1 + 1 + 1, o6) :: (L + 1 + 1 + 1 + 1 + 1, o5) :: (L + 1 + 1 + 1 + 1, o4) :: (L + 1 + 1 + 1, o3) :: (L + 1 + 1, o2) :: (L + 1, o1) :: (tups lr ++ (own1 ++ own2) ++ [(I, oI)])) (by k_extra "psub")
    have e4 : (tot : Int).fmod 4 = ((tot % 4 : Nat) : Int) := by
      rw [Int.fmod_eq_emod_of_nonneg _ (by decide)]; k_extra "li"
    repeat' ((fail_if_success (with_reducible show PySem.wpAny _ _ (call (.ref 68) _) _ _ _)); k_extra "ks1"; try dsimp only)
    · rename_i e8
      simp at e8
    have hnt3 : NoTab 63 ((70, tabObj ps2') :: (Dt, listOf ut.toArray 4) :: (D4, listOf ul.toArray 0) :: (Dh, listOf uh.toArray 0) :: (L + 1 + 1 + 1 + 1 + 1 + 1 + 1, oL) :: (L + 1 + 1 + 1 + 1 + 1 + 1, o6) :: (L + 1 + 1 + 1 + 1 + 1, o5) :: (L + 1 + 1 + 1 + 1, o4) :: (L + 1 + 1 + 1, o3) :: (L + 1 + 1, o2) :: (L + 1, o1) :: ((own1 ++ own2) ++ [(I, oI)])) := by
      have hf := hTb.offs
      repeat' (first | exact List.forall_mem_nil _ | refine List.forall_mem_append.mpr ⟨?_, ?_⟩ | refine List.forall_mem_cons.mpr ⟨?_, ?_⟩)
      all_goals first
        | exact nt_addr (by decide)
        | exact .inl (fun e => by cases e)
        | exact .inr (Nat.ne_of_gt (by k_extra "li"))
        | exact .inl (by rw [hIc]; exact fun e => by cases e)
        | exact fun p hp => .inr (Ne.symm (hf p (List.mem_append_left _ hp) (63, tabObj #[]) (by k_mem)))
        | exact fun p hp => .inr (Ne.symm (hf p (List.mem_append_right _ hp) (63, tabObj #[]) (by k_mem)))
    (with_reducible rename News _ _ _ _ => N7)
    replace N7 := News.perm N7 (news' := (63, tabObj ps1) :: (x, lstObj 101 dx (refs lr).toArray ny) :: (dx, dictOf (isD w.params (tot % 4) ti1 ti2) nd) :: (tups lr ++ ((70, tabObj ps2') :: (Dt, listOf ut.toArray 4) :: (D4, listOf ul.toArray 0) :: (Dh, listOf uh.toArray 0) :: (L + 1 + 1 + 1 + 1 + 1 + 1 + 1, oL) :: (L + 1 + 1 + 1 + 1 + 1 + 1, o6) :: (L + 1 + 1 + 1 + 1 + 1, o5) :: (L + 1 + 1 + 1 + 1, o4) :: (L + 1 + 1 + 1, o3) :: (L + 1 + 1, o2) :: (L + 1, o1) :: ((own1 ++ own2) ++ [(I, oI)])))) (by k_extra "psub")
    (k_dflt (refine' ClG.use (len_c _ _ _ _ _ ((70, tabObj ps2') :: (Dt, listOf ut.toArray 4) :: (D4, listOf ul.toArray 0) :: (Dh, listOf uh.toArray 0) :: (L + 1 + 1 + 1 + 1 + 1 + 1 + 1, oL) :: (L + 1 + 1 + 1 + 1 + 1 + 1, o6) :: (L + 1 + 1 + 1 + 1 + 1, o5) :: (L + 1 + 1 + 1 + 1, o4) :: (L + 1 + 1 + 1, o3) :: (L + 1 + 1, o2) :: (L + 1, o1) :: ((own1 ++ own2) ++ [(I, oI)])) ps1 x dx lr ny (tot % 4) ti1 ti2 nd ?q1 hbs ht1 hnt3) ?k0 ?kg ?k1 ?k2 ?k3 ?k4 ?k5 ?kK ?kd ?ku ?_; (case k0 => exact k3); (case kg => exact G6'); (case k1 => k_asm); (case k2 => k_asm); (case k3 => k_asm); (case k4 => k_asm); (case k5 => k_asm); (case kK => first | exact rfl | assumption); (case kd => first | ktr_room | k_extra "li"); (case ku => first | ktr_units | k_extra "li")))
    case q1 => k_extra "li"
    intro r nx8 hx9
    first | (k_extra "xq5"; clear hx9; intro h8 g8 d8' tk8 o8') | obtain ⟨h8, g8, d8', tk8, o8'⟩ := hx9
    intro F8' N8' G8' os8' hx9
    first | (k_extra "xq4"; clear hx9; intro hx9; (first | (k_extra "xq2"; clear hx9; intro t8 eq9; subst eq9) | obtain ⟨t8, rfl⟩ := hx9); intro ps1' htr1 eq9; subst eq9) | obtain ⟨⟨t8, rfl⟩, ps1', htr1, rfl⟩ := hx9
    try dsimp only at F8' N8' G8' os8'
    rw [lr_sum hrb hrs, show tH.reverse.length = cnt from by rw [List.length_reverse]; exact hlH]
    replace N8' := News.perm N8' (news' := (63, tabObj ps1') :: (70, tabObj ps2') :: (x, lstObj 101 dx (refs lr).toArray ny) :: (dx, dictOf (isD w.params (tot % 4) ti1 ti2) nd) :: (Dt, listOf ut.toArray 4) :: (D4, listOf ul.toArray 0) :: (Dh, listOf uh.toArray 0) :: (L + 1 + 1 + 1 + 1 + 1 + 1 + 1, oL) :: (L + 1 + 1 + 1 + 1 + 1 + 1, o6) :: (L + 1 + 1 + 1 + 1 + 1, o5) :: (L + 1 + 1 + 1 + 1, o4) :: (L + 1 + 1 + 1, o3) :: (L + 1 + 1, o2) :: (L + 1, o1) :: (tups lr ++ (own1 ++ own2) ++ [(I, oI)])) (by k_extra "psub")
    dsimp only [PySem.W.LenBack]
    have e5 : ((tot % 4 + 2 * cnt : Nat) : Int) = (tot : Int).fmod 4 + 2 * (cnt : Int) := by
      rw [e4]; k_extra "li"
    have hlen : (refs lr).length = cnt := by rw [refs, List.length_map]; exact hlr
    repeat' ((fail_if_success (with_reducible show PySem.wpAny _ _ (call (.ref 53) _) _ _ _)); k_extra "ks1"; try dsimp only)
    · exact absurd e5 (by assumption)
    have hna : NoAcc x ((63, tabObj ps1') :: (70, tabObj ps2') :: (Dt, listOf ut.toArray 4) :: (D4, listOf ul.toArray 0) :: (Dh, listOf uh.toArray 0) :: (L + 1 + 1 + 1 + 1 + 1 + 1 + 1, oL) :: (L + 1 + 1 + 1 + 1 + 1 + 1, o6) :: (L + 1 + 1 + 1 + 1 + 1, o5) :: (L + 1 + 1 + 1 + 1, o4) :: (L + 1 + 1 + 1, o3) :: (L + 1 + 1, o2) :: (L + 1, o1) :: (tups lr ++ (own1 ++ own2) ++ [(I, oI)])) := apart_acc N8' (by k_mem) (by k_extra "psub") (by
      have a1 := hTb.1
      have a2 := hTb.2.1
      k_extra "na_all")
    (with_reducible rename News _ _ _ _ => N7)
    replace N7 := News.perm N7 (news' := (x, lstObj 101 dx (refs lr).toArray ny) :: (dx, dictOf (isD w.params (tot % 4) ti1 ti2) nd) :: (63, tabObj ps1') :: (70, tabObj ps2') :: (Dt, listOf ut.toArray 4) :: (D4, listOf ul.toArray 0) :: (Dh, listOf uh.toArray 0) :: (L + 1 + 1 + 1 + 1 + 1 + 1 + 1, oL) :: (L + 1 + 1 + 1 + 1 + 1 + 1, o6) :: (L + 1 + 1 + 1 + 1 + 1, o5) :: (L + 1 + 1 + 1 + 1, o4) :: (L + 1 + 1 + 1, o3) :: (L + 1 + 1, o2) :: (L + 1, o1) :: (tups lr ++ (own1 ++ own2) ++ [(I, oI)])) (by k_extra "psub")
    (k_dflt (refine' Cl.use (pf_c _ _ _ _ _ ((63, tabObj ps1') :: (70, tabObj ps2') :: (Dt, listOf ut.toArray 4) :: (D4, listOf ul.toArray 0) :: (Dh, listOf uh.toArray 0) :: (L + 1 + 1 + 1 + 1 + 1 + 1 + 1, oL) :: (L + 1 + 1 + 1 + 1 + 1 + 1, o6) :: (L + 1 + 1 + 1 + 1 + 1, o5) :: (L + 1 + 1 + 1 + 1, o4) :: (L + 1 + 1 + 1, o3) :: (L + 1 + 1, o2) :: (L + 1, o1) :: (tups lr ++ (own1 ++ own2) ++ [(I, oI)])) x dx (refs lr) ny (isD w.params (tot % 4) ti1 ti2) nd cnt _ ?q1 ?q2 ?q3) ?k1 ?k2 ?k3 ?k4 ?k5 ?kK ?kd ?ku ?_; k_extra "cl_use"))
    case q1 => k_extra "li"
    case q2 => k_extra "li"
    case q3 => exact hna
    intro r nx9 h9' tk9' F9' N9' hx9
    first | (k_extra "xq4"; clear hx9; intro D k eq9; subst eq9; intro eq9; subst eq9) | obtain ⟨D, k, rfl, rfl⟩ := hx9
    rw [List.drop_of_length_le (by k_extra "li"), List.take_of_length_le (by k_extra "li")] at N9'
    dsimp only
    k_extra "kd"
    exact hN _ _ _ _ (G8') (os8'.trans (os6'.trans os11)) _ ps1' ps2' k htr1 htr2 (by k_extra "lo") (News.perm (by assumption) (by k_extra "psub"))
end
section
theorem lb11 {w : World} {loose : List Str} {mean : ExcName → Option Value} {mg mb : Str → Option Value} {g : Heap} (L : Addr) (fa : Addr) (cd : Value) (l : Addr) (vs : List Value) (ns : List Int) (C : LawCtx w loose mean mg mb g L l vs ns) (c1 : Obj) (c2 : Obj) (c3 : Obj) (c4 : Obj) (c5 : Obj) (c6 : Obj) (c7 : Obj) (d1 : c1.data = .cell none) (d2 : c2.data = .cell none) (d3 : c3.data = .cell none) (d4 : c4.data = .cell none) (d5 : c5.data = .cell none) (d6 : c6.data = .cell none) (d7 : c7.data = .cell none) (tot : Nat) (t1 : Tok) (o1 : Obj) (htot : (tot : Int) = (ns.map fun k => k.fmod (10 ^ Int.toNat 6)).sum) (e1 : o1.data = .cell (some (.int (tot : Int) t1))) (a : Int) (b : Int) (c : Int) (ta : Tok) (tb : Tok) (tc : Tok) (o2 : Obj) (e3 : (ns ++ [7, 10, 5]).take 3 = [a, b, c]) (e2 : o2.data = .cell (some (.int (smod c) tc))) (cnt : Nat) (tc2 : Tok) (hc1 : 3 ≤ cnt) (hc2 : cnt ≤ 5) (hcnt : (cnt : Int) = 3 + (smod b).fmod 3) (D4 : Addr) (ul : List Value) (o3 : Obj) (hD4 : @LT.lt Nat _ (L + 1 + 1 + 1 + 1 + 1 + 1 + 1) D4) (hul : IntsAre ul ((lapsL cnt).map fun (x : Nat) => (x : Int))) (e3' : o3.data = .cell (some (.ref D4))) (stp : Nat) (ts : Tok) (o4 : Obj) (hstp : stp ∈ [1, 3, 5, 7, 9, 11, 15, 17]) (e4 : o4.data = .cell (some (.int (stp : Int) ts))) (fs : List Nat) (tf : Tok) (o5 : Obj) (hfl : fs.length = cnt) (hfltr : (∀ c ∈ fs, Ltr c)) (hfnd : (fs.map lo).Nodup) (e5 : o5.data = .cell (some (.str (tx fs) tf))) (hr : Int) (th : Tok) (hhr1 : -4000000000 ≤ hr) (hhr2 : hr ≤ 4000000000) (Dh : Addr) (uh : List Value) (way : Int) (hDh : @LT.lt Nat _ (L + 1 + 1 + 1 + 1 + 1 + 1 + 1) Dh) (huh : IntsAre uh (hoursL hr way)) (Dt : Addr) (ut : List Value) (own1 : CbLed) (own2 : CbLed) (hut : StrsAre ut (((hoursL hr way).map (toldOf fs)).map tx)) (hTb : TbsM own1 own2 [(D4, listOf ul.toArray 0), (Dh, listOf uh.toArray 0), (L + 1 + 1 + 1 + 1 + 1 + 1 + 1, c7), (L + 1 + 1 + 1 + 1 + 1 + 1, c6), (L + 1 + 1 + 1 + 1 + 1, o5), (L + 1 + 1 + 1 + 1, o4), (L + 1 + 1 + 1, o3), (L + 1 + 1, o2), (L + 1, o1), (63, tabObj #[]), (70, tabObj #[])]) (hDt7 : @Ne Nat (L + 1 + 1 + 1 + 1 + 1 + 1 + 1) Dt) (hDt6 : @Ne Nat (L + 1 + 1 + 1 + 1 + 1 + 1) Dt) (x : Addr) (dx : Addr) (n : Nat) (nd : Nat) (ti1 : Tok) (ti2 : Tok) (o6 : Obj) (e6 : o6.data = .cell (some (.ref x))) (lp : List Pr) (n2 : Nat) (hlpb : lp.map Pr.b = List.replicate cnt (Str.ofString " ")) (hlps : lp.map Pr.s = ((toldOf fs ((hoursL hr way).getD 0 0)).reverse.map fun c => tx [c])) :
    Blk w g L fa cd (lawStmt 11) [("told", .ref Dt), ("hours", .ref Dh), ("count", .int (cnt : Int) tc2)] ((63, tabObj #[]) :: (70, tabObj #[]) :: (x, lstObj 101 dx (refs lp).toArray n2) :: (dx, dictOf (isD w.params (tot % 4) ti1 ti2) nd) :: (Dt, listOf ut.toArray 4) :: (D4, listOf ul.toArray 0) :: (Dh, listOf uh.toArray 0) :: (L + 1 + 1 + 1 + 1 + 1 + 1 + 1, c7) :: (L + 1 + 1 + 1 + 1 + 1 + 1, o6) :: (L + 1 + 1 + 1 + 1 + 1, o5) :: (L + 1 + 1 + 1 + 1, o4) :: (L + 1 + 1 + 1, o3) :: (L + 1 + 1, o2) :: (L + 1, o1) :: (tups lp ++ (own1 ++ own2)))
      (fun R => ∀ (h : Heap) (lp : List Pr) (n : Nat) (ps1 ps2 : Array Value) (o7 : Obj) (v7 : Option Value), o7.data = .cell v7 → TriplesOk ps1.toList → TriplesOk ps2.toList → lp.map Pr.b = List.replicate cnt (Str.ofString " ") → lp.map Pr.s = ((toldOf fs ((hoursL hr way).getD 3 0)).reverse.map fun c => tx [c]) → Loc g L h [("told", .ref Dt), ("hours", .ref Dh), ("count", .int (cnt : Int) tc2)] → News g L h ((63, tabObj ps1) :: (70, tabObj ps2) :: (x, lstObj 101 dx (refs lp).toArray n) :: (dx, dictOf (isD w.params (tot % 4) ti1 ti2) nd) :: (Dt, listOf ut.toArray 4) :: (D4, listOf ul.toArray 0) :: (Dh, listOf uh.toArray 0) :: (L + 1 + 1 + 1 + 1 + 1 + 1 + 1, o7) :: (L + 1 + 1 + 1 + 1 + 1 + 1, o6) :: (L + 1 + 1 + 1 + 1 + 1, o5) :: (L + 1 + 1 + 1 + 1, o4) :: (L + 1 + 1 + 1, o3) :: (L + 1 + 1, o2) :: (L + 1, o1) :: (tups lp ++ (own1 ++ own2))) → R h) := by
  have X := C.X
  have T := C.T
  have B := C.B
  have k1 := C.k1
  have k2 := C.k2
  have k3 := C.k3
  have k4 := C.k4
  have hI := C.hI
  have lifted := C.lifted
  have hns := C.hns
  have l0 := C.l0
  have kcd : CdH g := ⟨k2, k1⟩
  refine blk_mk (show lawStmt 11 = _ from (by conv => lhs; whnf)) ?_
  intro h0 gg dr tk oo Q G ⟨r12, F12⟩ N12 hN
  have k5 := G
  have G12 := G
  have Os12 : oo = oo := rfl
  have htl4 : ((hoursL hr way).map (toldOf fs)).length = 4 := by rw [List.length_map, hoursL_len]
  have hhl4 := hoursL_len hr way
  have htlg : ∀ i, i < 4 → ((hoursL hr way).map (toldOf fs)).getD i [] = toldOf fs ((hoursL hr way).getD i 0) := fun i hi => tl_get (by rw [hoursL_len]; exact hi)
  rw [← htlg 0 (by k_extra "li")] at hlps
  generalize htl : (hoursL hr way).map (toldOf fs) = tl at *
  generalize hhs : hoursL hr way = hs at *
  refine forRG g 3 (fun i m nx => ∃ (lp : List Pr) (n : Nat) (ps1 ps2 : Array Value) (o7 : Obj) (v7 : Option Value), nx = (63, tabObj ps1) :: (70, tabObj ps2) :: (x, lstObj 101 dx (refs lp).toArray n) :: (dx, dictOf (isD w.params (tot % 4) ti1 ti2) nd) :: (Dt, listOf ut.toArray 4) :: (D4, listOf ul.toArray 0) :: (Dh, listOf uh.toArray 0) :: (L + 1 + 1 + 1 + 1 + 1 + 1 + 1, o7) :: (L + 1 + 1 + 1 + 1 + 1 + 1, o6) :: (L + 1 + 1 + 1 + 1 + 1, o5) :: (L + 1 + 1 + 1 + 1, o4) :: (L + 1 + 1 + 1, o3) :: (L + 1 + 1, o2) :: (L + 1, o1) :: (tups lp ++ (own1 ++ own2)) ∧ o7.data = .cell v7 ∧ TriplesOk ps1.toList ∧ TriplesOk ps2.toList ∧ lp.map Pr.b = List.replicate cnt (Str.ofString " ") ∧ lp.map Pr.s = ((tl.getD i []).reverse.map fun c => tx [c]) ∧ (∀ p ∈ ([("told", .ref Dt), ("hours", .ref Dh), ("count", .int (cnt : Int) tc2)] : List (Str × Value)), m p.1 = some p.2)) (by rfl) (by rfl) ?_ (by intro _; rfl)
  repeat' ((fail_if_success (show RGat ..)); k_extra "ks1"; try dsimp only)
  (with_reducible rename Fr _ _ _ _ => F12')
  (with_reducible rename News _ _ _ _ => N12')
  refine ⟨_, _, _, _, _, _, _, rfl, rfl, by assumption, rfl, by k_extra "li", F12', N12', G12, ⟨lp, n2, #[], #[], c7, none, rfl, d7, trivial, trivial, hlpb, hlps, ?_⟩, ?_, ?_⟩
  · k_extra "kn_all"
  · intro i ti m₁ nx₁ hx9
    first | (k_extra "xq5"; clear hx9; intro h₂ gg2 dr2 tk0 oo2) | obtain ⟨h₂, gg2, dr2, tk0, oo2⟩ := hx9
    intro I oI hi hJ os2 G2 F2 N2 hIc hoff
    dsimp only at os2 G2 F2 N2
    first | (revert hJ; intro hx9; k_extra "xe13"; clear hx9; intro lq nq ps1 ps2 o7 v7 eq9; subst eq9; intro ho7 ht1 ht2 hb hs9 hm) | obtain ⟨lq, nq, ps1, ps2, o7, v7, rfl, ho7, ht1, ht2, hb, hs9, hm⟩ := hJ
    have hx9 := locS F2 hm
    first | (k_extra "xe2"; clear hx9; intro r2 F2') | obtain ⟨r2, F2'⟩ := hx9
    replace F2 : Fr g L h₂ _ := F2'
    clear F2' hm
    replace os2 : oo2 = oo := os2.trans Os12
    have hof7 := hTb.offs
    have hI7 : @Ne Nat I (L + 1 + 1 + 1 + 1 + 1 + 1 + 1) := fun e => hoff (L + 1 + 1 + 1 + 1 + 1 + 1 + 1, o7) (by k_mem) e.symm
    have hx7 : @Ne Nat x (L + 1 + 1 + 1 + 1 + 1 + 1 + 1) := ne_cell N2 (o := lstObj 101 dx (refs lq).toArray nq) (by k_mem) (b := L + 1 + 1 + 1 + 1 + 1 + 1 + 1) (oc := o7) (by k_mem) ho7 (fun v e => by cases e)
    have hdx7 : @Ne Nat dx (L + 1 + 1 + 1 + 1 + 1 + 1 + 1) := ne_cell N2 (o := dictOf (isD w.params (tot % 4) ti1 ti2) nd) (by k_mem) (b := L + 1 + 1 + 1 + 1 + 1 + 1 + 1) (oc := o7) (by k_mem) ho7 (fun v e => by cases e)
    have hown17 : ∀ p ∈ own1, p.1 ≠ L + 1 + 1 + 1 + 1 + 1 + 1 + 1 := fun p hp => Ne.symm (hof7 p (List.mem_append_left _ hp) (L + 1 + 1 + 1 + 1 + 1 + 1 + 1, c7) (by k_mem))
    have hown27 : ∀ p ∈ own2, p.1 ≠ L + 1 + 1 + 1 + 1 + 1 + 1 + 1 := fun p hp => Ne.symm (hof7 p (List.mem_append_right _ hp) (L + 1 + 1 + 1 + 1 + 1 + 1 + 1, c7) (by k_mem))
    have htup7 : ∀ p ∈ tups lq, p.1 ≠ L + 1 + 1 + 1 + 1 + 1 + 1 + 1 := tups_ne (oc := o7) N2 (fun p hp => by k_extra "sbm") (by k_mem) ho7
    skip
    have hx9 := turn_ok (hr := hr) (way := way) (i := i) hfl hc1 hc2 hfltr hfnd hi
    first | (k_extra "xe2"; clear hx9; intro K hK) | obtain ⟨K, hK⟩ := hx9
    rw [hhs, ← htlg i (by k_extra "li"), ← htlg (i + 1) (by k_extra "li")] at hK
    generalize htB : tl.getD i [] = tB at *
    generalize htH : tl.getD (i + 1) [] = tH at *
    replace N2 : News g L h₂ ((63, tabObj ps1) :: (70, tabObj ps2) :: (x, lstObj 101 dx (refs lq).toArray nq) :: (dx, dictOf (isD w.params (tot % 4) ti1 ti2) nd) :: (Dt, listOf ut.toArray 4) :: (D4, listOf ul.toArray 0) :: (Dh, listOf uh.toArray 0) :: (L + 1 + 1 + 1 + 1 + 1 + 1 + 1, o7) :: (L + 1 + 1 + 1 + 1 + 1 + 1, o6) :: (L + 1 + 1 + 1 + 1 + 1, o5) :: (L + 1 + 1 + 1 + 1, o4) :: (L + 1 + 1 + 1, o3) :: (L + 1 + 1, o2) :: (L + 1, o1) :: (tups lq ++ (own1 ++ own2) ++ [(I, oI)])) := News.perm N2 (by k_extra "psub")
    refine blk_cons (lt0 L fa cd l vs ns C tot o1 b o2 cnt tc2 D4 ul o3 o4 fs o5 hr Dh uh Dt ut own1 own2 x dx nd ti1 ti2 o6 tl hs hut htl4 i ti I oI hi lq nq ps1 ps2 o7 tB tH htB htH) G2 ⟨r2, F2⟩ N2 ?_
    intro gg0 dd0 tk0 G3 hh0 ka kb F3 N3
    clear F2 N2
    refine blk_cons (lt1 L fa cd l vs ns C tot o1 b o2 cnt tc2 D4 ul o3 hD4 o4 fs o5 hr Dh uh hDh Dt ut own1 own2 hDt7 x dx nd ti1 ti2 o6 tl hs huh hhl4 i ti I oI hi lq nq ps1 ps2 o7 v7 ho7 tB tH hI7 hx7 hdx7 hown17 hown27 htup7 ka kb) G3 F3 N3 ?_
    intro gg1 dd1 tk1 G4 hh1 tv oL hoL F4 N4
    clear F3 N3
    refine blk_cons (lt2 L fa cd l vs ns C tot o1 b o2 cnt tc2 hc2 D4 ul o3 o4 fs o5 hr Dh uh Dt ut own1 own2 x dx nd ti1 ti2 o6 tl hs i ti I oI lq nq ps1 ps2 K tB tH hK ka kb oL) G4 F4 N4 ?_
    intro gg2 dd2 tk2 G5 hh2 tf3 F5 N5
    clear F4 N4
    refine blk_cons (lt3 L fa cd l vs ns C tot o1 o2 cnt tc2 D4 ul o3 o4 o5 Dh uh Dt ut own1 own2 x dx nd ti1 ti2 o6 hs i ti I oI lq nq ps1 ps2 K tB tH hK ka kb oL tf3) G5 F5 N5 ?_
    intro gg3 dd3 tk3 G6 hh3 tz F6 N6
    clear F5 N5
    refine blk_cons (lt4 L fa cd l vs ns C tot o1 b o2 cnt tc2 D4 ul o3 o4 fs o5 hr Dh uh Dt ut own1 own2 x dx nd ti1 ti2 o6 tl hs i ti I oI lq nq ps1 ps2 K tB tH ka kb oL tf3 tz) G6 F6 N6 ?_
    intro gg4 dd4 tk4 G7 hh4 F7 N7
    clear F6 N6
    refine blk_cons (lt5 L fa cd l vs ns C tot o1 b o2 cnt tc2 hc1 hc2 hcnt D4 ul o3 hul e3' o4 fs o5 hfl hr Dh uh Dt ut own1 own2 x dx nd ti1 ti2 o6 tl hs i ti I oI lq nq ps1 ps2 K tB tH hK ka kb tv oL hoL tf3 tz) G7 F7 N7 ?_
    intro gg5 dd5 tk5 G8 hh5 F8 N8
    clear F7 N7
    refine blk_cons (lt6 L fa cd l vs ns C tot o1 b o2 cnt tc2 hc2 D4 ul o3 o4 fs o5 hr Dh uh Dt ut own1 own2 x dx nd ti1 ti2 o6 tl hs i ti I oI lq nq ps1 ps2 K tB tH hK ka kb oL tf3 tz) G8 F8 N8 ?_
    intro gg6 dd6 tk6 G9 hh6 F9 N9
    clear F8 N8
    refine blk_cons (lt7 L fa cd l vs ns C c6 c7 tot t1 o1 e1 b c tc o2 e2 cnt tc2 hc1 hc2 D4 ul o3 e3' stp ts o4 e4 fs tf o5 e5 hr Dh uh Dt ut own1 own2 hTb x dx nd ti1 ti2 o6 e6 tl hs i ti I oI hIc lq nq ps1 ps2 K tB tH hK hb ka kb tv oL hoL tf3 tz) G9 F9 N9 ?_
    intro gg7 dd7 tk7 G10 hh7 Dk nz la lb hlq hl2 F10 N10
    clear F9 N9
    refine blk_cons (lt8 L fa cd l vs ns C c6 c7 tot t1 o1 e1 b c tc o2 e2 cnt tc2 hc2 D4 ul o3 e3' stp ts o4 e4 fs tf o5 e5 hr Dh uh Dt ut own1 own2 hTb x dx nd ti1 ti2 o6 e6 tl hs i ti I oI hIc lq ps1 ps2 K tB tH hK hb hs9 ka kb tv oL hoL tf3 tz Dk nz la lb hlq hl2) G10 F10 N10 ?_
    intro gg8 dd8 tk8 G11 hh8 lr ny hrb hrs F11 N11
    clear F10 N10
    refine blk_cons (lt9 L fa cd l vs ns C c6 c7 tot t1 o1 htot e1 b c tc o2 e2 cnt tc2 hc1 hc2 hcnt D4 ul o3 e3' stp ts o4 e4 fs tf o5 hfl e5 hr Dh uh Dt ut own1 own2 hTb x dx nd ti1 ti2 o6 e6 tl hs i ti I oI hIc ps1 ps2 ht1 ht2 K tB tH hK ka kb tv oL hoL tf3 tz lb lr ny hrb hrs) G11 F11 N11 ?_
    intro gg9 dd9 tk9 G15 hh9 ps3 ps4 nw ht3 ht4 F15 N15
    clear F11 N11
    first | (revert F15; intro hx9; k_extra "xe2"; clear hx9; intro r15 F15) | obtain ⟨r15, F15⟩ := F15
    refine wpAny_execs_nil ?_
    have htI : ∀ p ∈ tups lr, p.1 ≠ I := tups_neC N15 (fun p hp => by k_extra "sbm") (b := I) (oc := oI) (by simp) (by rw [hIc]; exact fun e => absurd (Value.type.inj e) (by decide))
    refine ⟨_, (63, tabObj ps3) :: (70, tabObj ps4) :: (x, lstObj 101 dx (refs lr).toArray nw) :: (dx, dictOf (isD w.params (tot % 4) ti1 ti2) nd) :: (Dt, listOf ut.toArray 4) :: (D4, listOf ul.toArray 0) :: (Dh, listOf uh.toArray 0) :: (L + 1 + 1 + 1 + 1 + 1 + 1 + 1, oL) :: (L + 1 + 1 + 1 + 1 + 1 + 1, o6) :: (L + 1 + 1 + 1 + 1 + 1, o5) :: (L + 1 + 1 + 1 + 1, o4) :: (L + 1 + 1 + 1, o3) :: (L + 1 + 1, o2) :: (L + 1, o1) :: (tups lr ++ (own1 ++ own2)), F15, News.perm N15 (by k_extra "psub"), ?_, G15, os2, lr, nw, ps3, ps4, oL, _, rfl, hoL, ht3, ht4, hrb, ?_, ?_⟩
    · repeat' (first | exact List.forall_mem_nil _ | refine List.forall_mem_append.mpr ⟨?_, ?_⟩ | refine List.forall_mem_cons.mpr ⟨?_, ?_⟩)
      all_goals first | exact htI | exact hoff (63, tabObj ps1) (by k_mem) | exact hoff (70, tabObj ps2) (by k_mem) | exact hoff (x, lstObj 101 dx (refs lq).toArray nq) (by k_mem) | exact hoff (L + 1 + 1 + 1 + 1 + 1 + 1 + 1, o7) (by k_mem) | exact hoff (_, _) (by k_mem) | exact fun q hq => hoff q (by k_extra "sbm")
    · rw [htH]; exact hrs
    · k_extra "kn_all"
  · intro m₁ nx₁ hx9
    first | (k_extra "xq5"; clear hx9; intro h5 g5 dr5 tk5 oo5) | obtain ⟨h5, g5, dr5, tk5, oo5⟩ := hx9
    intro hx9
    first | (k_extra "xq13"; clear hx9; intro lq nq ps1 ps2 o7 v7 eq9; subst eq9; intro ho7 ht1 ht2 hb hs9 hm) | obtain ⟨lq, nq, ps1, ps2, o7, v7, rfl, ho7, ht1, ht2, hb, hs9, hm⟩ := hx9
    intro os5 G5 F5 N5
    dsimp only at os5 G5 F5 N5
    refine hN _ _ _ _ (G5) (os5.trans Os12) _ lq nq ps1 ps2 o7 v7 ho7 ht1 ht2 hb ?_ ⟨m₁, kn F5 hm⟩ N5
    rw [hs9, htlg 3 (by k_extra "li")]
end
section
theorem lb12 {w : World} {loose : List Str} {mean : ExcName → Option Value} {mg mb : Str → Option Value} {g : Heap} (L : Addr) (fa : Addr) (cd : Value) (l : Addr) (vs : List Value) (ns : List Int) (C : LawCtx w loose mean mg mb g L l vs ns) (c6 : Obj) (c7 : Obj) (tot : Nat) (t1 : Tok) (o1 : Obj) (e1 : o1.data = .cell (some (.int (tot : Int) t1))) (b : Int) (c : Int) (tc : Tok) (o2 : Obj) (e2 : o2.data = .cell (some (.int (smod c) tc))) (cnt : Nat) (tc2 : Tok) (hc1 : 3 ≤ cnt) (hc2 : cnt ≤ 5) (D4 : Addr) (ul : List Value) (o3 : Obj) (e3' : o3.data = .cell (some (.ref D4))) (stp : Nat) (ts : Tok) (o4 : Obj) (e4 : o4.data = .cell (some (.int (stp : Int) ts))) (fs : List Nat) (tf : Tok) (o5 : Obj) (e5 : o5.data = .cell (some (.str (tx fs) tf))) (hr : Int) (Dh : Addr) (uh : List Value) (Dt : Addr) (ut : List Value) (own1 : CbLed) (own2 : CbLed) (hTb : TbsM own1 own2 [(D4, listOf ul.toArray 0), (Dh, listOf uh.toArray 0), (L + 1 + 1 + 1 + 1 + 1 + 1 + 1, c7), (L + 1 + 1 + 1 + 1 + 1 + 1, c6), (L + 1 + 1 + 1 + 1 + 1, o5), (L + 1 + 1 + 1 + 1, o4), (L + 1 + 1 + 1, o3), (L + 1 + 1, o2), (L + 1, o1), (63, tabObj #[]), (70, tabObj #[])]) (x : Addr) (dx : Addr) (nd : Nat) (ti1 : Tok) (ti2 : Tok) (o6 : Obj) (e6 : o6.data = .cell (some (.ref x))) (lw : List Pr) (n3 : Nat) (ps1 : Array Value) (ps2 : Array Value) (o7 : Obj) (v7 : Option Value) (d7' : o7.data = .cell v7) (hlwb : lw.map Pr.b = List.replicate cnt (Str.ofString " ")) :
    Blk w g L fa cd (lawStmt 12) [("told", .ref Dt), ("hours", .ref Dh), ("count", .int (cnt : Int) tc2)] ((63, tabObj ps1) :: (70, tabObj ps2) :: (x, lstObj 101 dx (refs lw).toArray n3) :: (dx, dictOf (isD w.params (tot % 4) ti1 ti2) nd) :: (Dt, listOf ut.toArray 4) :: (D4, listOf ul.toArray 0) :: (Dh, listOf uh.toArray 0) :: (L + 1 + 1 + 1 + 1 + 1 + 1 + 1, o7) :: (L + 1 + 1 + 1 + 1 + 1 + 1, o6) :: (L + 1 + 1 + 1 + 1 + 1, o5) :: (L + 1 + 1 + 1 + 1, o4) :: (L + 1 + 1 + 1, o3) :: (L + 1 + 1, o2) :: (L + 1, o1) :: (tups lw ++ (own1 ++ own2)))
      (fun R => ∀ (h : Heap) (Dp : Addr) (np : Nat), Loc g L h [("popped", .ref Dp), ("told", .ref Dt), ("hours", .ref Dh), ("count", .int (cnt : Int) tc2)] → News g L h ((Dp, listOf (refs lw.reverse).toArray cnt) :: (63, tabObj ps1) :: (70, tabObj ps2) :: (x, lstObj 101 dx ([] : List Value).toArray np) :: (dx, dictOf (isD w.params (tot % 4) ti1 ti2) nd) :: (Dt, listOf ut.toArray 4) :: (D4, listOf ul.toArray 0) :: (Dh, listOf uh.toArray 0) :: (L + 1 + 1 + 1 + 1 + 1 + 1 + 1, o7) :: (L + 1 + 1 + 1 + 1 + 1 + 1, o6) :: (L + 1 + 1 + 1 + 1 + 1, o5) :: (L + 1 + 1 + 1 + 1, o4) :: (L + 1 + 1 + 1, o3) :: (L + 1 + 1, o2) :: (L + 1, o1) :: (tups lw ++ (own1 ++ own2))) → R h) := by
  have X := C.X
  have T := C.T
  have B := C.B
  have k1 := C.k1
  have k2 := C.k2
  have k3 := C.k3
  have k4 := C.k4
  have hI := C.hI
  have lifted := C.lifted
  have hns := C.hns
  have l0 := C.l0
  have kcd : CdH g := ⟨k2, k1⟩
  clear C
  refine blk_mk (show lawStmt 12 = _ from (by conv => lhs; whnf)) ?_
  intro h0 gg dr tk oo Q G ⟨r13, F13⟩ N13 hN
  have k5 := G
  have G13 := G
  have Os13 : oo = oo := rfl
  have hlw : lw.length = cnt := by rw [← List.length_map (f := Pr.b), hlwb, List.length_replicate]
  refine LCg.Assign_ListComp_U (F₀ := by k_asm) (by rfl) (by with_unfolding_all rfl) (by with_unfolding_all rfl) (by decide) (by rfl) (by decide) (by rfl) (by rfl) (by rfl) ?_
  repeat' ((fail_if_success (show LCg.CompSrc ..)); k_extra "ks1"; try dsimp only)
  refine LCg.CompSrc.range (n := cnt) (by rfl) (by k_asm) (by k_asm) (by assumption) (small_one (by k_extra "li") (by k_extra "li") (by k_extra "li") (by k_extra "li")) (by rw [rangeSize_one]; split <;> k_extra "li") (by rw [PySem.sizeLine_eq]; k_extra "li") ?_
  intro g'
  refine compL (fun j ys nx => ∃ n, nx = (63, tabObj ps1) :: (70, tabObj ps2) :: (x, lstObj 101 dx (refs (lw.take (cnt - j))).toArray n) :: (dx, dictOf (isD w.params (tot % 4) ti1 ti2) nd) :: (Dt, listOf ut.toArray 4) :: (D4, listOf ul.toArray 0) :: (Dh, listOf uh.toArray 0) :: (L + 1 + 1 + 1 + 1 + 1 + 1 + 1, o7) :: (L + 1 + 1 + 1 + 1 + 1 + 1, o6) :: (L + 1 + 1 + 1 + 1 + 1, o5) :: (L + 1 + 1 + 1 + 1, o4) :: (L + 1 + 1 + 1, o3) :: (L + 1 + 1, o2) :: (L + 1, o1) :: (tups lw ++ (own1 ++ own2)) ∧ ys = refs (lw.reverse.take j)) ⟨n3, by rw [Nat.sub_zero, List.take_of_length_le (by k_extra "li")], rfl⟩ ?_ ?_
  · intro j v I oI C oC D m₂ ys nx h tk E' hj hv hx9
    first | (k_extra "xq3"; clear hx9; intro n eq9; subst eq9; intro eq9; subst eq9) | obtain ⟨n, rfl, rfl⟩ := hx9
    intro hC hx F N off ne
    with_reducible show PySem.wpAny _ _ _ _ _ _
    k_fold
    try dsimp only
    repeat' ((fail_if_success (with_reducible show PySem.wpAny _ _ (call (.ref 61) _) _ _ _)); k_extra "ks1"; try dsimp only)
    rw [List.append_nil]
    have hrl : lw.reverse.length = cnt := by rw [List.length_reverse]; exact hlw
    obtain ⟨q, hq⟩ : ∃ q, lw[cnt - j - 1]? = some q := ⟨_, List.getElem?_eq_getElem (show cnt - j - 1 < lw.length by k_extra "li")⟩
    have e1 : lw.take (cnt - j) = lw.take (cnt - (j + 1)) ++ [q] := by
      rw [show cnt - j = (cnt - j - 1) + 1 from by k_extra "li", List.take_add_one, hq]
      rfl
    have e2 : lw.reverse.take (j + 1) = lw.reverse.take j ++ [q] := by
      rw [List.take_add_one, List.getElem?_reverse (by k_extra "li"), show lw.length - 1 - j = cnt - j - 1 from by k_extra "li", hq]
      rfl
    rw [e1, refs_snoc] at N
    have hna : NoAcc x ((63, tabObj ps1) :: (70, tabObj ps2) :: (Dt, listOf ut.toArray 4) :: (D4, listOf ul.toArray 0) :: (Dh, listOf uh.toArray 0) :: (L + 1 + 1 + 1 + 1 + 1 + 1 + 1, o7) :: (L + 1 + 1 + 1 + 1 + 1 + 1, o6) :: (L + 1 + 1 + 1 + 1 + 1, o5) :: (L + 1 + 1 + 1 + 1, o4) :: (L + 1 + 1 + 1, o3) :: (L + 1 + 1, o2) :: (L + 1, o1) :: (tups lw ++ (own1 ++ own2)) ++ [(I, oI), (C, oC), (D, LCg.lst (refs (lw.reverse.take j)))]) := by
      refine List.forall_mem_append.mpr ⟨apart_acc N (by k_mem) (by k_extra "psub") (by
        have a1 := hTb.1
        have a2 := hTb.2.1
        k_extra "na_all"), ?_⟩
      have hx3 := off.mem (x, lstObj 101 dx (refs (lw.take (cnt - j))).toArray n) (by k_mem)
      refine List.forall_mem_cons.mpr ⟨Ne.symm hx3.1, List.forall_mem_cons.mpr ⟨Ne.symm hx3.2.1, List.forall_mem_cons.mpr ⟨Ne.symm hx3.2.2, List.forall_mem_nil _⟩⟩⟩
    have N' := News.perm N (news' := (x, lstObj 101 dx (refs (lw.take (cnt - (j + 1))) ++ [Value.ref q.a]).toArray n) :: (dx, dictOf (isD w.params (tot % 4) ti1 ti2) nd) :: ((63, tabObj ps1) :: (70, tabObj ps2) :: (Dt, listOf ut.toArray 4) :: (D4, listOf ul.toArray 0) :: (Dh, listOf uh.toArray 0) :: (L + 1 + 1 + 1 + 1 + 1 + 1 + 1, o7) :: (L + 1 + 1 + 1 + 1 + 1 + 1, o6) :: (L + 1 + 1 + 1 + 1 + 1, o5) :: (L + 1 + 1 + 1 + 1, o4) :: (L + 1 + 1 + 1, o3) :: (L + 1 + 1, o2) :: (L + 1, o1) :: (tups lw ++ (own1 ++ own2)) ++ [(I, oI), (C, oC), (D, LCg.lst (refs (lw.reverse.take j)))])) (by k_extra "psub")
    clear N
    (k_dflt (refine' Cl.use (pop_c _ _ _ _ _ ((63, tabObj ps1) :: (70, tabObj ps2) :: (Dt, listOf ut.toArray 4) :: (D4, listOf ul.toArray 0) :: (Dh, listOf uh.toArray 0) :: (L + 1 + 1 + 1 + 1 + 1 + 1 + 1, o7) :: (L + 1 + 1 + 1 + 1 + 1 + 1, o6) :: (L + 1 + 1 + 1 + 1 + 1, o5) :: (L + 1 + 1 + 1 + 1, o4) :: (L + 1 + 1 + 1, o3) :: (L + 1 + 1, o2) :: (L + 1, o1) :: (tups lw ++ (own1 ++ own2)) ++ [(I, oI), (C, oC), (D, LCg.lst (refs (lw.reverse.take j)))]) x dx (refs (lw.take (cnt - (j + 1)))) (Value.ref q.a) n (isD w.params (tot % 4) ti1 ti2) nd ?q1 ?q2 ?q3) ?k1 ?k2 ?k3 ?k4 ?k5 ?kK ?kd ?ku ?_; k_extra "cl_use"))
    case q1 => rw [refs, List.length_map, List.length_take]; k_extra "li"
    case q2 => exact hna
    case q3 => rfl
    intro r nx5 h5 tk5 F5 N5 hx9
    first | (k_extra "xq3"; clear hx9; intro eq9; subst eq9; intro k eq9; subst eq9) | obtain ⟨rfl, k, rfl⟩ := hx9
    k_unfold
    dsimp only
    have hof3 := off.mem
    refine LCg.CompEnd.intro F5 N5 ((63, tabObj ps1) :: (70, tabObj ps2) :: (x, lstObj 101 dx (refs (lw.take (cnt - (j + 1)))).toArray k) :: (dx, dictOf (isD w.params (tot % 4) ti1 ti2) nd) :: (Dt, listOf ut.toArray 4) :: (D4, listOf ul.toArray 0) :: (Dh, listOf uh.toArray 0) :: (L + 1 + 1 + 1 + 1 + 1 + 1 + 1, o7) :: (L + 1 + 1 + 1 + 1 + 1 + 1, o6) :: (L + 1 + 1 + 1 + 1 + 1, o5) :: (L + 1 + 1 + 1 + 1, o4) :: (L + 1 + 1 + 1, o3) :: (L + 1 + 1, o2) :: (L + 1, o1) :: (tups lw ++ (own1 ++ own2))) (by k_extra "psub") ?_ trivial ⟨k, rfl, by rw [e2, refs_snoc]⟩
    refine LCg.Off3.of fun p hp => ?_
    simp only [List.mem_cons] at hp
    rcases hp with rfl | rfl | rfl | hp
    · exact hof3 (63, tabObj ps1) (by k_mem)
    · exact hof3 (70, tabObj ps2) (by k_mem)
    · exact hof3 (x, lstObj 101 dx (refs (lw.take (cnt - j))).toArray n) (by k_mem)
    · exact hof3 p (by simp only [List.mem_cons]; exact .inr (.inr (.inr hp)))
  · intro ys nx hx9
    first | (k_extra "xq3"; clear hx9; intro n eq9; subst eq9; intro eq9; subst eq9) | obtain ⟨n, rfl, rfl⟩ := hx9
    intro D h tk F N oD
    dsimp only
    rw [Nat.sub_self, List.take_zero, List.take_of_length_le (by rw [List.length_reverse]; k_extra "li")] at N
    have hly : (refs lw.reverse).length = cnt := by rw [refs, List.length_map, List.length_reverse]; exact hlw
    rw [show (LCg.lst (refs lw.reverse)) = listOf (refs lw.reverse).toArray cnt from by rw [← hly]] at N
    exact hN _ _ _ _ (G13) (Os13) _ D n (by k_extra "lo") N
end
section
theorem lb13 {w : World} {loose : List Str} {mean : ExcName → Option Value} {mg mb : Str → Option Value} {g : Heap} (L : Addr) (fa : Addr) (cd : Value) (l : Addr) (vs : List Value) (ns : List Int) (C : LawCtx w loose mean mg mb g L l vs ns) (c6 : Obj) (c7 : Obj) (tot : Nat) (t1 : Tok) (o1 : Obj) (htot : (tot : Int) = (ns.map fun k => k.fmod (10 ^ Int.toNat 6)).sum) (e1 : o1.data = .cell (some (.int (tot : Int) t1))) (b : Int) (c : Int) (tc : Tok) (o2 : Obj) (e2 : o2.data = .cell (some (.int (smod c) tc))) (cnt : Nat) (tc2 : Tok) (hc2 : cnt ≤ 5) (D4 : Addr) (ul : List Value) (o3 : Obj) (e3' : o3.data = .cell (some (.ref D4))) (stp : Nat) (ts : Tok) (o4 : Obj) (e4 : o4.data = .cell (some (.int (stp : Int) ts))) (fs : List Nat) (tf : Tok) (o5 : Obj) (hfl : fs.length = cnt) (hfltr : (∀ c ∈ fs, Ltr c)) (e5 : o5.data = .cell (some (.str (tx fs) tf))) (hr : Int) (Dh : Addr) (uh : List Value) (way : Int) (Dt : Addr) (ut : List Value) (own1 : CbLed) (own2 : CbLed) (hut : StrsAre ut (((hoursL hr way).map (toldOf fs)).map tx)) (hTb : TbsM own1 own2 [(D4, listOf ul.toArray 0), (Dh, listOf uh.toArray 0), (L + 1 + 1 + 1 + 1 + 1 + 1 + 1, c7), (L + 1 + 1 + 1 + 1 + 1 + 1, c6), (L + 1 + 1 + 1 + 1 + 1, o5), (L + 1 + 1 + 1 + 1, o4), (L + 1 + 1 + 1, o3), (L + 1 + 1, o2), (L + 1, o1), (63, tabObj #[]), (70, tabObj #[])]) (x : Addr) (dx : Addr) (nd : Nat) (ti1 : Tok) (ti2 : Tok) (o6 : Obj) (e6 : o6.data = .cell (some (.ref x))) (lw : List Pr) (ps1 : Array Value) (ps2 : Array Value) (o7 : Obj) (v7 : Option Value) (d7' : o7.data = .cell v7) (hps1 : TriplesOk ps1.toList) (hlwb : lw.map Pr.b = List.replicate cnt (Str.ofString " ")) (hlws : lw.map Pr.s = ((toldOf fs ((hoursL hr way).getD 3 0)).reverse.map fun c => tx [c])) (Dp : Addr) (np : Nat) :
    Blk w g L fa cd (lawStmt 13) [("popped", .ref Dp), ("told", .ref Dt), ("hours", .ref Dh), ("count", .int (cnt : Int) tc2)] ((Dp, listOf (refs lw.reverse).toArray cnt) :: (63, tabObj ps1) :: (70, tabObj ps2) :: (x, lstObj 101 dx ([] : List Value).toArray np) :: (dx, dictOf (isD w.params (tot % 4) ti1 ti2) nd) :: (Dt, listOf ut.toArray 4) :: (D4, listOf ul.toArray 0) :: (Dh, listOf uh.toArray 0) :: (L + 1 + 1 + 1 + 1 + 1 + 1 + 1, o7) :: (L + 1 + 1 + 1 + 1 + 1 + 1, o6) :: (L + 1 + 1 + 1 + 1 + 1, o5) :: (L + 1 + 1 + 1 + 1, o4) :: (L + 1 + 1 + 1, o3) :: (L + 1 + 1, o2) :: (L + 1, o1) :: (tups lw ++ (own1 ++ own2)))
      (fun R => ∀ (h : Heap) (ps3 : Array Value), TriplesOk ps3.toList → Loc g L h [("popped", .ref Dp), ("told", .ref Dt), ("hours", .ref Dh), ("count", .int (cnt : Int) tc2)] → News g L h ((Dp, listOf (refs lw.reverse).toArray cnt) :: (63, tabObj ps3) :: (70, tabObj ps2) :: (x, lstObj 101 dx ([] : List Value).toArray np) :: (dx, dictOf (isD w.params (tot % 4) ti1 ti2) nd) :: (Dt, listOf ut.toArray 4) :: (D4, listOf ul.toArray 0) :: (Dh, listOf uh.toArray 0) :: (L + 1 + 1 + 1 + 1 + 1 + 1 + 1, o7) :: (L + 1 + 1 + 1 + 1 + 1 + 1, o6) :: (L + 1 + 1 + 1 + 1 + 1, o5) :: (L + 1 + 1 + 1 + 1, o4) :: (L + 1 + 1 + 1, o3) :: (L + 1 + 1, o2) :: (L + 1, o1) :: (tups lw ++ (own1 ++ own2))) → R h) := by
  have X := C.X
  have T := C.T
  have B := C.B
  have k1 := C.k1
  have k2 := C.k2
  have k3 := C.k3
  have k4 := C.k4
  have hI := C.hI
  have lifted := C.lifted
  have hns := C.hns
  have l0 := C.l0
  have kcd : CdH g := ⟨k2, k1⟩
  clear C
  refine blk_mk (show lawStmt 13 = _ from (by conv => lhs; whnf)) ?_
  intro h0 gg dr tk oo Q G ⟨r14, F14⟩ N14 hN
  have k5 := G
  have G14 := G
  have Os14 : oo = oo := rfl
  have hlw : lw.length = cnt := by rw [← List.length_map (f := Pr.b), hlwb, List.length_replicate]
  repeat' ((fail_if_success (with_reducible show PySem.wpAny _ _ (eval (Expr.ListComp _ _ _ _) _) _ _ _)); k_extra "ks1"; try dsimp only)
  have hl3 := toldOf_len hfltr ((hoursL hr way).getD 3 0)
  have hr3 := toldOf_ltr hfltr ((hoursL hr way).getD 3 0)
  have htlg : ((hoursL hr way).map (toldOf fs)).getD 3 [] = toldOf fs ((hoursL hr way).getD 3 0) := tl_get (by rw [hoursL_len]; k_extra "li")
  have htl4 : ((hoursL hr way).map (toldOf fs)).length = 4 := by rw [List.length_map, hoursL_len]
  generalize toldOf fs ((hoursL hr way).getD 3 0) = tz at *
  generalize (hoursL hr way).map (toldOf fs) = tl at *
  refine ListComp_tx tz (F₀ := by k_asm) (by with_unfolding_all rfl) (by decide) (by rfl) (by decide) (by rfl) ?_ (by intro _; rfl)
  repeat' ((fail_if_success (with_reducible show PySem.wpAny _ _ (subscriptTail _ _ (.ref _) _) _ _ _)); (fail_if_success (with_reducible show Exists _)); k_extra "ks1"; try dsimp only)
  refine it_strs (k := 3) (tl := tl) N14 (D := Dt) (kk := 4) (us := ut) (by k_mem) hut (by k_extra "li") (by k_extra "li") ?_ (by with_unfolding_all rfl)
  intro t9
  rw [htlg]
  refine ⟨_, _, rfl, rfl, by k_asm, N14, ltr_128 hr3, by k_extra "li", ?_⟩
  intro g'
  refine compL (fun j ys nx => ∃ lz : List Pr, nx = (Dp, listOf (refs lw.reverse).toArray cnt) :: (63, tabObj ps1) :: (70, tabObj ps2) :: (x, lstObj 101 dx ([] : List Value).toArray np) :: (dx, dictOf (isD w.params (tot % 4) ti1 ti2) nd) :: (Dt, listOf ut.toArray 4) :: (D4, listOf ul.toArray 0) :: (Dh, listOf uh.toArray 0) :: (L + 1 + 1 + 1 + 1 + 1 + 1 + 1, o7) :: (L + 1 + 1 + 1 + 1 + 1 + 1, o6) :: (L + 1 + 1 + 1 + 1 + 1, o5) :: (L + 1 + 1 + 1 + 1, o4) :: (L + 1 + 1 + 1, o3) :: (L + 1 + 1, o2) :: (L + 1, o1) :: (tups lz ++ tups lw ++ (own1 ++ own2)) ∧ ys = refs lz ∧ lz.map Pr.b = List.replicate j (Str.ofString " ") ∧ lz.map Pr.s = (tz.take j).map fun c => tx [c]) ⟨[], by simp [tups], rfl, rfl, rfl⟩ ?_ ?_
  · intro j v I oI C oC D m₂ ys nx h tk E' hj hv hx9
    first | (k_extra "xq5"; clear hx9; intro lz eq9; subst eq9; intro eq9; subst eq9; intro hzb hzs) | obtain ⟨lz, rfl, rfl, hzb, hzs⟩ := hx9
    intro hC hx F N off ne
    have hx9 := sign_at hv
    first | (k_extra "xe2"; clear hx9; intro t8 eq9; subst eq9) | obtain ⟨t8, rfl⟩ := hx9
    with_reducible show PySem.wpAny _ _ _ _ _ _
    k_fold
    try dsimp only
    k_extra "kd"
    try k_unfold
    try dsimp only
    rename_i D7 h7 F7 N7 l7
    first | (revert l7; intro hx9; k_extra "xe4"; clear hx9; intro i1 i2 i3 i4) | obtain ⟨i1, i2, i3, i4⟩ := l7
    have hof3 := off.mem
    refine LCg.CompEnd.intro F7 N7 ((Dp, listOf (refs lw.reverse).toArray cnt) :: (63, tabObj ps1) :: (70, tabObj ps2) :: (x, lstObj 101 dx ([] : List Value).toArray np) :: (dx, dictOf (isD w.params (tot % 4) ti1 ti2) nd) :: (Dt, listOf ut.toArray 4) :: (D4, listOf ul.toArray 0) :: (Dh, listOf uh.toArray 0) :: (L + 1 + 1 + 1 + 1 + 1 + 1 + 1, o7) :: (L + 1 + 1 + 1 + 1 + 1 + 1, o6) :: (L + 1 + 1 + 1 + 1 + 1, o5) :: (L + 1 + 1 + 1 + 1, o4) :: (L + 1 + 1 + 1, o3) :: (L + 1 + 1, o2) :: (L + 1, o1) :: (tups lz ++ [(D7, { cls := .type "tuple", data := .seq #[.str (Str.ofString " ") tk, .str (tx [tz.getD j 0]) t8] })] ++ tups lw ++ (own1 ++ own2))) (by k_extra "psub") ?_ trivial ⟨lz ++ [⟨D7, (Str.ofString " "), tk, tx [tz.getD j 0], t8⟩], ?_, ?_, ?_, ?_⟩
    · refine LCg.Off3.of fun p hp => ?_
      by_cases hpz : p = (D7, { cls := .type "tuple", data := .seq #[.str (Str.ofString " ") tk, .str (tx [tz.getD j 0]) t8] })
      · rw [hpz]; exact ⟨Nat.ne_of_gt i1, Nat.ne_of_gt i2, Nat.ne_of_gt i3⟩
      · exact hof3 p (by
          simp only [List.mem_cons, List.mem_append, List.not_mem_nil, or_false, hpz, false_or] at hp ⊢
          exact hp)
    · rw [tups_snoc]
    · rw [refs_snoc]
    · rw [List.map_append, hzb, List.replicate_succ']
      rfl
    · rw [List.map_append, hzs, take_snocN hj, List.map_append]
      rfl
  · intro ys nx hx9
    first | (k_extra "xq5"; clear hx9; intro lz eq9; subst eq9; intro eq9; subst eq9; intro hzb hzs) | obtain ⟨lz, rfl, rfl, hzb, hzs⟩ := hx9
    rw [List.take_length] at hzs
    intro D h tk F N oD
    dsimp only
    have hx9 := rev_facts hlwb hlws
    first | (k_extra "xe2"; clear hx9; intro v1 v2) | obtain ⟨v1, v2⟩ := hx9
    have hzl : tz.length = cnt := by k_extra "li"
    refine prs_ne (t := tz) N (l1 := lw.reverse) (l2 := lz) (k1 := cnt) (by k_mem) (.head _) (fun p hp => by simp only [List.mem_cons, List.mem_append, tups_rev hp, or_true, true_or]) (fun p hp => by k_extra "sbm") (by rw [hzl]; exact v1) v2 hzb hzs (ltr_128 hr3) (by first | ktr_units | decide | k_extra "li") ?_
    replace N := News.perm N (news' := (Dp, listOf (refs lw.reverse).toArray cnt) :: (63, tabObj ps1) :: (70, tabObj ps2) :: (x, lstObj 101 dx ([] : List Value).toArray np) :: (dx, dictOf (isD w.params (tot % 4) ti1 ti2) nd) :: (Dt, listOf ut.toArray 4) :: (D4, listOf ul.toArray 0) :: (Dh, listOf uh.toArray 0) :: (L + 1 + 1 + 1 + 1 + 1 + 1 + 1, o7) :: (L + 1 + 1 + 1 + 1 + 1 + 1, o6) :: (L + 1 + 1 + 1 + 1 + 1, o5) :: (L + 1 + 1 + 1 + 1, o4) :: (L + 1 + 1 + 1, o3) :: (L + 1 + 1, o2) :: (L + 1, o1) :: (tups lw ++ (own1 ++ own2))) (by k_extra "psub")
    clear N14
    repeat' ((fail_if_success (with_reducible show PySem.wpAny _ _ (call (.ref 61) _) _ _ _)); k_extra "ks1"; try dsimp only)
    rw [List.append_nil]
    have hna : NoAcc x ((Dp, listOf (refs lw.reverse).toArray cnt) :: (63, tabObj ps1) :: (70, tabObj ps2) :: (Dt, listOf ut.toArray 4) :: (D4, listOf ul.toArray 0) :: (Dh, listOf uh.toArray 0) :: (L + 1 + 1 + 1 + 1 + 1 + 1 + 1, o7) :: (L + 1 + 1 + 1 + 1 + 1 + 1, o6) :: (L + 1 + 1 + 1 + 1 + 1, o5) :: (L + 1 + 1 + 1 + 1, o4) :: (L + 1 + 1 + 1, o3) :: (L + 1 + 1, o2) :: (L + 1, o1) :: (tups lw ++ (own1 ++ own2))) := apart_acc N (by k_mem) (by k_extra "psub") (by
      have a1 := hTb.1
      have a2 := hTb.2.1
      k_extra "na_all")
    (with_reducible rename News _ _ _ _ => N7)
    replace N7 := News.perm N7 (news' := (x, lstObj 101 dx ([] : List Value).toArray np) :: (dx, dictOf (isD w.params (tot % 4) ti1 ti2) nd) :: (Dp, listOf (refs lw.reverse).toArray cnt) :: (63, tabObj ps1) :: (70, tabObj ps2) :: (Dt, listOf ut.toArray 4) :: (D4, listOf ul.toArray 0) :: (Dh, listOf uh.toArray 0) :: (L + 1 + 1 + 1 + 1 + 1 + 1 + 1, o7) :: (L + 1 + 1 + 1 + 1 + 1 + 1, o6) :: (L + 1 + 1 + 1 + 1 + 1, o5) :: (L + 1 + 1 + 1 + 1, o4) :: (L + 1 + 1 + 1, o3) :: (L + 1 + 1, o2) :: (L + 1, o1) :: (tups lw ++ (own1 ++ own2))) (by k_extra "psub")
    (k_dflt (refine' Cl.use (pop0_c _ _ _ _ _ ((Dp, listOf (refs lw.reverse).toArray cnt) :: (63, tabObj ps1) :: (70, tabObj ps2) :: (Dt, listOf ut.toArray 4) :: (D4, listOf ul.toArray 0) :: (Dh, listOf uh.toArray 0) :: (L + 1 + 1 + 1 + 1 + 1 + 1 + 1, o7) :: (L + 1 + 1 + 1 + 1 + 1 + 1, o6) :: (L + 1 + 1 + 1 + 1 + 1, o5) :: (L + 1 + 1 + 1 + 1, o4) :: (L + 1 + 1 + 1, o3) :: (L + 1 + 1, o2) :: (L + 1, o1) :: (tups lw ++ (own1 ++ own2))) x dx np (isD w.params (tot % 4) ti1 ti2) nd ?q1 ?q3) ?k1 ?k2 ?k3 ?k4 ?k5 ?kK ?kd ?ku ?_; k_extra "cl_use"))
    case q1 => exact hna
    case q3 => rfl
    intro r nx5 h5 tk5 F5 N5 hx9
    first | (k_extra "xq5"; clear hx9; intro D5 u1 u2 eq9; subst eq9; intro eq9; subst eq9) | obtain ⟨D5, u1, u2, rfl, rfl⟩ := hx9
    dsimp only
    repeat' ((fail_if_success (with_reducible show PySem.wpAny _ _ (compareOp _ _ _) _ _ _)); k_extra "ks1"; try dsimp only)
    (with_reducible rename News _ _ _ _ => N7)
    refine tup2_ne N7 (a := D5) (v1 := .str (Str.ofString "") u1) (v2 := .str (Str.ofString "") u2) (ka := 0) (by k_mem) (.head _) (.str _ _) (.str _ _) (.str _ _) (.str _ _) eqv_nils.1 eqv_nils.2 (by first | ktr_units | decide | k_extra "li") ?_
    replace N7 := News.perm N7 (news' := (Dp, listOf (refs lw.reverse).toArray cnt) :: (63, tabObj ps1) :: (70, tabObj ps2) :: (x, lstObj 101 dx ([] : List Value).toArray np) :: (dx, dictOf (isD w.params (tot % 4) ti1 ti2) nd) :: (Dt, listOf ut.toArray 4) :: (D4, listOf ul.toArray 0) :: (Dh, listOf uh.toArray 0) :: (L + 1 + 1 + 1 + 1 + 1 + 1 + 1, o7) :: (L + 1 + 1 + 1 + 1 + 1 + 1, o6) :: (L + 1 + 1 + 1 + 1 + 1, o5) :: (L + 1 + 1 + 1 + 1, o4) :: (L + 1 + 1 + 1, o3) :: (L + 1 + 1, o2) :: (L + 1, o1) :: (tups lw ++ (own1 ++ own2))) (by k_extra "psub")
    have e4 : ((tot % 4 + ((([] : List Pr).map fun q => q.b.length + q.s.length)).sum : Nat) : Int) = (tot : Int).fmod 4 := by
      rw [Int.fmod_eq_emod_of_nonneg _ (by decide)]; simp
    repeat' ((fail_if_success (with_reducible show PySem.wpAny _ _ (call (.ref 68) _) _ _ _)); k_extra "ks1"; try dsimp only)
    have hnt3 : NoTab 63 ((70, tabObj ps2) :: (Dp, listOf (refs lw.reverse).toArray cnt) :: (Dt, listOf ut.toArray 4) :: (D4, listOf ul.toArray 0) :: (Dh, listOf uh.toArray 0) :: (L + 1 + 1 + 1 + 1 + 1 + 1 + 1, o7) :: (L + 1 + 1 + 1 + 1 + 1 + 1, o6) :: (L + 1 + 1 + 1 + 1 + 1, o5) :: (L + 1 + 1 + 1 + 1, o4) :: (L + 1 + 1 + 1, o3) :: (L + 1 + 1, o2) :: (L + 1, o1) :: (tups lw ++ (own1 ++ own2))) := by
      have hf := hTb.offs
      first | (revert l0; intro hx9; k_extra "xe4"; clear hx9; intro z1 z2 z3 z4) | obtain ⟨z1, z2, z3, z4⟩ := l0
      repeat' (first | exact List.forall_mem_nil _ | refine List.forall_mem_append.mpr ⟨?_, ?_⟩ | refine List.forall_mem_cons.mpr ⟨?_, ?_⟩)
      all_goals first
        | exact nt_addr (by decide)
        | exact .inl (fun e => by cases e)
        | exact .inr (Nat.ne_of_gt (by k_extra "li"))
        | exact fun p hp => .inl (by rw [tups_cls hp]; exact fun e => by cases e)
        | exact fun p hp => .inr (Ne.symm (hf p (List.mem_append_left _ hp) (63, tabObj #[]) (by k_mem)))
        | exact fun p hp => .inr (Ne.symm (hf p (List.mem_append_right _ hp) (63, tabObj #[]) (by k_mem)))
    (with_reducible rename News _ _ _ _ => N8)
    replace N8 := News.perm N8 (news' := (63, tabObj ps1) :: (x, lstObj 101 dx (refs ([] : List Pr)).toArray np) :: (dx, dictOf (isD w.params (tot % 4) ti1 ti2) nd) :: (tups [] ++ ((70, tabObj ps2) :: (Dp, listOf (refs lw.reverse).toArray cnt) :: (Dt, listOf ut.toArray 4) :: (D4, listOf ul.toArray 0) :: (Dh, listOf uh.toArray 0) :: (L + 1 + 1 + 1 + 1 + 1 + 1 + 1, o7) :: (L + 1 + 1 + 1 + 1 + 1 + 1, o6) :: (L + 1 + 1 + 1 + 1 + 1, o5) :: (L + 1 + 1 + 1 + 1, o4) :: (L + 1 + 1 + 1, o3) :: (L + 1 + 1, o2) :: (L + 1, o1) :: (tups lw ++ (own1 ++ own2))))) (by k_extra "psub")
    (k_dflt (refine' ClG.use (len_c _ _ _ _ _ ((70, tabObj ps2) :: (Dp, listOf (refs lw.reverse).toArray cnt) :: (Dt, listOf ut.toArray 4) :: (D4, listOf ul.toArray 0) :: (Dh, listOf uh.toArray 0) :: (L + 1 + 1 + 1 + 1 + 1 + 1 + 1, o7) :: (L + 1 + 1 + 1 + 1 + 1 + 1, o6) :: (L + 1 + 1 + 1 + 1 + 1, o5) :: (L + 1 + 1 + 1 + 1, o4) :: (L + 1 + 1 + 1, o3) :: (L + 1 + 1, o2) :: (L + 1, o1) :: (tups lw ++ (own1 ++ own2))) ps1 x dx [] np (tot % 4) ti1 ti2 nd (by simp) (fun q hq => absurd hq (by simp)) hps1 hnt3) ?k0 ?kg ?k1 ?k2 ?k3 ?k4 ?k5 ?kK ?kd ?ku ?_; (case k0 => exact k3); (case kg => exact G14); (case k1 => k_asm); (case k2 => k_asm); (case k3 => k_asm); (case k4 => k_asm); (case k5 => k_asm); (case kK => first | exact rfl | assumption); (case kd => first | ktr_room | k_extra "li"); (case ku => first | ktr_units | k_extra "li")))
    intro r nx8 hx9
    first | (k_extra "xq5"; clear hx9; intro h8 g8 d8' tk8 o8') | obtain ⟨h8, g8, d8', tk8, o8'⟩ := hx9
    intro F8' N8' G8' os8' hx9
    first | (k_extra "xq4"; clear hx9; intro hx9; (first | (k_extra "xq2"; clear hx9; intro t8 eq9; subst eq9) | obtain ⟨t8, rfl⟩ := hx9); intro ps3 htr3 eq9; subst eq9) | obtain ⟨⟨t8, rfl⟩, ps3, htr3, rfl⟩ := hx9
    try dsimp only at F8' N8' G8' os8'
    replace N8' := News.perm N8' (news' := (Dp, listOf (refs lw.reverse).toArray cnt) :: (63, tabObj ps3) :: (70, tabObj ps2) :: (x, lstObj 101 dx ([] : List Value).toArray np) :: (dx, dictOf (isD w.params (tot % 4) ti1 ti2) nd) :: (Dt, listOf ut.toArray 4) :: (D4, listOf ul.toArray 0) :: (Dh, listOf uh.toArray 0) :: (L + 1 + 1 + 1 + 1 + 1 + 1 + 1, o7) :: (L + 1 + 1 + 1 + 1 + 1 + 1, o6) :: (L + 1 + 1 + 1 + 1 + 1, o5) :: (L + 1 + 1 + 1 + 1, o4) :: (L + 1 + 1 + 1, o3) :: (L + 1 + 1, o2) :: (L + 1, o1) :: (tups lw ++ (own1 ++ own2))) (by k_extra "psub")
    dsimp only [PySem.W.LenBack]
    rw [e4]
    have e5 : (tot : Int).fmod 4 = (tot : Int).fmod 4 := rfl
    k_extra "kd"
    all_goals first
      | exact absurd e5 (by assumption)
      | exact hN _ _ _ _ (G8') (os8'.trans Os14) _ ps3 htr3 (by k_extra "lo") (News.perm (by assumption) (by k_extra "psub"))
      | exact ⟨by first | exact trivial | rfl, ps3, htr3, by k_extra "lo", News.perm (by assumption) (by k_extra "psub"), G8', os8'.trans Os14⟩
end
section
theorem lb14 {w : World} {loose : List Str} {mean : ExcName → Option Value} {mg mb : Str → Option Value} {g : Heap} (L : Addr) (fa : Addr) (cd : Value) (l : Addr) (vs : List Value) (ns : List Int) (C : LawCtx w loose mean mg mb g L l vs ns) (c6 : Obj) (c7 : Obj) (tot : Nat) (t1 : Tok) (o1 : Obj) (e1 : o1.data = .cell (some (.int (tot : Int) t1))) (b : Int) (c : Int) (tc : Tok) (o2 : Obj) (e2 : o2.data = .cell (some (.int (smod c) tc))) (cnt : Nat) (tc2 : Tok) (hc1 : 3 ≤ cnt) (hc2 : cnt ≤ 5) (hcnt : (cnt : Int) = 3 + (smod b).fmod 3) (D4 : Addr) (ul : List Value) (o3 : Obj) (hul : IntsAre ul ((lapsL cnt).map fun (x : Nat) => (x : Int))) (e3' : o3.data = .cell (some (.ref D4))) (stp : Nat) (ts : Tok) (o4 : Obj) (e4 : o4.data = .cell (some (.int (stp : Int) ts))) (fs : List Nat) (tf : Tok) (o5 : Obj) (hfl : fs.length = cnt) (e5 : o5.data = .cell (some (.str (tx fs) tf))) (hr : Int) (hhr1 : -4000000000 ≤ hr) (hhr2 : hr ≤ 4000000000) (Dh : Addr) (uh : List Value) (way : Int) (huh : IntsAre uh (hoursL hr way)) (Dt : Addr) (ut : List Value) (own1 : CbLed) (own2 : CbLed) (hTb : TbsM own1 own2 [(D4, listOf ul.toArray 0), (Dh, listOf uh.toArray 0), (L + 1 + 1 + 1 + 1 + 1 + 1 + 1, c7), (L + 1 + 1 + 1 + 1 + 1 + 1, c6), (L + 1 + 1 + 1 + 1 + 1, o5), (L + 1 + 1 + 1 + 1, o4), (L + 1 + 1 + 1, o3), (L + 1 + 1, o2), (L + 1, o1), (63, tabObj #[]), (70, tabObj #[])]) (x : Addr) (dx : Addr) (nd : Nat) (ti1 : Tok) (ti2 : Tok) (o6 : Obj) (e6 : o6.data = .cell (some (.ref x))) (lw : List Pr) (ps2 : Array Value) (o7 : Obj) (v7 : Option Value) (d7' : o7.data = .cell v7) (Dp : Addr) (np : Nat) (ps3 : Array Value) :
    Blk w g L fa cd (lawStmt 14) [("popped", .ref Dp), ("told", .ref Dt), ("hours", .ref Dh), ("count", .int (cnt : Int) tc2)] ((Dp, listOf (refs lw.reverse).toArray cnt) :: (63, tabObj ps3) :: (70, tabObj ps2) :: (x, lstObj 101 dx ([] : List Value).toArray np) :: (dx, dictOf (isD w.params (tot % 4) ti1 ti2) nd) :: (Dt, listOf ut.toArray 4) :: (D4, listOf ul.toArray 0) :: (Dh, listOf uh.toArray 0) :: (L + 1 + 1 + 1 + 1 + 1 + 1 + 1, o7) :: (L + 1 + 1 + 1 + 1 + 1 + 1, o6) :: (L + 1 + 1 + 1 + 1 + 1, o5) :: (L + 1 + 1 + 1 + 1, o4) :: (L + 1 + 1 + 1, o3) :: (L + 1 + 1, o2) :: (L + 1, o1) :: (tups lw ++ (own1 ++ own2)))
      (fun R => ∀ (h : Heap) (tl1 tl2 : Tok), Loc g L h [("rest", .int (((hoursL hr way).getD 3 0) % ((lapsL cnt).getD cnt 1 : Nat)) tl1), ("lapped", .int (((hoursL hr way).getD 3 0) / ((lapsL cnt).getD cnt 1 : Nat)) tl2), ("popped", .ref Dp), ("told", .ref Dt), ("hours", .ref Dh), ("count", .int (cnt : Int) tc2)] → News g L h ((Dp, listOf (refs lw.reverse).toArray cnt) :: (63, tabObj ps3) :: (70, tabObj ps2) :: (x, lstObj 101 dx ([] : List Value).toArray np) :: (dx, dictOf (isD w.params (tot % 4) ti1 ti2) nd) :: (Dt, listOf ut.toArray 4) :: (D4, listOf ul.toArray 0) :: (Dh, listOf uh.toArray 0) :: (L + 1 + 1 + 1 + 1 + 1 + 1 + 1, o7) :: (L + 1 + 1 + 1 + 1 + 1 + 1, o6) :: (L + 1 + 1 + 1 + 1 + 1, o5) :: (L + 1 + 1 + 1 + 1, o4) :: (L + 1 + 1 + 1, o3) :: (L + 1 + 1, o2) :: (L + 1, o1) :: (tups lw ++ (own1 ++ own2))) → R h) := by
  have X := C.X
  have T := C.T
  have B := C.B
  have k1 := C.k1
  have k2 := C.k2
  have k3 := C.k3
  have k4 := C.k4
  have hI := C.hI
  have lifted := C.lifted
  have hns := C.hns
  have l0 := C.l0
  have kcd : CdH g := ⟨k2, k1⟩
  clear C
  refine blk_mk (show lawStmt 14 = _ from (by conv => lhs; whnf)) ?_
  intro h0 gg dr tk oo Q G ⟨r16, F16⟩ N16 hN
  have k5 := G
  have G16 := G
  have Os16 : oo = oo := rfl
  have hTr : TbsM own1 own2 ((Dp, listOf (refs lw.reverse).toArray cnt) :: (63, tabObj ps3) :: (70, tabObj ps2) :: (x, lstObj 101 dx ([] : List Value).toArray np) :: (dx, dictOf (isD w.params (tot % 4) ti1 ti2) nd) :: (Dt, listOf ut.toArray 4) :: (D4, listOf ul.toArray 0) :: (Dh, listOf uh.toArray 0) :: (L + 1 + 1 + 1 + 1 + 1 + 1 + 1, o7) :: (L + 1 + 1 + 1 + 1 + 1 + 1, o6) :: (L + 1 + 1 + 1 + 1 + 1, o5) :: (L + 1 + 1 + 1 + 1, o4) :: (L + 1 + 1 + 1, o3) :: (L + 1 + 1, o2) :: (L + 1, o1) :: tups lw) := tbs_of hTb (News.perm N16 (by k_extra "psub")) (by k_mem) (by k_mem) (by
    repeat' (first | exact List.forall_mem_nil _ | exact notTab_tups _ | refine List.forall_mem_cons.mpr ⟨?_, ?_⟩)
    all_goals first | exact notTab_63 | exact notTab_70 | exact notTab_cell (by assumption) | exact .inr (.inl ⟨(fun e => by cases e), (fun vs e => by cases e)⟩))
  have hll : ((lapsL cnt).map fun (x : Nat) => (x : Int)).length = cnt + 1 := by
    simp [lapsL]; k_extra "li"
  have hx9 := lapsL_at (c := cnt) (k := cnt) hc2 (Nat.le_refl _)
  first | (k_extra "xe3"; clear hx9; intro m1 m2 m3) | obtain ⟨m1, m2, m3⟩ := hx9
  have hhl4 := hoursL_len hr way
  have hh3 := hoursL_mem hr way 3
  repeat' ((fail_if_success (with_reducible show PySem.wpAny _ _ (subscriptTail _ _ (.ref _) _) _ _ _)); k_extra "ks1"; try dsimp only)
  refine it_ints (k := 3) N16 (D := Dh) (kk := 0) (us := uh) (by k_mem) huh (by k_extra "li") (by k_extra "li") ?_ (by with_unfolding_all rfl)
  intro t9
  repeat' ((fail_if_success (with_reducible show PySem.wpAny _ _ (call (.ref 147) _) _ _ _)); k_extra "ks1"; try dsimp only)
  rw [hll, show ((-1 : Int) + ((cnt + 1 : Nat) : Int)).toNat = cnt from by k_extra "li", m1]
  generalize (hoursL hr way).getD 3 0 = h3 at *
  generalize (lapsL cnt).getD cnt 1 = lap3 at *
  (with_reducible rename News _ _ _ _ => N7)
  replace N7 := News.perm N7 (news' := own1 ++ (own2 ++ ((Dp, listOf (refs lw.reverse).toArray cnt) :: (63, tabObj ps3) :: (70, tabObj ps2) :: (x, lstObj 101 dx ([] : List Value).toArray np) :: (dx, dictOf (isD w.params (tot % 4) ti1 ti2) nd) :: (Dt, listOf ut.toArray 4) :: (D4, listOf ul.toArray 0) :: (Dh, listOf uh.toArray 0) :: (L + 1 + 1 + 1 + 1 + 1 + 1 + 1, o7) :: (L + 1 + 1 + 1 + 1 + 1 + 1, o6) :: (L + 1 + 1 + 1 + 1 + 1, o5) :: (L + 1 + 1 + 1 + 1, o4) :: (L + 1 + 1 + 1, o3) :: (L + 1 + 1, o2) :: (L + 1, o1) :: tups lw))) (by k_extra "psub")
  (k_dflt (refine' ClB.use (idmP_c _ _ _ _ _ own1 own2 ((Dp, listOf (refs lw.reverse).toArray cnt) :: (63, tabObj ps3) :: (70, tabObj ps2) :: (x, lstObj 101 dx ([] : List Value).toArray np) :: (dx, dictOf (isD w.params (tot % 4) ti1 ti2) nd) :: (Dt, listOf ut.toArray 4) :: (D4, listOf ul.toArray 0) :: (Dh, listOf uh.toArray 0) :: (L + 1 + 1 + 1 + 1 + 1 + 1 + 1, o7) :: (L + 1 + 1 + 1 + 1 + 1 + 1, o6) :: (L + 1 + 1 + 1 + 1 + 1, o5) :: (L + 1 + 1 + 1 + 1, o4) :: (L + 1 + 1 + 1, o3) :: (L + 1 + 1, o2) :: (L + 1, o1) :: tups lw) _ _ _ _ ?q1 ?q2 ?q3 ?q4 ?q5) ?k0 ?k1 ?k2 ?k3 ?k4 ?k5 ?kK ?kd ?ku ?_; k_extra "clb_use"))
  case q1 => k_extra "li"
  case q2 => k_extra "li"
  case q3 => k_extra "li"
  case q4 => k_extra "li"
  case q5 => exact hTr.tbs
  intro r nx h5 tk5 F5 N5 hx9
  first | (k_extra "xq9"; clear hx9; intro T5 t1 t2 p1 p2 eq9; subst eq9; intro eq9; subst eq9; intro hT5 lT5) | obtain ⟨T5, t1, t2, p1, p2, rfl, rfl, hT5, lT5⟩ := hx9
  obtain rfl : own1 = p1 := (hT5.2.1 hTr.1).symm
  obtain rfl : own2 = p2 := (hT5.2.2 hTr.2.1).symm
  replace N5 := News.perm N5 (news' := (T5, tup2 (h3 / (lap3 : Int)) (h3 % (lap3 : Int)) t1 t2) :: (Dp, listOf (refs lw.reverse).toArray cnt) :: (63, tabObj ps3) :: (70, tabObj ps2) :: (x, lstObj 101 dx ([] : List Value).toArray np) :: (dx, dictOf (isD w.params (tot % 4) ti1 ti2) nd) :: (Dt, listOf ut.toArray 4) :: (D4, listOf ul.toArray 0) :: (Dh, listOf uh.toArray 0) :: (L + 1 + 1 + 1 + 1 + 1 + 1 + 1, o7) :: (L + 1 + 1 + 1 + 1 + 1 + 1, o6) :: (L + 1 + 1 + 1 + 1 + 1, o5) :: (L + 1 + 1 + 1 + 1, o4) :: (L + 1 + 1 + 1, o3) :: (L + 1 + 1, o2) :: (L + 1, o1) :: (tups lw ++ (own1 ++ own2))) (by k_extra "psub")
  clear lT5
  dsimp only
  k_extra "kd"
  exact hN _ _ _ _ (G16) (Os16) _ _ _ (by k_extra "lo") (News.perm (by assumption) (by k_extra "psub"))
end
section
theorem lb15 {w : World} {loose : List Str} {mean : ExcName → Option Value} {mg mb : Str → Option Value} {g : Heap} (L : Addr) (fa : Addr) (cd : Value) (l : Addr) (vs : List Value) (ns : List Int) (C : LawCtx w loose mean mg mb g L l vs ns) (c6 : Obj) (c7 : Obj) (tot : Nat) (t1 : Tok) (o1 : Obj) (e1 : o1.data = .cell (some (.int (tot : Int) t1))) (b : Int) (c : Int) (tc : Tok) (o2 : Obj) (e2 : o2.data = .cell (some (.int (smod c) tc))) (cnt : Nat) (tc2 : Tok) (hc1 : 3 ≤ cnt) (hc2 : cnt ≤ 5) (hcnt : (cnt : Int) = 3 + (smod b).fmod 3) (D4 : Addr) (ul : List Value) (o3 : Obj) (hul : IntsAre ul ((lapsL cnt).map fun (x : Nat) => (x : Int))) (e3' : o3.data = .cell (some (.ref D4))) (stp : Nat) (ts : Tok) (o4 : Obj) (e4 : o4.data = .cell (some (.int (stp : Int) ts))) (fs : List Nat) (tf : Tok) (o5 : Obj) (hfl : fs.length = cnt) (e5 : o5.data = .cell (some (.str (tx fs) tf))) (hr : Int) (hhr1 : -4000000000 ≤ hr) (hhr2 : hr ≤ 4000000000) (Dh : Addr) (uh : List Value) (way : Int) (huh : IntsAre uh (hoursL hr way)) (Dt : Addr) (ut : List Value) (own1 : CbLed) (own2 : CbLed) (hTb : TbsM own1 own2 [(D4, listOf ul.toArray 0), (Dh, listOf uh.toArray 0), (L + 1 + 1 + 1 + 1 + 1 + 1 + 1, c7), (L + 1 + 1 + 1 + 1 + 1 + 1, c6), (L + 1 + 1 + 1 + 1 + 1, o5), (L + 1 + 1 + 1 + 1, o4), (L + 1 + 1 + 1, o3), (L + 1 + 1, o2), (L + 1, o1), (63, tabObj #[]), (70, tabObj #[])]) (x : Addr) (dx : Addr) (nd : Nat) (ti1 : Tok) (ti2 : Tok) (o6 : Obj) (e6 : o6.data = .cell (some (.ref x))) (lw : List Pr) (ps2 : Array Value) (o7 : Obj) (v7 : Option Value) (d7' : o7.data = .cell v7) (Dp : Addr) (np : Nat) (ps3 : Array Value) (tl1 : Tok) (tl2 : Tok) :
    Blk w g L fa cd (lawStmt 15) [("rest", .int (((hoursL hr way).getD 3 0) % ((lapsL cnt).getD cnt 1 : Nat)) tl1), ("lapped", .int (((hoursL hr way).getD 3 0) / ((lapsL cnt).getD cnt 1 : Nat)) tl2), ("popped", .ref Dp), ("told", .ref Dt), ("hours", .ref Dh), ("count", .int (cnt : Int) tc2)] ((Dp, listOf (refs lw.reverse).toArray cnt) :: (63, tabObj ps3) :: (70, tabObj ps2) :: (x, lstObj 101 dx ([] : List Value).toArray np) :: (dx, dictOf (isD w.params (tot % 4) ti1 ti2) nd) :: (Dt, listOf ut.toArray 4) :: (D4, listOf ul.toArray 0) :: (Dh, listOf uh.toArray 0) :: (L + 1 + 1 + 1 + 1 + 1 + 1 + 1, o7) :: (L + 1 + 1 + 1 + 1 + 1 + 1, o6) :: (L + 1 + 1 + 1 + 1 + 1, o5) :: (L + 1 + 1 + 1 + 1, o4) :: (L + 1 + 1 + 1, o3) :: (L + 1 + 1, o2) :: (L + 1, o1) :: (tups lw ++ (own1 ++ own2)))
      (fun R => ∀ (h : Heap) (zz : Unit), Loc g L h [("rest", .int (((hoursL hr way).getD 3 0) % ((lapsL cnt).getD cnt 1 : Nat)) tl1), ("lapped", .int (((hoursL hr way).getD 3 0) / ((lapsL cnt).getD cnt 1 : Nat)) tl2), ("popped", .ref Dp), ("told", .ref Dt), ("hours", .ref Dh), ("count", .int (cnt : Int) tc2)] → News g L h ((Dp, listOf (refs lw.reverse).toArray cnt) :: (63, tabObj ps3) :: (70, tabObj ps2) :: (x, lstObj 101 dx ([] : List Value).toArray np) :: (dx, dictOf (isD w.params (tot % 4) ti1 ti2) nd) :: (Dt, listOf ut.toArray 4) :: (D4, listOf ul.toArray 0) :: (Dh, listOf uh.toArray 0) :: (L + 1 + 1 + 1 + 1 + 1 + 1 + 1, o7) :: (L + 1 + 1 + 1 + 1 + 1 + 1, o6) :: (L + 1 + 1 + 1 + 1 + 1, o5) :: (L + 1 + 1 + 1 + 1, o4) :: (L + 1 + 1 + 1, o3) :: (L + 1 + 1, o2) :: (L + 1, o1) :: (tups lw ++ (own1 ++ own2))) → R h) := by
  have X := C.X
  have T := C.T
  have B := C.B
  have k1 := C.k1
  have k2 := C.k2
  have k3 := C.k3
  have k4 := C.k4
  have hI := C.hI
  have lifted := C.lifted
  have hns := C.hns
  have l0 := C.l0
  have kcd : CdH g := ⟨k2, k1⟩
  clear C
  refine blk_mk (show lawStmt 15 = _ from (by conv => lhs; whnf)) ?_
  intro h0 gg dr tk oo Q G ⟨r17, F17⟩ N17 hN
  have k5 := G
  have G17 := G
  have Os17 : oo = oo := rfl
  have hTr : TbsM own1 own2 ((Dp, listOf (refs lw.reverse).toArray cnt) :: (63, tabObj ps3) :: (70, tabObj ps2) :: (x, lstObj 101 dx ([] : List Value).toArray np) :: (dx, dictOf (isD w.params (tot % 4) ti1 ti2) nd) :: (Dt, listOf ut.toArray 4) :: (D4, listOf ul.toArray 0) :: (Dh, listOf uh.toArray 0) :: (L + 1 + 1 + 1 + 1 + 1 + 1 + 1, o7) :: (L + 1 + 1 + 1 + 1 + 1 + 1, o6) :: (L + 1 + 1 + 1 + 1 + 1, o5) :: (L + 1 + 1 + 1 + 1, o4) :: (L + 1 + 1 + 1, o3) :: (L + 1 + 1, o2) :: (L + 1, o1) :: tups lw) := tbs_of hTb (News.perm N17 (by k_extra "psub")) (by k_mem) (by k_mem) (by
    repeat' (first | exact List.forall_mem_nil _ | exact notTab_tups _ | refine List.forall_mem_cons.mpr ⟨?_, ?_⟩)
    all_goals first | exact notTab_63 | exact notTab_70 | exact notTab_cell (by assumption) | exact .inr (.inl ⟨(fun e => by cases e), (fun vs e => by cases e)⟩))
  have hll : ((lapsL cnt).map fun (x : Nat) => (x : Int)).length = cnt + 1 := by
    simp [lapsL]; k_extra "li"
  have hx9 := lapsL_at (c := cnt) (k := cnt) hc2 (Nat.le_refl _)
  first | (k_extra "xe3"; clear hx9; intro m1 m2 m3) | obtain ⟨m1, m2, m3⟩ := hx9
  have hhl4 := hoursL_len hr way
  have hh3 := hoursL_mem hr way 3
  repeat' ((fail_if_success (with_reducible show PySem.wpAny _ _ (subscriptTail _ _ (.ref _) _) _ _ _)); k_extra "ks1"; try dsimp only)
  k_extra "ks1"
  rw [hll, show ((-1 : Int) + ((cnt + 1 : Nat) : Int)).toNat = cnt from by k_extra "li", m1]
  refine PyProof.Rows.mul_int ?_ (imo_nat (by k_extra "li"))
  repeat' ((fail_if_success (with_reducible show PySem.wpAny _ _ (subscriptTail _ _ (.ref _) _) _ _ _)); k_extra "ks1"; try dsimp only)
  refine it_ints (k := 3) N17 (D := Dh) (kk := 0) (us := uh) (by k_mem) huh (by k_extra "li") (by k_extra "li") ?_ (by with_unfolding_all rfl)
  intro t9
  have e9 : ((hoursL hr way).getD 3 0) / ((lapsL cnt).getD cnt 1 : Nat) * ((lapsL cnt).getD cnt 1 : Nat) + ((hoursL hr way).getD 3 0) % ((lapsL cnt).getD cnt 1 : Nat) = ((hoursL hr way).getD 3 0) := Int.ediv_mul_add_emod _ _
  repeat' ((fail_if_success (with_reducible show PySem.wpAny _ _ (subscriptTail _ _ (.ref _) _) _ _ _)); k_extra "ks1"; try dsimp only)
  · exact absurd e9 (by assumption)
  refine it_ints (k := 3) N17 (D := Dh) (kk := 0) (us := uh) (by k_mem) huh (by k_extra "li") (by k_extra "li") ?_ (by with_unfolding_all rfl)
  intro t8
  repeat' ((fail_if_success (with_reducible show PySem.wpAny _ _ (subscriptTail _ _ (.ref _) _) _ _ _)); k_extra "ks1"; try dsimp only)
  k_extra "ks1"
  rw [hll, show ((-1 : Int) + ((cnt + 1 : Nat) : Int)).toNat = cnt from by k_extra "li", m1]
  repeat' ((fail_if_success (with_reducible show PySem.wpAny _ _ (call (.ref 147) _) _ _ _)); k_extra "ks1"; try dsimp only)
  clear e9
  generalize hh3e : ((hoursL hr way).getD 3 0) = h3 at *
  generalize (lapsL cnt).getD cnt 1 = lap3 at *
  (with_reducible rename News _ _ _ _ => N7)
  replace N7 := News.perm N7 (news' := own1 ++ (own2 ++ ((Dp, listOf (refs lw.reverse).toArray cnt) :: (63, tabObj ps3) :: (70, tabObj ps2) :: (x, lstObj 101 dx ([] : List Value).toArray np) :: (dx, dictOf (isD w.params (tot % 4) ti1 ti2) nd) :: (Dt, listOf ut.toArray 4) :: (D4, listOf ul.toArray 0) :: (Dh, listOf uh.toArray 0) :: (L + 1 + 1 + 1 + 1 + 1 + 1 + 1, o7) :: (L + 1 + 1 + 1 + 1 + 1 + 1, o6) :: (L + 1 + 1 + 1 + 1 + 1, o5) :: (L + 1 + 1 + 1 + 1, o4) :: (L + 1 + 1 + 1, o3) :: (L + 1 + 1, o2) :: (L + 1, o1) :: tups lw))) (by k_extra "psub")
  (k_dflt (refine' ClB.use (idm2_c _ _ _ _ _ own1 own2 ((Dp, listOf (refs lw.reverse).toArray cnt) :: (63, tabObj ps3) :: (70, tabObj ps2) :: (x, lstObj 101 dx ([] : List Value).toArray np) :: (dx, dictOf (isD w.params (tot % 4) ti1 ti2) nd) :: (Dt, listOf ut.toArray 4) :: (D4, listOf ul.toArray 0) :: (Dh, listOf uh.toArray 0) :: (L + 1 + 1 + 1 + 1 + 1 + 1 + 1, o7) :: (L + 1 + 1 + 1 + 1 + 1 + 1, o6) :: (L + 1 + 1 + 1 + 1 + 1, o5) :: (L + 1 + 1 + 1 + 1, o4) :: (L + 1 + 1 + 1, o3) :: (L + 1 + 1, o2) :: (L + 1, o1) :: tups lw) _ _ _ _ ?q1 ?q2 ?q3 ?q4 ?q5 ?q6) ?k0 ?k1 ?k2 ?k3 ?k4 ?k5 ?kK ?kd ?ku ?_; k_extra "clb_use"))
  case q1 => k_extra "li"
  case q2 => k_extra "li"
  case q3 => k_extra "li"
  case q4 => k_extra "li"
  case q5 => k_extra "li"
  case q6 => exact hTr.tbs
  intro r nx h5 tk5 F5 N5 hx9
  first | (k_extra "xq9"; clear hx9; intro T5 t1 t2 p1 p2 eq9; subst eq9; intro eq9; subst eq9; intro hT5 lT5) | obtain ⟨T5, t1, t2, p1, p2, rfl, rfl, hT5, lT5⟩ := hx9
  obtain rfl : own1 = p1 := (hT5.2.1 hTr.1).symm
  obtain rfl : own2 = p2 := (hT5.2.2 hTr.2.1).symm
  rw [if_pos (show -(lap3 : Int) < 0 by k_extra "li"), if_pos (show -(lap3 : Int) < 0 by k_extra "li"), Int.neg_neg, Int.neg_neg] at N5
  replace N5 := News.perm N5 (news' := (T5, tup2 (h3 / (lap3 : Int)) (-(h3 % (lap3 : Int))) t1 t2) :: (Dp, listOf (refs lw.reverse).toArray cnt) :: (63, tabObj ps3) :: (70, tabObj ps2) :: (x, lstObj 101 dx ([] : List Value).toArray np) :: (dx, dictOf (isD w.params (tot % 4) ti1 ti2) nd) :: (Dt, listOf ut.toArray 4) :: (D4, listOf ul.toArray 0) :: (Dh, listOf uh.toArray 0) :: (L + 1 + 1 + 1 + 1 + 1 + 1 + 1, o7) :: (L + 1 + 1 + 1 + 1 + 1 + 1, o6) :: (L + 1 + 1 + 1 + 1 + 1, o5) :: (L + 1 + 1 + 1 + 1, o4) :: (L + 1 + 1 + 1, o3) :: (L + 1 + 1, o2) :: (L + 1, o1) :: (tups lw ++ (own1 ++ own2))) (by k_extra "psub")
  clear lT5
  dsimp only
  repeat' ((fail_if_success (with_reducible show PySem.wpAny _ _ (compareOp _ _ _) _ _ _)); k_extra "ks1"; try dsimp only)
  (with_reducible rename News _ _ _ _ => N8)
  refine tup2_ne N8 (a := T5) (v1 := .int (h3 / (lap3 : Int)) t1) (v2 := .int (-(h3 % (lap3 : Int))) t2) (ka := 0) (by k_mem) (.head _) (.int _ _) (.int _ _) (.int _ _) (.int _ _) (eqv_ints _ _).1 (eqv_ints _ _).2 (by first | ktr_units | decide | k_extra "li") ?_
  k_extra "kd"
  exact hN _ _ _ _ (G17) (Os17) _ () (by k_extra "lo") (News.perm (by assumption) (by k_extra "psub"))
end
section
theorem law_body {w : World} {loose : List Str} {mean : ExcName → Option Value} {mg mb : Str → Option Value} {g : Heap} (L : Addr) (fa : Addr) (cd : Value) (l : Addr) (vs : List Value) (ns : List Int) (C : LawCtx w loose mean mg mb g L l vs ns) (c1 : Obj) (c2 : Obj) (c3 : Obj) (c4 : Obj) (c5 : Obj) (c6 : Obj) (c7 : Obj) (d1 : c1.data = .cell none) (d2 : c2.data = .cell none) (d3 : c3.data = .cell none) (d4 : c4.data = .cell none) (d5 : c5.data = .cell none) (d6 : c6.data = .cell none) (d7 : c7.data = .cell none) (s : Shared) (G : AllBare s.gens) (F : Loc g L s.heap [("script", .ref l)]) (N0 : News g L s.heap [(L + 1 + 1 + 1 + 1 + 1 + 1 + 1, c7), (L + 1 + 1 + 1 + 1 + 1 + 1, c6), (L + 1 + 1 + 1 + 1 + 1, c5), (L + 1 + 1 + 1 + 1, c4), (L + 1 + 1 + 1, c3), (L + 1 + 1, c2), (L + 1, c1), (128, tabObj #[]), (121, tabObj #[]), (63, tabObj #[]), (70, tabObj #[])]) :
    wpAny (model PySem.Challenge.rw_sr0059_01.row.prog w) (callerA.deeper (LEnv L fa cd)) (execs lawBody (LEnv L fa cd)) (LawEnd g [(132, 128), (125, 121), (67, 63), (74, 70)] s.os) NoE s := by
  show wpAny _ _ (execs [lawStmt 0, lawStmt 1, lawStmt 2, lawStmt 3, lawStmt 4, lawStmt 5, lawStmt 6, lawStmt 7, lawStmt 8, lawStmt 9, lawStmt 10, lawStmt 11, lawStmt 12, lawStmt 13, lawStmt 14, lawStmt 15, lawStmt 16] _) _ _ _
  refine blk_cons (lb0 L fa cd l vs ns C c1 c2 c3 c4 c5 c6 c7 d1) G F N0 ?_
  intro gg0 dd0 tk0 G2 hh0 tot t1 o1 htot e1 F2 N2
  clear F N0
  refine blk_cons (lb1 L fa cd l vs ns C c2 c3 c4 c5 c6 c7 d2 tot o1 htot) G2 F2 N2 ?_
  intro gg1 dd1 tk1 G3 hh1 a b c ta tb tc o2 e3 e2 F3 N3
  clear F2 N2
  refine blk_cons (lb2 L fa cd l vs ns C c3 c4 c5 c6 c7 o1 a b ta tb o2) G3 F3 N3 ?_
  intro gg2 dd2 tk2 G4 hh2 cnt tc2 hc1 hc2 hcnt F4 N4
  clear F3 N3
  refine blk_cons (lb3 L fa cd l vs ns C c3 c4 c5 c6 c7 d3 tot o1 a b ta tb o2 cnt tc2) G4 F4 N4 ?_
  intro gg3 dd3 tk3 G5 hh3 D4 ul o3 hD4 hul e3' F5 N5
  clear F4 N4
  refine blk_cons (lb4 L fa cd l vs ns C c4 c5 c6 c7 d4 tot o1 a b c ta tb tc o2 e2 cnt tc2 D4 ul o3 hD4) G5 F5 N5 ?_
  intro gg4 dd4 tk4 G6 hh4 stp ts o4 hstp e4 F6 N6
  clear F5 N5
  refine blk_cons (lb5 L fa cd l vs ns C c5 c6 c7 d5 tot t1 o1 e1 a b c ta tb tc o2 e2 cnt tc2 hc1 hc2 hcnt D4 ul o3 hD4 stp ts o4 hstp e4) G6 F6 N6 ?_
  intro gg5 dd5 tk5 G7 hh5 fs tf o5 hfl hfltr hfnd e5 F7 N7
  clear F6 N6
  refine blk_cons (lb6 L fa cd l vs ns C c6 c7 tot o1 a b ta tb o2 cnt tc2 hc1 hc2 hcnt D4 ul o3 hul e3' o4 fs o5 hfl) G7 F7 N7 ?_
  intro gg6 dd6 tk6 G8 hh6 hr th hhr1 hhr2 F8 N8
  clear F7 N7
  refine blk_cons (lb7 L fa cd l vs ns C c6 c7 tot o1 b tb o2 cnt tc2 D4 ul o3 o4 fs o5 hr th) G8 F8 N8 ?_
  intro gg7 dd7 tk7 G9 hh7 Dh uh way hDh huh F9 N9
  clear F8 N8
  refine blk_cons (lb8 L fa cd l vs ns C c6 c7 tot o1 b o2 cnt tc2 hc1 hc2 D4 ul o3 hD4 hul e3' o4 fs tf o5 hfl hfltr e5 hr hhr1 hhr2 Dh uh way hDh huh) G9 F9 N9 ?_
  intro gg8 dd8 tk8 G10 hh8 Dt ut own1 own2 hut hTb hDt7 hDt6 F10 N10
  clear F9 N9
  refine blk_cons (lb9 L fa cd l vs ns C c6 c7 d6 tot t1 o1 e1 b o2 cnt tc2 D4 ul o3 hD4 o4 fs o5 hr Dh uh hDh Dt ut own1 own2 hTb hDt6) G10 F10 N10 ?_
  intro gg9 dd9 tk9 G11 hh9 x dx n nd ti1 ti2 o6 e6 F11 N11
  clear F10 N10
  refine blk_cons (lb10 L fa cd l vs ns C c6 c7 d7 tot t1 o1 e1 b c tc o2 e2 cnt tc2 hc2 D4 ul o3 e3' stp ts o4 e4 fs tf o5 hfl hfltr e5 hr Dh uh way Dt ut own1 own2 hut hTb x dx n nd ti1 ti2 o6 e6) G11 F11 N11 ?_
  intro gg10 dd10 tk10 G12 hh10 lp n2 hlpb hlps F12 N12
  clear F11 N11
  refine blk_cons (lb11 L fa cd l vs ns C c1 c2 c3 c4 c5 c6 c7 d1 d2 d3 d4 d5 d6 d7 tot t1 o1 htot e1 a b c ta tb tc o2 e3 e2 cnt tc2 hc1 hc2 hcnt D4 ul o3 hD4 hul e3' stp ts o4 hstp e4 fs tf o5 hfl hfltr hfnd e5 hr th hhr1 hhr2 Dh uh way hDh huh Dt ut own1 own2 hut hTb hDt7 hDt6 x dx n nd ti1 ti2 o6 e6 lp n2 hlpb hlps) G12 F12 N12 ?_
  intro gg11 dd11 tk11 G13 hh11 lw n3 ps1 ps2 o7 v7 d7' hps1 hps2 hlwb hlws F13 N13
  clear F12 N12
  refine blk_cons (lb12 L fa cd l vs ns C c6 c7 tot t1 o1 e1 b c tc o2 e2 cnt tc2 hc1 hc2 D4 ul o3 e3' stp ts o4 e4 fs tf o5 e5 hr Dh uh Dt ut own1 own2 hTb x dx nd ti1 ti2 o6 e6 lw n3 ps1 ps2 o7 v7 d7' hlwb) G13 F13 N13 ?_
  intro gg12 dd12 tk12 G14 hh12 Dp np F14 N14
  clear F13 N13
  refine blk_cons (lb13 L fa cd l vs ns C c6 c7 tot t1 o1 htot e1 b c tc o2 e2 cnt tc2 hc2 D4 ul o3 e3' stp ts o4 e4 fs tf o5 hfl hfltr e5 hr Dh uh way Dt ut own1 own2 hut hTb x dx nd ti1 ti2 o6 e6 lw ps1 ps2 o7 v7 d7' hps1 hlwb hlws Dp np) G14 F14 N14 ?_
  intro gg13 dd13 tk13 G16 hh13 ps3 hps3 F16 N16
  clear F14 N14
  refine blk_cons (lb14 L fa cd l vs ns C c6 c7 tot t1 o1 e1 b c tc o2 e2 cnt tc2 hc1 hc2 hcnt D4 ul o3 hul e3' stp ts o4 e4 fs tf o5 hfl e5 hr hhr1 hhr2 Dh uh way huh Dt ut own1 own2 hTb x dx nd ti1 ti2 o6 e6 lw ps2 o7 v7 d7' Dp np ps3) G16 F16 N16 ?_
  intro gg14 dd14 tk14 G17 hh14 tl1 tl2 F17 N17
  clear F16 N16
  refine blk_cons (lb15 L fa cd l vs ns C c6 c7 tot t1 o1 e1 b c tc o2 e2 cnt tc2 hc1 hc2 hcnt D4 ul o3 hul e3' stp ts o4 e4 fs tf o5 hfl e5 hr hhr1 hhr2 Dh uh way huh Dt ut own1 own2 hTb x dx nd ti1 ti2 o6 e6 lw ps2 o7 v7 d7' Dp np ps3 tl1 tl2) G17 F17 N17 ?_
  intro gg15 dd15 tk15 G18 hh15 _zz F18 N18
  clear F17 N17
  exact lbend L fa cd l vs ns C c6 c7 tot o1 b o2 cnt tc2 hc1 hc2 D4 ul o3 hul e3' o4 fs tf o5 hfl hfltr hfnd e5 hr Dh uh way Dt ut own1 own2 hTb x dx nd ti1 ti2 o6 lw ps2 o7 hlwb hlws Dp np ps3 tl1 tl2 () _ G18 F18 N18
end
section
theorem kn_postG {M : Model} {A : Around} {cd : Code} {s s₁ : Shared} {cw : ClaimW} {cl : Str → Option Addr} {mean : ExcName → Option Value} {args : List WData} {tabs : List (Addr × Addr)} (hT : TabsAt tabs s₁.heap) (hr : ∀ a x, cw.raises a x = false)
    (h : codeAny M A cd (fun r s' => GoodW cw cl mean args { s₁ with heap := ghostOf s₁.heap tabs } r { s' with gens := #[] } ∧ GrownAll tabs s'.heap ∧ AllBare s'.gens) s) : codeAny M A cd (GoodWG cw cl mean args s₁) s :=
  codeAny_mono h fun r s' ⟨⟨hc, hk, hos, hg⟩, hgr, hbare⟩ => by
    have keep : ∀ b o, b ∉ tabs.map (·.2) → s₁.heap.get? b = some o → s'.heap.get? b = some o := fun b o hb e => hk b o (ghost_ne e hb)
    have grown : ∀ b o, b ∈ tabs.map (·.2) → s₁.heap.get? b = some o → isCodeTable s₁.heap b ∧ o = tabObj #[] ∧ ∃ ps, s'.heap.get? b = some (tabObj ps) := fun b o hb e => by
      have hx9 := List.mem_map.mp hb
      first | (k_extra "xe3"; clear hx9; intro q hq eq9; subst eq9) | obtain ⟨q, hq, rfl⟩ := hx9
      have e2 := (hT q hq).2
      rw [e] at e2
      exact ⟨((hT q hq).1.tab (hT q hq).2).isCodeTable, Option.some.inj e2, hgr.get q hq⟩
    refine ⟨?_, ⟨fun b o e => ?_, fun b o e => ?_⟩, hos, hbare⟩
    · rcases hc with ⟨v, d, as, r1, r2, r3, r4, r5⟩ | ⟨e, ob, x, _, _, _, r4, _⟩
      · refine .inl ⟨v, d, as, r1, r2, r3, r4, fun q => ⟨(r5 q).1, fun a ha => ?_⟩⟩
        cases q1 : s₁.heap.get? a with
        | none => rfl
        | some o =>
          by_cases hb : a ∈ tabs.map (·.2)
          · have hx9 := grown a o hb q1
            first | (k_extra "xe4"; clear hx9; intro _ _ ps hP) | obtain ⟨_, _, ps, hP⟩ := hx9
            exact absurd ha (readsW_apart hP rfl r3)
          · have e3 := (r5 q).2 a ha
            rw [show (ghostOf s₁.heap tabs).get? a = some o from ghost_ne q1 hb] at e3
            cases e3
      · rw [hr] at r4; cases r4
    · by_cases hb : b ∈ tabs.map (·.2)
      · have hx9 := grown b o hb e
        first | (k_extra "xe4"; clear hx9; intro ht eq9; subst eq9; intro ps hP) | obtain ⟨ht, rfl, ps, hP⟩ := hx9
        exact .inr (.inl ⟨ht, rfl, #[], ps, rfl, by rw [Array.empty_append]; exact hP⟩)
      · exact .inl (keep b o hb e)
    · by_cases hb : b ∈ tabs.map (·.2)
      · have hx9 := grown b o hb e
        first | (k_extra "xe4"; clear hx9; intro _ _ ps hP) | obtain ⟨_, _, ps, hP⟩ := hx9
        exact ⟨_, hP⟩
      · exact ⟨o, keep b o hb e⟩
theorem whole : PySem.Challenge.rw_sr0059_01.Holds := by
  w_on
  refine holds_law (show _ = true from by kernel_rfl) fun said => ?_
  refine holds_open (q := lawView) (loose := lawLoose) (Xt := fun s => xlAt lawView [] s && recOk (RowW.records PySem.Challenge.rw_sr0059_01.row.toRowW) s) (XP := XL lawView []) (Yf := Hook.obs (kmHook K39 lawAdr K_as [128, 121, 63, 70])) (Ya := Hook.val (kmHook K39 lawAdr K_as [128, 121, 63, 70])) (YP := Hook.says (kmHook K39 lawAdr K_as [128, 121, 63, 70])) (N := 2220) left (Hook.of _) (Hook.keeps _) (fun s e => xl_of s (Bool.and_eq_true_iff.mp e).1) XL.keeps (by rfl) (by rfl) (by rfl) (fun s e => recFacts_of (Bool.and_eq_true_iff.mp e).2) (by rfl) (by first | assumption | decide +kernel) (by decide +kernel) ⟨rfl, rfl, rfl, rfl, rfl, by decide +kernel⟩ ?hw ?hc
  case hw => w_witness2
  case hc =>
    k_fill
    intro w s₀ s₁ mg mb G Y fa o pm cd doc dV kV ho hdd hcd hD hmg hg args vals as hpre hlay hrd hwl hlo
    have KX := km_in_of Y
    km_tabs Y
    have X := (Ground.X G).1
    have V := (Ground.X G).2
    refine Ground.open G ?_
    intro T B D TE TW
    try (refine guard_noD D (by decide +kernel) ?_; clear D)
    have hT9 : TabsAt ([(132, 128), (125, 121), (67, 63), (74, 70)] : List (Addr × Addr)) s₁.heap :=
      List.forall_mem_cons.mpr ⟨⟨codeHd_of_K (c := 132) (P := 128) KX (by kernel_rfl), hT8 128 (by k_mem)⟩, List.forall_mem_cons.mpr ⟨⟨codeHd_of_K (c := 125) (P := 121) KX (by kernel_rfl), hT8 121 (by k_mem)⟩,
      List.forall_mem_cons.mpr ⟨⟨codeHd_of_K (c := 67) (P := 63) KX (by kernel_rfl), hT8 63 (by k_mem)⟩, List.forall_mem_cons.mpr ⟨⟨codeHd_of_K (c := 74) (P := 70) KX (by kernel_rfl), hT8 70 (by k_mem)⟩, List.forall_mem_nil _⟩⟩⟩⟩
    clear hmg
    wrow_args hpre hlay hrd hwl hlo
    first | refine callC_kw (enter_call ?_) | refine enter_call ?_
    w_top on
    refine kn_postG hT9 (fun _ _ => rfl) ?_
    w_call any ho hdd hcd hD T F
    clear hdd
    kn_ghosts F T
    k_drop
    (try k_fold)
    rename_i ns hs hlay0 hL0 hr0 hl2 as1 as2 l vs as3 hL ra w1 rr0 hI hr hcond hc2 h₁ tk₁ c7 c6 c5 c4 c3 c2 c1 d7 d6 d5 d4 d3 d2 d1 CA X T B F0 k1 k2 k3 N0 l0
    have k4 := codeHd
    have hns : ns.length ≤ 63 := by lia
    clear CA hs hlay0 hL0 hr0 hl2 ra w1 rr0 hr hcond hc2 hD codeHd hL
    have hx9 : Loc _ _ h₁ [("script", .ref l)] := loc F0 (by k_extra "kn_all")
    first | (k_extra "xe2"; clear hx9; intro r0 F) | obtain ⟨r0, F⟩ := hx9
    clear F0
    generalize hg2 : ghostOf s₁.heap [(132, 128), (125, 121), (67, 63), (74, 70)] = g at *
    generalize hLL : s₁.heap.objs.size = L at *
    replace d1 : c1.data = .cell none := d1
    replace d2 : c2.data = .cell none := d2
    replace d3 : c3.data = .cell none := d3
    replace d4 : c4.data = .cell none := d4
    replace d5 : c5.data = .cell none := d5
    replace d6 : c6.data = .cell none := d6
    replace d7 : c7.data = .cell none := d7
    dsimp only at k1 k2 k3 k4
    clear hT9 TE TW hT8 ho hcd
    (rename Top lawView _ _ _ _ _ => Tz); (rename Tables _ _ _ _ => Bz); (rename Flt.MathXP _ _ _ => Xz); (rename LooseAre _ _ _ => Vz)
    clear Tz Bz Xz Vz
    have k5 : AllBare s₁.gens := by rw [hg]; exact fun y hy => absurd hy (by simp)
    have hbare : s₁.gens = #[] := hg
    refine wpAny_mono (Q := LawEnd g [(132, 128), (125, 121), (67, 63), (74, 70)] s₁.os) (E := NoE) ?_ (fun f s' hf => ?_) (fun _ _ x => x.elim)
    rotate_left
    · first | (revert hf; intro hx9; k_extra "xe5"; clear hx9; intro eq9; subst eq9; intro e1 e2 e3 e4) | obtain ⟨rfl, e1, e2, e3, e4⟩ := hf
      refine ⟨?_, e3, e4⟩
      dsimp only
      refine ⟨.inl ⟨_, _, _, rfl, fun _ => rfl, by w_reads, ?_, ?_⟩, e1, e2, rfl⟩
      · exact postW_of (by wrow_shape) (by wtm_val) (by str_meet; first | done | w_fin)
      · first | exact unshared_nil | exact fun h => absurd h (by decide)
    have kcd : CdH g := ⟨k2, k1⟩

    exact law_body L fa cd l vs ns ⟨X, T, B, k1, k2, k3, k4, hI, lifted, hns, l0⟩ c1 c2 c3 c4 c5 c6 c7 d1 d2 d3 d4 d5 d6 d7 _ k5 ⟨r0, F⟩ N0
end
end Mine
theorem PySem.Challenge.cw_sr0059_01_holds : PySem.Challenge.rw_sr0059_01.Holds := by
  exact Mine.whole
