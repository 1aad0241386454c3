import PyProof.Rows.All
import Wide.All
import OpenK.AllK
import Wide.FinOn
import Lean
import PySem.Challenge.RW_sc0045_01
set_option Elab.async false
set_option genInjectivity false
set_option genSizeOf false
set_option genSizeOfSpec false
set_option genCtorIdx false
set_option maxRecDepth 100000
set_option maxHeartbeats 4000000
set_option exponentiation.threshold 3000
set_option compiler.extract_closed false
set_option linter.all false
namespace Mine
def wayTo (k : String) : Lean.MacroM Lean.Syntax := do
  let mut c := ""
  let mut m := "Mkr"
  for t in ("a..bcde..cefgb..eh..cegib..cej..ke..lmeonF..copEeu..ev..conwqxyzEeG..ez..conxyzArBEeH..consCEeIJK..cmonxBDtEeL.".splitOn ".") do
    if ← Lean.Macro.hasDecl (.str `Mine m) then c := t
    m := m.push 'r'
  if c == "" then Lean.Macro.throwUnsupported
  let mut r := Lean.Syntax.missing
  for x in c.toList.reverse do
    let s := Lean.Syntax.mkStrLit (x.toString ++ k)
    if r.isMissing then r ← `(tactic| k_extra $s) else r ← `(tactic| first | k_extra $s | $(⟨r⟩):tactic)
  return r
end Mine
local macro_rules | `(tactic| walk_at $s:str) => `(tactic| row_timed $s (fail))
local macro_rules | `(tactic| omega) => Mine.wayTo "omega"
local macro_rules | `(tactic| k_ne) => Mine.wayTo "k_ne"
local macro_rules | `(tactic| k_in) => Mine.wayTo "k_in"
local macro_rules | `(tactic| k_inst) => Mine.wayTo "k_inst"
local macro_rules | `(tactic| k_steps) => Mine.wayTo "k_steps"
local macro_rules | `(tactic| k_mem) => Mine.wayTo "k_mem"
local macro_rules | `(tactic| is_list) => Mine.wayTo "is_list"
local macro_rules | `(tactic| row_timed $s:str (fail)) => Mine.wayTo s.getString
local macro_rules | `(tactic| row_timed "r" ($t:tacticSeq)) => `(tactic| first | with_reducible ($t:tacticSeq) | ($t:tacticSeq))
local macro_rules
  | `(tactic| row_timed "fz" ($t:tacticSeq)) => do
    let k ← Lean.MonadQuotation.getCurrMacroScope
    let t' := t.raw.rewriteBottomUp fun s => match s with
      | .ident i r n p =>
        let w := n.getRoot.toString
        if w.endsWith "_z" then .ident i r (Lean.addMacroScope `Mine n k) p else if w.endsWith "_y" then .ident i r (Lean.addMacroScope `Mine n 1) p else s
      | _ => s
    `(tactic| ($(⟨t'⟩):tacticSeq))
set_option bootstrap.genMatcherCode false
namespace Mine
theorem rows_all:True:=by
 k_with_none
 k_with "ahd" => ((case left=>exact leftQ (p:=pw) rfl rfl (fun _=>rfl) top_kept top_seen fun w os=>by kernel_rfl);(case hY=>exact Hook.of _);(case hYk=>exact Hook.keeps _);(case hX=>exact fun s e=>xl_of s (Bool.and_eq_true_iff.mp e).1);(case hXk=>exact XL.keeps);(case hdef=>rfl);(case hp=>rfl);(case hk=>rfl);(case hRf=>exact fun s e=>recFacts_of (Bool.and_eq_true_iff.mp e).2);(case hwr=>rfl);(case k1=>assumption);(case ok=>decide +kernel);(case hb=>exact law_bare))
 k_with "alaw" => row_timed "fz" (refine holds_law law_said fun said=>?_)
 k_with "bsetAttr ref" => row_timed "fz" ((k_here;k_dflt (row_timed "r" (refine' set_dict9 ?k1_z ?k2_z ?k3_z ?k4_z ?k5_z ?k6_z ?k7_z ?k8_z ?k9_z ?k10_z ?k11_z ?k12_z ?k13_z ?_);(case k1_z=>k_asm);(case k2_z=>k_asm);(case k3_z=>k_asm);(case k4_z=>k_inst);(case k5_z=>exact rfl);(case k6_z=>k_is);(case k7_z=>kernel_rfl);(case k8_z=>k_is);(case k9_z=>k_is);(case k10_z=>k_get);(case k11_z=>k_put);(case k12_z=>k_upd);(case k13_z=>exact Nat.le_of_ble_eq_true rfl);k_whole;intro h'_y F'_y N'_y;(try k_sweep);(try dsimp only))))
 k_with "bgetMethod ref" => row_timed "fz" ((k_here;k_dflt ((with_reducible first|row_timed "r" (refine' sup_init ?k1_z ?k2_z ?k3_z ?k4_z ?k5_z ?k6_z ?k7_z ?k8_z ?k9_z ?_)|row_timed "r" (refine' sup_len ?k1_z ?k2_z ?k3_z ?k4_z ?k5_z ?k6_z ?k7_z ?k8_z ?k9_z ?_)|row_timed "r" (refine' sup_pop ?k1_z ?k2_z ?k3_z ?k4_z ?k5_z ?k6_z ?k7_z ?k8_z ?k9_z ?_));   (case k1_z=>k_asm);(case k2_z=>k_asm);(case k3_z=>k_asm);(case k4_z=>k_mem);(case k5_z=>exact News.get (by k_asm) (by k_mem));(case k6_z=>first|exact News.get (by k_asm) (by k_mem)|exact Fr.keep (by k_asm) _ _ (by assumption));(case k7_z=>k_is);(case k8_z=>ks_is);(case k9_z=>k_is);k_whole;intro q'_y h'_y F'_y N'_y l1_y;(try k_lt l1_y);(try k_sweep);(try dsimp only))))
 k_with "bcall ref" => row_timed "fz" ((k_here;(with_reducible show wpAny _ _ (call (.ref _) []) _ _ _);k_dflt (first   | (row_timed "r" (refine' call_llenK ?k1_z ?k2_z ?_);(case k1_z=>exact News.get (by k_asm) (by k_mem));(case k2_z=>exact News.get (by k_asm) (by k_mem));k_whole)   | (row_timed "r" (refine' call_linitK ?k1_z ?k2_z ?k3_z ?k4_z ?_);(case k1_z=>k_asm);(case k2_z=>k_asm);(case k3_z=>exact News.get (by k_asm) (by k_mem));(case k4_z=>k_upd);k_whole;intro h'_y F'_y N'_y;(try k_sweep))   | (row_timed "r" (refine' call_lpopK ?k1_z ?k2_z ?k3_z ?k4_z ?k5_z ?k6_z ?k7_z ?k8_z ?k9_z ?_);(case k1_z=>k_asm);(case k2_z=>k_asm);(case k3_z=>k_asm);(case k4_z=>exact News.get (by k_asm) (by k_mem));(case k5_z=>k_upd);(case k6_z=>assumption);(case k7_z=>k_is);(case k8_z=>k_is);(case k9_z=>kernel_rfl);k_whole;intro h'_y F'_y N'_y;(try k_sweep)))))
 k_with "bwpAt" => row_timed "fz" ((ks_step "exec Expr"; k_dflt (row_timed "r" (refine ks_wpAt_Expr_any ?_))))
 k_with "bwpAt" => row_timed "fz" ((ks_step "exec Return"; k_dflt (row_timed "r" (refine ks_wpAt_Return_some ?_))))
 k_with "bwpAt" => row_timed "fz" ((ks_step "eval Call"; k_dflt (row_timed "r" (refine ks_wpAt_MethodCall ?_))))
 k_with "bcallWith ref" => row_timed "fz" ((k_here;k_dflt ((with_reducible refine' callWith_bnd0 ?kq0_z ?kq1_z ?_);(case kq1_z=>exact News.get (by k_asm) (by k_mem));(case kq0_z=>first|exact .inr rfl|exact .inl rfl);k_whole)))
 k_with "ck_inst" => row_timed "fz" ((row_timed "r" (refine' acc_inst ?h1_z ?h2_z);(case h1_z=>exact News.get (by k_asm) (by k_mem));(case h2_z=>first|exact News.get (by k_asm) (by k_mem)|exact Fr.keep (by k_asm) _ _ (by assumption))))
 k_with "dmy enterS" => row_timed "fz" (k_dflt (row_timed "r" (refine' mut_defS _ _ ?kL_z ?k1_z ?k2_z ?k6_z ?k7_z ?k8_z ?k9_z ?kB_z ?_ ?c2_z ?c3_z ?c4_z ?c5_z);(case kL_z=>assumption);(case k1_z=>assumption);(case k2_z=>assumption);(case k6_z=>k_is);(case k7_z=>k_is);(case k8_z=>walk_at "my room");(case k9_z=>first|exact BindsTo.of_eq rfl|exact binds_K (Frag.In.keeps (by assumption) fun _ _ e=>of_hideAll _ e) rfl (by k_is) rfl rfl rfl);(case kB_z=>exact locs rfl);(case c2_z=>exact rfl);(case c3_z=>exact rfl);(case c4_z=>exact rfl);(case c5_z=>decide);k_whole;intro L'_y h'_y F'_y N'_y;(try dsimp only)))
 k_with "emy off" => row_timed "fz" (((rename LCg.Off1 _ _=>x9_z);k_dflt (repeat (first|(with_reducible refine off_12 x9_z ?_;clear x9_z;intro q9_y q9_y q9_y q9_y q9_y q9_y q9_y q9_y q9_y q9_y q9_y q9_y x9_z)|(with_reducible refine off_11 x9_z ?_;clear x9_z;intro q9_y q9_y q9_y q9_y q9_y q9_y q9_y q9_y q9_y q9_y q9_y x9_z)|(with_reducible refine off_10 x9_z ?_;clear x9_z;intro q9_y q9_y q9_y q9_y q9_y q9_y q9_y q9_y q9_y q9_y x9_z)|(with_reducible refine off_9 x9_z ?_;clear x9_z;intro q9_y q9_y q9_y q9_y q9_y q9_y q9_y q9_y q9_y x9_z)|(with_reducible refine off_8 x9_z ?_;clear x9_z;intro q9_y q9_y q9_y q9_y q9_y q9_y q9_y q9_y x9_z)|(with_reducible refine off_7 x9_z ?_;clear x9_z;intro q9_y q9_y q9_y q9_y q9_y q9_y q9_y x9_z)|(with_reducible refine off_6 x9_z ?_;clear x9_z;intro q9_y q9_y q9_y q9_y q9_y q9_y x9_z)|(with_reducible refine off_5 x9_z ?_;clear x9_z;intro q9_y q9_y q9_y q9_y q9_y x9_z)|(with_reducible refine off_4 x9_z ?_;clear x9_z;intro q9_y q9_y q9_y q9_y x9_z)|(with_reducible refine off_3 x9_z ?_;clear x9_z;intro q9_y q9_y q9_y x9_z)|(with_reducible refine off_2 x9_z ?_;clear x9_z;intro q9_y q9_y x9_z)|(with_reducible refine off_1 x9_z ?_;clear x9_z;intro q9_y x9_z)|(have q9_y:=off1_hd x9_z;replace x9_z:=off1_tl x9_z)))))
 k_with "emy top" => row_timed "fz" (first|assumption|exact Top.keeps (by k_asm) (Fr.keep (by k_asm)))
 k_with "emy room" => row_timed "fz" (((try dsimp (zetaDelta:=true) only);omega))
 k_with "emy enter" => row_timed "fz" (k_dflt (row_timed "r" (refine' pure_defL ?k1_z ?k2_z ?k6_z ?k7_z ?k8_z ?k9_z ?kB_z ?_ ?c2_z ?c3_z ?c4_z ?c5_z);(case k1_z=>k_in);(case k2_z=>walk_at "my top");(case k6_z=>k_is);(case k7_z=>k_is);(case k8_z=>walk_at "my room");(case k9_z=>first|exact BindsTo.of_eq rfl|exact binds_K (by k_in) rfl (by k_is) rfl rfl rfl);(case kB_z=>exact locs rfl);(case c2_z=>exact rfl);(case c3_z=>exact rfl);(case c4_z=>exact rfl);(case c5_z=>exact of_decide_eq_true rfl);k_whole;intro tk'_y L'_y h'_y V'_y B'_y F'_y N'_y;(try dsimp only)))
 k_with "emy enterC" => row_timed "fz" (k_dflt (row_timed "r" (refine' pure_defCL ?k1_z ?k2_z ?k6_z ?k7_z ?k8_z ?k9_z ?kB_z ?kD_z ?_ ?c2_z ?c3_z ?c4_z);(case k1_z=>k_in);(case k2_z=>walk_at "my top");(case k6_z=>k_is);(case k7_z=>k_is);(case k8_z=>walk_at "my room");(case k9_z=>first|exact BindsTo.of_eq rfl|exact binds_K (by k_in) rfl (by k_is) rfl rfl rfl);(case kB_z=>exact rfl);(case kD_z=>decide +kernel);(case c2_z=>exact rfl);(case c3_z=>exact rfl);(case c4_z=>exact rfl);k_whole;intro L'_y h'_y tk'_y cells'_y B'_y F'_y N'_y Y'_y;k_cells Y'_y;(try simp only [List.cons_append,List.nil_append] at N'_y);(try dsimp only)))
 k_with "emy back" => row_timed "fz" ((intro h9_y tk9_y e9_y;(have F9_y:=Fr.grownK (by assumption) e9_y);(have N9_y:=News.grown (by assumption) e9_y);clear e9_y;(try k_sweep)))
 k_with "emy backO" => row_timed "fz" ((intro r9_y h9_y tk9_y e9_y o9_y z9_y;(have F9_y:=Fr.grownK (by assumption) e9_y);(have N9_y:=news_addN (by assumption) (by assumption) e9_y o9_y z9_y);(have x9_z:=news_off (by assumption) z9_y);(try walk_at "my off");(try (rename LCg.Off1 _ _=>x9_z;clear x9_z));clear e9_y o9_y z9_y;(try k_sweep)))
 k_with "eCompSrc" => row_timed "fz" ((k_here;k_dflt (first|(row_timed "r" (refine LCg.CompSrc.ledger (by rfl) (by k_asm) (by k_asm) (by k_mem) (by first|size_fits|exact Nat.le_of_ble_eq_true rfl) ?_);intro g'_y;lcg_lit)|(row_timed "r" (refine LCg.CompSrc.base (by rfl) (by k_asm) (by k_asm) (by assumption) (by first|size_fits|exact Nat.le_of_ble_eq_true rfl) ?_);intro g'_y;lcg_lit)|(row_timed "r" (refine LCg.CompSrc.range (by rfl) (by k_asm) (by k_asm) (by assumption) (by first|exact of_decide_eq_true rfl|rfl) (by first|rfl|decide) (by first|size_fits|exact Nat.le_of_ble_eq_true rfl) ?_);intro g'_y;lcg_lit))))
 k_with "eexec Assign" => row_timed "fz" ((k_here;(with_reducible show wpAny _ _ (exec (Stmt.Assign [Expr.Name _ _] _ _) _) _ _ _);k_dflt (row_timed "r" (refine' asgN ?hs_z ?_);(case hs_z=>exact rfl);k_whole)))
 k_with "eexec Assign" => row_timed "fz" ((k_here;(with_reducible show wpAny _ _ (exec (Stmt.Assign [Expr.Tuple _ _ _] _ _) _) _ _ _);k_dflt (row_timed "r" (refine Assign_Tuple ?_ (by kernel_rfl) (by kernel_rfl)))))
 k_with "ebinaryOp Div int int" => row_timed "fz" ((k_here;k_dflt (row_timed "r" (refine' div_ii_small ?k1_z ?k2_z ?_);(case k1_z=>first|omega|(split<;>omega));(case k2_z=>first|omega|(split<;>omega)))))
 k_with "esubscriptTail Name Name ref int" => row_timed "fz" ((k_here;k_dflt (row_timed "r" (refine' item_at ?k1_z ?k2_z ?k3_z ?k4_z ?_ ?k5_z);(case k1_z=>is_list);(case k2_z=>first|exact of_decide_eq_true rfl|omega);(case k3_z=>first|exact of_decide_eq_true rfl|omega);(case k4_z=>exact rfl);(case k5_z=>with_unfolding_all rfl);k_whole)))
 k_with "eCompRest" => row_timed "fz" ((with_unfolding_all first|(row_timed "r" (refine LCg.CompRest.succ ?_);intro v'_y I'_y oI'_y C'_y oC'_y D'_y m'_y h'_y tk'_y E'_y hv'_y hC'_y hx'_y F'_y N'_y off'_y ne'_y;(first|lcg_open hv'_y|(obtain ⟨t9'_z,hv9'_z⟩:=hv'_y;subst hv9'_z));clear ne'_y)|row_timed "r" (refine LCg.CompRest.zero ?_)))
 k_with "eCompEnd" => row_timed "fz" ((k_dflt (refine LCg.CompEnd.intro (by assumption) (by assumption) _ (fun p hp=>hp) (by assumption) (by lcg_src) ?_)))
 k_with "ecall builtin:max" => row_timed "fz" ((k_here;(with_reducible show wpAny _ _ (call _ [.ref _]) _ _ _);k_dflt (row_timed "r" (refine' max3i ?k1_z ?k2_z ?k3_z ?k4_z ?_);(case k1_z=>exact rfl);(case k2_z=>k_asm);(case k3_z=>k_asm);(case k4_z=>is_list);k_whole;intro h9_y tk9_y t9_y F9_y N9_y)))
 k_with "ecall builtin:min" => row_timed "fz" ((k_here;(with_reducible show wpAny _ _ (call _ [.ref _]) _ _ _);k_dflt (row_timed "r" (refine' min3i ?k1_z ?k2_z ?k3_z ?k4_z ?_);(case k1_z=>exact rfl);(case k2_z=>k_asm);(case k3_z=>k_asm);(case k4_z=>is_list);k_whole;intro h9_y tk9_y t9_y F9_y N9_y)))
 k_with "eexec Assign cons ListComp" => row_timed "fz" ((k_here;(with_reducible show wpAny _ _ (exec (Stmt.Assign [Expr.Tuple _ _ _] _ _) _) _ _ _);k_dflt (row_timed "r" (refine Assign_Tuple ?_ (by kernel_rfl) (by kernel_rfl)))))
 k_with "eexec Assign cons Call" => row_timed "fz" ((k_here;(with_reducible show wpAny _ _ (exec (Stmt.Assign [Expr.Tuple _ _ _] _ _) _) _ _ _);k_dflt (row_timed "r" (refine Assign_Tuple ?_ (by kernel_rfl) (by kernel_rfl)))))
 k_with "eisTrue BoolOp" => row_timed "fz" ((k_here;(with_reducible show wpAny _ _ (isTrue (Expr.BoolOp BoolOp.Or [] _) _ _) _ _ _);k_dflt (row_timed "r" (refine isTrue_or_nil ?_))))
 k_with "eFinE" => row_timed "fz" (((unfold LCg.FinE);intro D'_y h'_y tk'_y F'_y N'_y o1'_y;(try walk_at "my off");(try (rename LCg.Off1 _ _=>x9_z;clear x9_z));(try simp only [List.nil_append,List.cons_append] at N'_y);(try dsimp only)))
 k_with "ek_ne" => row_timed "fz" ((row_timed "r" (refine neN ?_);(try dsimp only);first|exact Apart.ne (by assumption)|exact Apart.ne' (by assumption)))
 k_with "ek_ne" => row_timed "fz" (first|exact Apart.ne (by with_reducible assumption)|exact Apart.ne' (by with_reducible assumption))
 k_with "eomega" => first|with_reducible exact Int.natCast_nonneg _|fail
 k_with "eomega" => first|exact rm0 (by with_reducible assumption)|fail
 k_with "eomega" => first|exact rm1 (by with_reducible assumption) rfl|fail
 k_with "eomega" => first|exact rm2 (by with_reducible assumption) rfl|fail
 k_with "eomega" => first|decide|fail
 k_with "emy frame" => row_timed "fz" ((rename Fr _ _ _ _=>F9_z;row_timed "r" (refine Fr.lets F9_z ?_);clear F9_z;intro m9_y F9_z))
 k_with "estoreName" => row_timed "fz" ((k_here;k_dflt (first|(row_timed "r" (refine' storeX_LI ?F_z ?N_z ?_ ?a_z ?b_z);(case F_z=>k_asm);(case N_z=>k_asm);(case a_z=>rfl);(case b_z=>rfl);k_whole;intro h'_y m'_y F'_y N'_y;(try k_sweep))|(row_timed "r" (refine' storeX_C ?F_z ?N_z ?c_z ?U_z ?d_z ?_ ?a_z ?b_z);(case a_z=>rfl);(case b_z=>rfl);(case F_z=>k_asm);(case N_z=>k_asm);(case c_z=>rfl);(case U_z=>k_updF);(case d_z=>k_asm);k_whole;intro h'_y o'_y F'_y N'_y d'_y;(try dsimp only [List.cons_append,List.nil_append] at N'_y);(try k_sweep)))))
 k_with "esubscriptTail Name Name ref int" => row_timed "fz" ((k_here;k_dflt (row_timed "r" (refine' item_tupleT ?t_z ?a_z ?b_z ?c_z ?d_z ?_ ?e_z);(case t_z=>exact News.isTup (by k_asm) (by k_mem));(case a_z=>first|exact of_decide_eq_true rfl|omega);(case b_z=>first|exact of_decide_eq_true rfl|omega);(case c_z=>exact rfl);(case d_z=>exact rfl);(case e_z=>with_unfolding_all rfl);k_whole)))
 k_with "ecall type:int" => row_timed "fz" ((k_here;k_dflt (row_timed "r" (refine int_is (by assumption) ?_))))
 k_with "emy units" => row_timed "fz" (((try dsimp (zetaDelta:=true) only);(try simp only [Around.deeper_units,Around.in1_units]);(try dsimp only);omega))
 k_with "emy enterM" => row_timed "fz" (k_dflt (row_timed "r" (refine' mut_defL _ _ ?kL_z ?k1_z ?k2_z ?k6_z ?k7_z ?k8_z ?k9_z ?kB_z ?_ ?c2_z ?c3_z ?c4_z ?c5_z);(case kL_z=>assumption);(case k1_z=>assumption);(case k2_z=>assumption);(case k6_z=>k_is);(case k7_z=>k_is);(case k8_z=>walk_at "my room");(case k9_z=>first|exact BindsTo.of_eq rfl|exact binds_K (Frag.In.keeps (by assumption) fun _ _ e=>of_hideAll _ e) rfl (by k_is) rfl rfl rfl);(case kB_z=>exact locs rfl);(case c2_z=>exact rfl);(case c3_z=>exact rfl);(case c4_z=>exact rfl);(case c5_z=>exact of_decide_eq_true rfl);k_whole;intro tk'_y L'_y h'_y V'_y B'_y F'_y N'_y;(try dsimp only)))
 k_with "emy enterMX" => row_timed "fz" (k_dflt (row_timed "r" (refine' mut_defXL _ _ ?kL_z ?k1_z ?k2_z ?k6_z ?k7_z ?k8_z ?k9_z ?kB_z ?_ ?c2_z ?c3_z ?c4_z ?c5_z);(case kL_z=>assumption);(case k1_z=>assumption);(case k2_z=>assumption);(case k6_z=>k_is);(case k7_z=>k_is);(case k8_z=>walk_at "my room");(case k9_z=>first|exact BindsTo.of_eq rfl|exact binds_K (Frag.In.keeps (by assumption) fun _ _ e=>of_hideAll _ e) rfl (by k_is) rfl rfl rfl);(case kB_z=>exact locs rfl);(case c2_z=>exact rfl);(case c3_z=>exact rfl);(case c4_z=>exact rfl);(case c5_z=>exact of_decide_eq_true rfl);k_whole;intro L'_y h'_y V'_y B'_y F'_y N'_y;(try dsimp only)))
 k_with "eexecs cons" => (k_here;first|k_gentoks|((try dsimp only);first|with_reducible refine execs_retL ?_|(row_timed "r" (refine execs_retA ?_);intro K7 hN7)|(row_timed "r" (refine execs_retE ?_);intro K7 hN7)|(row_timed "r" (refine execs_retR ?_);intro K8 hR8)|(row_timed "r" (refine execs_retF ?_);intro K9 hN9 hR9)))
 k_with "eRet" => (k_dflt (first|(row_timed "r" (refine' hN7 _ ?_);clear hN7 K7)|(row_timed "r" (refine' hR8 _ _ ?_);clear hR8 K8)|(row_timed "r" (refine' hN9 _ ?_);clear hN9 hR9 K9)|(row_timed "r" (refine' hR9 _ _ ?_);clear hN9 hR9 K9));(try dsimp only))
 k_with "eeval BinOp" => row_timed "fz" ((k_here;k_dflt ((with_reducible refine' ev_ok ?kF_z 3 ?ke_z ?_);(case kF_z=>k_asm);(case ke_z=>exact rfl);k_whole)))
 k_with "eisTrue Compare" => row_timed "fz" ((k_here;k_dflt ((with_reducible refine' cmp_ok ?kF_z 3 ?k1_z ?k2_z ?k3_z ?k4_z ?_);(case kF_z=>k_asm);(case k1_z=>exact rfl);(case k2_z=>exact rfl);(case k3_z=>with_unfolding_all rfl);(case k4_z=>exact rfl);k_whole)))
 k_with "eeval Subscript" => row_timed "fz" ((k_here;k_dflt ((with_reducible refine' sub_ok ?kF_z 3 ?k1_z ?k2_z ?_);(case kF_z=>k_asm);(case k1_z=>exact rfl);(case k2_z=>exact rfl);k_whole)))
 k_with "eis_list" => row_timed "fz" (first|with_reducible assumption|k_dflt (exact News.isList (by with_reducible assumption) (by news_mem)))
 k_with "ek_mem" => row_timed "fz" (first|with_reducible exact m0|with_reducible exact m1|with_reducible exact m2|with_reducible exact m3|with_reducible exact m4|with_reducible exact m5|with_reducible exact m6|with_reducible exact m7|with_reducible exact m8|with_reducible exact m9|with_reducible exact m10|with_reducible exact m11)
 k_with "espliced" => row_timed "fz" ((k_here;k_dflt ((with_reducible refine' argN ?kk_z ?_);(case kk_z=>exact rfl);k_whole)))
 k_with "eeval Call" => row_timed "fz" ((k_here;with_reducible refine callN ?_))
 k_with "eisTrue" => row_timed "fz" ((k_here;k_dflt (row_timed "r" (refine' istN ?kk_z ?_);(case kk_z=>exact rfl);k_whole)))
 k_with "eeval Call" => row_timed "fz" ((k_here;k_dflt (first|((with_reducible refine' callF ?kF_z ?kX_z ?kT_z ?ke_z ?kp_z ?kk_z ?kx_z ?kd_z ?kv_z ?_);(case kX_z=>k_asm);(case kx_z=>exact rfl);(case ke_z=>k_is);(case kF_z=>k_asm);(case kT_z=>with_reducible assumption);(case kp_z=>k_is);(case kk_z=>exact rfl);(case kd_z=>exact rfl);(case kv_z=>exact rfl);k_whole)|((with_reducible refine' callB ?kF_z ?kX_z ?kT_z ?ke_z ?kv_z ?kn_z ?kp_z ?kk_z ?kx_z ?kd_z ?kw_z ?_);(case kX_z=>k_asm);(case kx_z=>exact rfl);(case ke_z=>k_is);(case kF_z=>k_asm);(case kT_z=>with_reducible assumption);(case kv_z=>boot_fast);(case kp_z=>exact rfl);(case kn_z=>exact of_decide_eq_true rfl);(case kk_z=>exact rfl);(case kd_z=>exact rfl);(case kw_z=>exact rfl);k_whole))))
 k_with "espliced" => row_timed "fz" ((k_here;(with_reducible show wpAny _ _ (spliced (backTo _ (starEach (_::_) _))) _ _ _);k_dflt ((with_reducible refine' args_ev ?kF_z 3 ?ke_z ?_);(case kF_z=>k_asm);(case ke_z=>exact rfl);k_whole)))
 k_with "ebinaryOp Div float float" => row_timed "fz" ((k_here;k_dflt ((with_reducible refine' PyProof.Rows.truediv_float_or ?kq0_z ?_ ?_);(case kq0_z=>exact rfl);(focus (f_raise1));intro _;(try dsimp only))))
 k_with "ebinaryOp Mod float float" => row_timed "fz" ((k_here;k_dflt ((with_reducible refine' PySem.Flt.mod_ff ?kq0_z ?_ ?_);(case kq0_z=>exact rfl);(focus (f_raise1));intro _;(try dsimp only))))
 k_with "eite" => row_timed "fz" ((k_closed;first|with_reducible refine PySem.W.ite_pos (by decide) ?_|with_reducible refine PySem.W.ite_neg (by decide) ?_))
 k_with "fgetMethod ref" => row_timed "fz" ((k_here;k_dflt (row_timed "r" (refine' meth_fn ?X_z ?I_z ?g_z ?k_z ?f_z ?t_z ?s_z ?_);(case X_z=>k_in);(case I_z=>k_inst);(case g_z=>k_is);(case k_z=>k_is);(case f_z=>k_is);(case t_z=>k_is);(case s_z=>exact rfl);k_whole)))
 k_with "fcall ref" => row_timed "fz" ((k_here;(with_reducible show wpAny _ _ (call (.ref 133) _) _ _ _);k_dflt (row_timed "r" (refine' c_count ?X_z ?T_z ?d_z ?x_z ?y_z ?n_z ?_);(case x_z=>exact News.get (by k_asm) (by k_mem));(case y_z=>exact News.get (by k_asm) (by k_mem));(case X_z=>exact Frag.In.keeps (by k_asm) (hide_keep (by k_asm) (by k_asm) (hide_mem2 (by k_mem) (by k_mem))));(case T_z=>exact Top.keeps (by k_asm) (hide_keep (by k_asm) (by k_asm) (hide_mem2 (by k_mem) (by k_mem))));(case d_z=>walk_at "my room");(case n_z=>assumption);k_whole;intro tk9_y h9_y e9_y x9_y d9_y t9_y;(have z9_y:=but_same (by k_asm) (by k_asm) (by k_mem) (by k_mem) e9_y x9_y d9_y);clear e9_y x9_y d9_y;(obtain ⟨F9_z,N9_z⟩:=z9_y);(try k_sweep))))
 k_with "gmy enterS" => row_timed "fz" (k_dflt (row_timed "r" (refine' mut_defS _ _ ?kL_z ?k1_z ?k2_z ?k6_z ?k7_z ?k8_z ?k9_z ?kB_z ?_ ?c2_z ?c3_z ?c4_z ?c5_z);(case kL_z=>assumption);(case k1_z=>assumption);(case k2_z=>assumption);(case k6_z=>k_is);(case k7_z=>k_is);(case k8_z=>walk_at "my room");(case k9_z=>first|exact BindsTo.of_eq rfl|exact binds_K (Frag.In.keeps (by assumption) fun _ _ e=>of_hideAll _ e) rfl (by k_is) rfl rfl rfl);(case kB_z=>exact locs rfl);(case c2_z=>exact rfl);(case c3_z=>exact rfl);(case c4_z=>exact rfl);(case c5_z=>exact of_decide_eq_true rfl);k_whole;intro L'_y h'_y F'_y N'_y;(try dsimp only)))
 k_with "gwpAt" => row_timed "fz" ((dsimp only;ks_step "execs cons"; k_dflt (row_timed "r" (refine ks_wpAt_execs_cons ?_))))
 k_with "homega" => first|with_reducible exact ctG1 hk|fail
 k_with "homega" => first|with_reducible exact ctG2|fail
 k_with "homega" => first|with_reducible exact ctG3 h1 h3|fail
 k_with "homega" => first|with_reducible exact ctG4 h2 h4|fail
 k_with "homega" => first|with_reducible exact ctG5 hl this|fail
 k_with "hgetAttr ref" => row_timed "fz" ((k_here;k_dflt (row_timed "r" (refine' get_own9 (od:=some _) ?X_z ?I_z ?g_z ?k_z ?s_z (findObj_own ?h1_z ?h2_z ?h3_z ?h4_z) ?h_z ?_);(case X_z=>k_in);(case I_z=>exact acc_inst (Fr.keep (by k_asm) _ _ (by assumption)) (Fr.keep (by k_asm) _ _ (by assumption)));(case g_z=>k_is);(case k_z=>k_is);(case s_z=>k_is);(case h1_z=>k_is);(case h2_z=>k_is);(case h3_z=>k_is);(case h4_z=>exact rfl);(case h_z=>k_handed);k_whole)))
 k_with "iomega" => first|with_reducible exact ctP1|fail
 k_with "isubscriptTail" => row_timed "fz" ((k_here;(with_reducible show wpAny _ _ (subscriptTail _ (PySem.Expr.Slice _ _ none _) (Value.ref _) (Value.ref _)) _ _ _);k_dflt (row_timed "r" (refine' acc_sliceK ?kq0_z ?kq1_z ?kq2_z ?kq3_z ?kq4_z ?kq5_z ?kq6_z ?kq7_z ?kq8_z ?kq9_z ?kq10_z ?kq11_z ?kq12_z ?_);(case kq0_z=>k_asm);(case kq1_z=>k_asm);(case kq2_z=>k_asm);(case kq3_z=>first|exact News.get (by k_asm) (by k_mem)|exact Fr.keep (by k_asm) _ _ (by assumption));(case kq4_z=>first|exact News.get (by k_asm) (by k_mem)|exact Fr.keep (by k_asm) _ _ (by assumption));(case kq5_z=>k_is);(case kq6_z=>k_is);(case kq7_z=>k_is);(case kq8_z=>kmk_part);(case kq9_z=>kmk_part);(case kq10_z=>exact pick_from1 _);(case kq11_z=>with_unfolding_all rfl);(case kq12_z=>assumption);k_whole;intro D'_y h'_y F'_y N'_y l1_y;(try k_lt l1_y);(try k_sweep))))
 k_with "isetItem ref ref ref" => row_timed "fz" ((k_here;k_dflt (row_timed "r" (refine' acc_setK ?kq0_z ?kq1_z ?kq2_z ?kq3_z ?kq4_z ?kq5_z ?kq6_z ?kq7_z ?kq8_z ?kq9_z ?kq10_z ?kq11_z ?kq12_z ?kq13_z ?kq14_z ?kq15_z ?kq16_z ?_);(case kq0_z=>k_asm);(case kq1_z=>k_asm);(case kq2_z=>k_asm);(case kq3_z=>k_updF);(case kq4_z=>first|exact News.get (by k_asm) (by k_mem)|exact Fr.keep (by k_asm) _ _ (by assumption));(case kq5_z=>k_is);(case kq6_z=>k_is);(case kq7_z=>k_is);(case kq8_z=>first|exact News.isList (by k_asm) (by k_mem)|exact ⟨_,Fr.keep (by k_asm) _ _ (by assumption),rfl,_,rfl⟩);(case kq9_z=>kmk_part);(case kq10_z=>kmk_part);(case kq11_z=>first|exact bounds_from1 _|exact bounds_all _);(case kq12_z=>omega);(case kq13_z=>exact rfl);(case kq14_z=>assumption);(case kq15_z=>first|assumption|decide);(case kq16_z=>first|assumption|k_ne);k_whole;intro h'_y n'_y F'_y N'_y;(try k_sweep))))
 k_with "isetAttr ref" => row_timed "fz" ((k_here;k_dflt (row_timed "r" (refine' set_dict9 ?kq1_z ?kq2_z ?kq3_z ?kq4_z ?kq5_z ?kq6_z ?kq7_z ?kq8_z ?kq9_z ?kq10_z put_size ?kq12_z ?kq13_z ?_);(case kq1_z=>k_asm);(case kq2_z=>k_asm);(case kq3_z=>k_asm);(case kq4_z=>k_inst);(case kq5_z=>exact rfl);(case kq6_z=>k_is);(case kq7_z=>kernel_rfl);(case kq8_z=>k_is);(case kq9_z=>k_is);(case kq10_z=>exact rfl);(case kq12_z=>k_upd);(case kq13_z=>exact Nat.le_of_ble_eq_true rfl);k_whole;intro h'_y F'_y N'_y;(try k_sweep);(try dsimp only))))
 k_with "jgetMethod ref" => row_timed "fz" ((k_here;k_dflt (row_timed "r" (refine' meth_bi ?X_z ?I_z ?g_z ?k_z ?f_z ?t_z ?s_z ?_);(case X_z=>k_in);(case I_z=>k_inst);(case g_z=>k_is);(case k_z=>k_is);(case f_z=>k_is);(case t_z=>k_is);(case s_z=>exact rfl);k_whole)))
 k_with "jcall builtin:list.append" => row_timed "fz" ((k_here;k_dflt (row_timed "r" (refine' acc_appendK ?F_z ?X_z ?N_z ?U_z ?hs_z ?hz_z ?_);(case F_z=>k_asm);(case X_z=>k_in);(case N_z=>k_asm);(case U_z=>k_upd);(case hs_z=>k_is);(case hz_z=>assumption);k_whole);intro h'_y F'_y N'_y;(try k_sweep)))
 k_with "kcall ref" => row_timed "fz" ((k_here;(with_reducible show wpAny _ _ (call (.ref 56) [.float _ _,.float _ _,.float _ _]) _ _ _);k_dflt (row_timed "r" (refine' c_v ?kX_z ?kT_z ?kd_z ?_);(case kX_z=>k_in);(case kT_z=>walk_at "my top");(case kd_z=>walk_at "my room");intro t9_y;walk_at "my back")))
 k_with "kcall builtin:max" => row_timed "fz" ((k_here;(with_reducible show wpAny _ _ (call _ [.float _ _,.float _ _,.float _ _]) _ _ _);k_dflt (row_timed "r" (refine' max3f ?k1_z ?k2_z ?k3_z ?_);(case k1_z=>exact rfl);(case k2_z=>k_asm);(case k3_z=>k_asm);intro h9_y tk9_y t9_y F9_y N9_y)))
 k_with "kcall builtin:min" => row_timed "fz" ((k_here;(with_reducible show wpAny _ _ (call _ [.float _ _,.float _ _,.float _ _]) _ _ _);k_dflt (row_timed "r" (refine' min3f ?k1_z ?k2_z ?k3_z ?_);(case k1_z=>exact rfl);(case k2_z=>k_asm);(case k3_z=>k_asm);intro h9_y tk9_y t9_y F9_y N9_y)))
 k_with "lsubscriptTail Name Name ref int" => row_timed "fz" ((k_here;k_dflt (row_timed "r" (refine' item3k ?kq0_z ?_ ?kq1_z);(case kq0_z=>exact Fr.keep (by k_asm) _ _ (by with_reducible assumption));(case kq1_z=>with_unfolding_all rfl);k_whole)))
 k_with "lsubscriptTail Name Name ref int" => row_timed "fz" ((k_here;k_dflt (row_timed "r" (refine' item3p ?kq0_z ?_ ?kq1_z);(case kq0_z=>exact News.get (by k_asm) (by k_mem));(case kq1_z=>with_unfolding_all rfl);k_whole)))
 k_with "lsubscriptTail Name Name ref int" => row_timed "fz" ((k_here;k_dflt (row_timed "r" (refine' tup3k ?kq0_z ?_ ?kq1_z);(case kq0_z=>exact News.isTup (by k_asm) (by k_mem));(case kq1_z=>with_unfolding_all rfl);k_whole)))
 k_with "lcall ref" => row_timed "fz" ((k_here;(with_reducible show wpAny _ _ (call (.ref 42) [.float _ _,.float _ _,.float _ _]) _ _ _);row_timed "r" (refine StopC.of ?_)))
 k_with "lcall ref" => row_timed "fz" ((k_here;(with_reducible show wpAny _ _ (call (.ref 49) [.float _ _,.float _ _,.float _ _]) _ _ _);row_timed "r" (refine StopC.of ?_)))
 k_with "lcompareOp Eq ref ref" => row_timed "fz" ((k_here;k_dflt (row_timed "r" (refine' eq3_true ?k1_z ?k2_z ?e0_z ?e1_z ?e2_z ?hu_z ?_);(case k1_z=>is_list);(case k2_z=>is_list);(case e0_z=>rfl);(case e1_z=>rfl);(case e2_z=>rfl);(case hu_z=>walk_at "my units");k_whole)))
 k_with "mCompEnd" => row_timed "fz" ((k_dflt (row_timed "r" (refine' LCg.CompEnd.intro ?kq0_z ?kq1_z _ ?kq2_z ?kq3_z ?kq4_z ?_);(case kq3_z=>with_reducible assumption);(case kq0_z=>k_asm);(case kq1_z=>k_asm);(case kq2_z=>walk_at "my in");(case kq4_z=>lcg_src))))
 k_with "mCompRest" => row_timed "fz" (row_timed "r" (refine StopC.of ?_))
 k_with "mmy elt" => row_timed "fz" (((rename (∀ (y:Value) (h:Heap) (tk:Nat),Fr _ _ h _→_)=>hE8_z);(try dsimp only);row_timed "r" (refine' Elt.mk hE8_z ?eF_z ?eN_z ?eS_z ?eR_z);(case eF_z=>k_asm);(case eN_z=>k_asm);(case eS_z=>walk_at "my in");(case eR_z=>first|exact ⟨_,rfl⟩|exact ⟨_,_,rfl⟩)))
 k_with "nmy os" => row_timed "fz" ((repeat (first|assumption|rfl|(row_timed "r" (refine Eq.trans (by assumption) ?_)))))
 k_with "nk_steps" => row_timed "fz" (repeat' (first|(k_unfold;(try dsimp only))|(k_end;kc_close)|walk1|(dsimp only;walk1)|fail "no step"))
 k_with "nmy mem1" => row_timed "fz" (first|k_mem|with_reducible assumption|walk_at "my tail")
 k_with "nmy tail" => row_timed "fz" (first|with_reducible assumption|with_reducible exact s1 (by with_reducible assumption)|with_reducible exact s2 (by with_reducible assumption)|with_reducible exact s3 (by with_reducible assumption)|with_reducible exact s4 (by with_reducible assumption)|with_reducible exact s5 (by with_reducible assumption)|with_reducible exact s6 (by with_reducible assumption)|with_reducible exact s7 (by with_reducible assumption)|with_reducible exact s8 (by with_reducible assumption)|with_reducible exact s9 (by with_reducible assumption)|with_reducible exact s10 (by with_reducible assumption)|with_reducible exact s11 (by with_reducible assumption)|(row_timed "r" (refine' List.mem_cons_of_mem _ ?_);walk_at "my tail"))
 k_with "nmy in" => row_timed "fz" (first|exact List.forall_mem_nil _|(row_timed "r" (refine' in_cons ?_ ?_);(walk_at "my mem1");walk_at "my in")|(intro p9_y h9_y;walk_at "my tail"))
 k_with "nmy same" => row_timed "fz" ((intro z_y h2_y h3_y;(try simp only [List.forall_mem_cons,List.not_mem_nil,false_implies,implies_true,and_true,ne_eq] at h2_y);(have h4_y:=h3_y);(simp only [List.contains_cons,List.contains_nil,Bool.or_false,Bool.or_eq_false_iff,beq_eq_false_iff_ne,ne_eq] at h4_y);(simp only [mMap,kstB,h2_y,h3_y,h4_y,if_false,Bool.false_eq_true]);(try simp only [List.contains_cons,List.contains_nil,Bool.or_false,Bool.or_eq_true,beq_iff_eq,h4_y,or_self,false_or,or_false,if_false]);done))
 k_with "nmy all" => row_timed "fz" (((try dsimp only);(repeat (row_timed "r" (refine' all_cons (by with_unfolding_all rfl) ?_)));exact all_nil))
 k_with "omy sm" => row_timed "fz" (first|with_reducible exact Same.refl|with_reducible exact Same.map0|(with_reducible refine Same.ins (by decide +kernel) ?_;walk_at "my sm")|(with_reducible refine Same.mapc (by decide +kernel) ?_;walk_at "my sm")|(with_reducible refine Same.map2 (by decide +kernel) ?_;walk_at "my sm")|(with_reducible refine Same.kst (by decide +kernel) ?_;walk_at "my sm")|(with_reducible refine Same.keep (by with_unfolding_all rfl) ?_;walk_at "my sm")|(with_reducible refine Same.kst0 ?_;with_reducible assumption))
 k_with "omy same" => row_timed "fz" ((row_timed "r" (refine Same.goal ?_);walk_at "my sm"))
 k_with "pcall ref" => row_timed "fz" ((k_here;(with_reducible show wpAny _ _ (call (.ref 80) _) _ _ _);k_dflt (row_timed "r" (refine' c_pushK ?kq0_z ?kq1_z ?kq2_z ?kq3_z ?kq4_z ?kq5_z ?kq6_z ?kq7_z ?kq8_z ?_);(case kq0_z=>k_asm);(case kq1_z=>k_asm);(case kq2_z=>k_asm);(case kq3_z=>k_asm);(case kq4_z=>walk_at "my room");(case kq5_z=>k_updF);(case kq6_z=>k_mem);(case kq7_z=>walk_at "my len");(case kq8_z=>assumption);k_whole;walk_at "my fresh")))
 k_with "pcall ref" => row_timed "fz" ((k_here;(with_reducible show wpAny _ _ (call (.ref 136) []) _ _ _);k_dflt (row_timed "r" (refine' c_new0 ?kq0_z ?kq1_z ?kq2_z ?kq3_z ?kq4_z ?_);(case kq0_z=>k_asm);(case kq1_z=>k_asm);(case kq2_z=>k_asm);(case kq3_z=>k_asm);(case kq4_z=>walk_at "my room");k_whole;intro tk9_y h9_y x9_y d9_y hs9_y td9_y e9_y tq9_y A9_y F9_y N9_y l9_y l8_y;(try k_lt l9_y);(try k_sweep);(try dsimp only))))
 k_with "pcall ref" => row_timed "fz" ((k_here;(with_reducible show wpAny _ _ (call (.ref 136) [.int _ _]) _ _ _);k_dflt (row_timed "r" (refine' c_new ?kq0_z ?kq1_z ?kq2_z ?kq3_z ?kq4_z ?_);(case kq0_z=>k_asm);(case kq1_z=>k_asm);(case kq2_z=>k_asm);(case kq3_z=>k_asm);(case kq4_z=>walk_at "my room");k_whole;intro tk9_y h9_y x9_y d9_y hs9_y td9_y e9_y A9_y F9_y N9_y l9_y l8_y;(try k_lt l9_y);(try k_sweep);(try dsimp only))))
 k_with "pcall ref" => row_timed "fz" ((k_here;(dsimp only [List.nil_append,List.cons_append]);walk_at "call ref"))
 k_with "pcall ref" => row_timed "fz" ((k_here;(with_reducible show wpAny _ _ (call (.ref 145) _) _ _ _);k_dflt (row_timed "r" (refine' c_turnK ?kq0_z ?kq1_z ?kq2_z ?kq3_z ?kq4_z ?kq5_z ?kq6_z ?kq7_z ?kq8_z ?kq9_z ?_);(case kq0_z=>k_asm);(case kq1_z=>k_asm);(case kq2_z=>k_asm);(case kq3_z=>k_asm);(case kq9_z=>walk_at "my get");(case kq4_z=>walk_at "my room");(case kq5_z=>walk_at "my units");(case kq6_z=>assumption);(case kq7_z=>assumption);(case kq8_z=>walk_at "my turn");k_whole;intro r9_y h9_y tk9_y t9_y u9_y v9_y n9_y F9_y N9_y x9_z;(replace x9_z:=off1_of x9_z);(try walk_at "my off");(try (rename LCg.Off1 _ _=>x9_z;clear x9_z));(try k_sweep);(try dsimp only))))
 k_with "qcall ref" => row_timed "fz" ((k_here;(with_reducible show wpAny _ _ (call (.ref 80) _) _ _ _);k_dflt (row_timed "r" (refine' c_pushK ?kq0_z ?kq1_z ?kq2_z ?kq3_z ?kq4_z ?kq5_z ?kq6_z ?kq7_z ?kq8_z ?_);(case kq0_z=>k_asm);(case kq1_z=>k_asm);(case kq2_z=>k_asm);(case kq3_z=>k_asm);(case kq4_z=>walk_at "my room");(case kq5_z=>k_updF);(case kq6_z=>k_mem);(case kq7_z=>walk_at "my len");(case kq8_z=>assumption);k_whole;walk_at "my fresh")))
 k_with "qcall ref" => row_timed "fz" ((k_here;(with_reducible show wpAny _ _ (call (.ref 136) []) _ _ _);k_dflt (row_timed "r" (refine' c_new0 ?kq0_z ?kq1_z ?kq2_z ?kq3_z ?kq4_z ?_);(case kq0_z=>k_asm);(case kq1_z=>k_asm);(case kq2_z=>k_asm);(case kq3_z=>k_asm);(case kq4_z=>walk_at "my room");k_whole;intro tk9_y h9_y x9_y d9_y hs9_y td9_y e9_y tq9_y A9_y F9_y N9_y l9_y l8_y;(try k_lt l9_y);(try k_sweep);(try dsimp only))))
 k_with "qcall ref" => row_timed "fz" ((k_here;(with_reducible show wpAny _ _ (call (.ref 136) [.int _ _]) _ _ _);k_dflt (row_timed "r" (refine' c_new ?kq0_z ?kq1_z ?kq2_z ?kq3_z ?kq4_z ?_);(case kq0_z=>k_asm);(case kq1_z=>k_asm);(case kq2_z=>k_asm);(case kq3_z=>k_asm);(case kq4_z=>walk_at "my room");k_whole;intro tk9_y h9_y x9_y d9_y hs9_y td9_y e9_y A9_y F9_y N9_y l9_y l8_y;(try k_lt l9_y);(try k_sweep);(try dsimp only))))
 k_with "qcall ref" => row_timed "fz" ((k_here;(dsimp only [List.nil_append,List.cons_append]);walk_at "call ref"))
 k_with "qcall ref" => row_timed "fz" ((k_here;(with_reducible show wpAny _ _ (call (.ref 145) _) _ _ _);k_dflt (row_timed "r" (refine' c_turnK ?kq0_z ?kq1_z ?kq2_z ?kq3_z ?kq4_z ?kq5_z ?kq6_z ?kq7_z ?kq8_z ?kq9_z ?_);(case kq0_z=>k_asm);(case kq1_z=>k_asm);(case kq2_z=>k_asm);(case kq3_z=>k_asm);(case kq9_z=>walk_at "my get");(case kq4_z=>walk_at "my room");(case kq5_z=>walk_at "my units");(case kq6_z=>assumption);(case kq7_z=>assumption);(case kq8_z=>walk_at "my turn");k_whole;intro r9_y h9_y tk9_y t9_y u9_y v9_y n9_y F9_y N9_y x9_z;(replace x9_z:=off1_of x9_z);(try walk_at "my off");(try (rename LCg.Off1 _ _=>x9_z;clear x9_z));(try k_sweep);(try dsimp only))))
 k_with "rcall ref" => row_timed "fz" ((k_here;(with_reducible show wpAny _ _ (call (.ref 80) _) _ _ _);k_dflt (row_timed "r" (refine' c_pushK ?kq0_z ?kq1_z ?kq2_z ?kq3_z ?kq4_z ?kq5_z ?kq6_z ?kq7_z ?kq8_z ?_);(case kq0_z=>k_asm);(case kq1_z=>k_asm);(case kq2_z=>k_asm);(case kq3_z=>k_asm);(case kq4_z=>walk_at "my room");(case kq5_z=>k_updF);(case kq6_z=>k_mem);(case kq7_z=>walk_at "my len");(case kq8_z=>assumption);k_whole;walk_at "my fresh")))
 k_with "rcall ref" => row_timed "fz" ((k_here;(with_reducible show wpAny _ _ (call (.ref 136) []) _ _ _);k_dflt (row_timed "r" (refine' c_new0 ?kq0_z ?kq1_z ?kq2_z ?kq3_z ?kq4_z ?_);(case kq0_z=>k_asm);(case kq1_z=>k_asm);(case kq2_z=>k_asm);(case kq3_z=>k_asm);(case kq4_z=>walk_at "my room");k_whole;intro tk9_y h9_y x9_y d9_y hs9_y td9_y e9_y tq9_y A9_y F9_y N9_y l9_y l8_y;(try k_lt l9_y);(try k_sweep);(try dsimp only))))
 k_with "rcall ref" => row_timed "fz" ((k_here;(with_reducible show wpAny _ _ (call (.ref 136) [.int _ _]) _ _ _);k_dflt (row_timed "r" (refine' c_new ?kq0_z ?kq1_z ?kq2_z ?kq3_z ?kq4_z ?_);(case kq0_z=>k_asm);(case kq1_z=>k_asm);(case kq2_z=>k_asm);(case kq3_z=>k_asm);(case kq4_z=>walk_at "my room");k_whole;intro tk9_y h9_y x9_y d9_y hs9_y td9_y e9_y A9_y F9_y N9_y l9_y l8_y;(try k_lt l9_y);(try k_sweep);(try dsimp only))))
 k_with "rcall ref" => row_timed "fz" ((k_here;(dsimp only [List.nil_append,List.cons_append]);walk_at "call ref"))
 k_with "rcall ref" => row_timed "fz" ((k_here;(with_reducible show wpAny _ _ (call (.ref 145) _) _ _ _);k_dflt (row_timed "r" (refine' c_turnK ?kq0_z ?kq1_z ?kq2_z ?kq3_z ?kq4_z ?kq5_z ?kq6_z ?kq7_z ?kq8_z ?kq9_z ?_);(case kq0_z=>k_asm);(case kq1_z=>k_asm);(case kq2_z=>k_asm);(case kq3_z=>k_asm);(case kq9_z=>walk_at "my get");(case kq4_z=>walk_at "my room");(case kq5_z=>walk_at "my units");(case kq6_z=>assumption);(case kq7_z=>assumption);(case kq8_z=>walk_at "my turn");k_whole;intro r9_y h9_y tk9_y t9_y u9_y v9_y n9_y F9_y N9_y x9_z;(replace x9_z:=off1_of x9_z);(try walk_at "my off");(try (rename LCg.Off1 _ _=>x9_z;clear x9_z));(try k_sweep);(try dsimp only))))
 k_with "scall ref" => row_timed "fz" ((k_here;(dsimp only [List.nil_append,List.cons_append]);walk_at "call ref"))
 k_with "tcall ref" => row_timed "fz" ((k_here;(with_reducible show wpAny _ _ (call (.ref 80) _) _ _ _);k_dflt (row_timed "r" (refine' c_pushK ?kq0_z ?kq1_z ?kq2_z ?kq3_z ?kq4_z ?kq5_z ?kq6_z ?kq7_z ?kq8_z ?_);(case kq0_z=>k_asm);(case kq1_z=>k_asm);(case kq2_z=>k_asm);(case kq3_z=>k_asm);(case kq4_z=>walk_at "my room");(case kq5_z=>k_updF);(case kq6_z=>k_mem);(case kq7_z=>walk_at "my len");(case kq8_z=>assumption);k_whole;walk_at "my fresh")))
 k_with "tcall ref" => row_timed "fz" ((k_here;(with_reducible show wpAny _ _ (call (.ref 136) []) _ _ _);k_dflt (row_timed "r" (refine' c_new0 ?kq0_z ?kq1_z ?kq2_z ?kq3_z ?kq4_z ?_);(case kq0_z=>k_asm);(case kq1_z=>k_asm);(case kq2_z=>k_asm);(case kq3_z=>k_asm);(case kq4_z=>walk_at "my room");k_whole;intro tk9_y h9_y x9_y d9_y hs9_y td9_y e9_y tq9_y A9_y F9_y N9_y l9_y l8_y;(try k_lt l9_y);(try k_sweep);(try dsimp only))))
 k_with "tcall ref" => row_timed "fz" ((k_here;(with_reducible show wpAny _ _ (call (.ref 136) [.int _ _]) _ _ _);k_dflt (row_timed "r" (refine' c_new ?kq0_z ?kq1_z ?kq2_z ?kq3_z ?kq4_z ?_);(case kq0_z=>k_asm);(case kq1_z=>k_asm);(case kq2_z=>k_asm);(case kq3_z=>k_asm);(case kq4_z=>walk_at "my room");k_whole;intro tk9_y h9_y x9_y d9_y hs9_y td9_y e9_y A9_y F9_y N9_y l9_y l8_y;(try k_lt l9_y);(try k_sweep);(try dsimp only))))
 k_with "tcall ref" => row_timed "fz" ((k_here;(dsimp only [List.nil_append,List.cons_append]);walk_at "call ref"))
 k_with "tcall ref" => row_timed "fz" ((k_here;(with_reducible show wpAny _ _ (call (.ref 145) _) _ _ _);k_dflt (row_timed "r" (refine' c_turnK ?kq0_z ?kq1_z ?kq2_z ?kq3_z ?kq4_z ?kq5_z ?kq6_z ?kq7_z ?kq8_z ?kq9_z ?_);(case kq0_z=>k_asm);(case kq1_z=>k_asm);(case kq2_z=>k_asm);(case kq3_z=>k_asm);(case kq9_z=>walk_at "my get");(case kq4_z=>walk_at "my room");(case kq5_z=>walk_at "my units");(case kq6_z=>assumption);(case kq7_z=>assumption);(case kq8_z=>walk_at "my turn");k_whole;intro r9_y h9_y tk9_y t9_y u9_y v9_y n9_y F9_y N9_y x9_z;(replace x9_z:=off1_of x9_z);(try walk_at "my off");(try (rename LCg.Off1 _ _=>x9_z;clear x9_z));(try k_sweep);(try dsimp only))))
 k_with "uomega" => first|with_reducible exact ctR1 hW.1|fail
 k_with "uomega" => first|with_reducible exact ctR2 (by with_reducible assumption)|fail
 k_with "uomega" => first|with_reducible exact ctR3 ha hnm|fail
 k_with "vcall builtin:str.lower" => row_timed "fz" ((k_here;k_dflt (row_timed "r" (refine SC.lower (by assumption) ?_))))
 k_with "wtruthy int" => row_timed "fz" ((k_here;k_dflt (row_timed "r" (refine' lv_truthy_int ?kq0_z ?_);(case kq0_z=>with_reducible assumption);k_whole)))
 k_with "wexec Assign cons Subscript" => row_timed "fz" ((k_here;(with_reducible show wpAny _ _ (exec (Stmt.Assign _ (PySem.Expr.Subscript _ (PySem.Expr.Slice none (some (PySem.Expr.BoolOp _ _ _)) none _) _) _) _) _ _ _);row_timed "r" (refine stop_of ?_)))
 k_with "wcompareOp Gt int int" => row_timed "fz" ((k_here;k_dflt (with_reducible refine gtf (by first|with_reducible assumption|omega) ?_)))
 k_with "wcompareOp Lt int int" => row_timed "fz" ((k_here;k_dflt (first|with_reducible refine ltf (by omega) ?_|with_reducible refine ltt (by omega) ?_)))
 k_with "wexec If" => row_timed "fz" ((k_here;(with_reducible show wpAny _ _ (exec (Stmt.If _ [Stmt.Assign [PySem.Expr.Tuple _ _ _] _ _] _ _) _) _ _ _);row_timed "r" (refine stop_of ?_)))
 k_with "wcall type:list" => row_timed "fz" ((k_here;(with_reducible show wpAny _ _ (call (Value.type "list") [Value.ref _]) _ _ _);(rename IsRange _ _ _ _ _ _ _ _=>R9_z);k_dflt (row_timed "r" (refine' lv_list ?kq0_z ?kq1_z ?kq2_z R9_z ?kq3_z ?kq4_z ?kq5_z ?_);(case kq0_z=>rfl);(case kq1_z=>k_asm);(case kq2_z=>k_asm);(case kq4_z=>exact rangeSize_two _);(case kq3_z=>exact small_two (by omega));(case kq5_z=>omega);k_whole;clear R9_z;intro r9_y h9_y tk9_y vs9_y e9_y F9_y N9_y i9_y x9_z;(replace x9_z:=off1_of x9_z);(try walk_at "my off");(try (rename LCg.Off1 _ _=>x9_z;clear x9_z));(try k_sweep);(try dsimp only))))
 k_with "wsubscriptTail Name Name ref int" => row_timed "fz" ((k_here;k_dflt (row_timed "r" (refine' lv_row ?kq0_z ?kq1_z ?kq2_z ?_ ?kq3_z);(case kq0_z=>k_asm);(case kq1_z=>k_mem);(case kq2_z=>with_reducible assumption);(case kq3_z=>with_unfolding_all rfl);k_whole;intro t9_y)))
 k_with "wsetItem ref int" => row_timed "fz" ((k_here;k_dflt (row_timed "r" (refine' lv_set ?kq0_z ?kq1_z ?kq2_z ?kq3_z ?kq4_z ?_);(case kq0_z=>k_asm);(case kq1_z=>k_asm);(case kq2_z=>k_updF);(case kq3_z=>with_reducible assumption);(case kq4_z=>with_reducible assumption);k_whole;intro h9_y F9_y N9_y;(try dsimp only at N9_y);(try k_sweep);(try dsimp only))))
 k_with "wcall builtin:min" => row_timed "fz" ((k_here;(with_reducible show wpAny _ _ (call (Value.builtin "min") [Value.int _ _,Value.int _ _]) _ _ _);k_dflt (row_timed "r" (refine' lv_min ?kq0_z ?kq1_z ?kq2_z ?_);(case kq0_z=>rfl);(case kq1_z=>k_asm);(case kq2_z=>k_asm);k_whole;intro h9_y tk9_y t9_y F9_y N9_y;(try k_sweep);(try dsimp only))))
 k_with "wcall ref" => row_timed "fz" ((k_here;(with_reducible show wpAny _ _ (call (.ref 28) _) _ _ _);k_dflt (row_timed "r" (refine' c_sub ?kX_z ?kT_z ?kd_z ?ke_z ?kf_z ?_);(case kX_z=>k_in);(case kT_z=>walk_at "my top");(case kd_z=>walk_at "my room");(case ke_z=>with_reducible assumption);(case kf_z=>with_reducible assumption);intro t9_y;walk_at "my back")))
 k_with "wexec Assign cons Tuple" => row_timed "fz" ((k_here;(with_reducible show wpAny _ _ (exec (Stmt.Assign [PySem.Expr.Tuple _ _ _] (PySem.Expr.Tuple _ _ _) _) _) _ _ _);k_dflt (row_timed "r" (refine Assign_Tuple_swapped ?_))))
 k_with "wexec While BoolOp cons nil" => row_timed "fz" ((k_here;row_timed "r" (refine stop_of ?_)))
 k_with "xcall builtin:len" => row_timed "fz" ((k_here;(with_reducible show wpAny _ _ (call (Value.builtin "len") [Value.str _ _]) _ _ _);k_dflt (row_timed "r" (refine SBL.len (by first|exact of_decide_eq_true rfl|omega) ?_))))
 k_with "ytruthy str" => row_timed "fz" ((k_here;k_dflt (row_timed "r" (refine' lv_truthy ?kq0_z ?_);(case kq0_z=>with_reducible assumption);k_whole;intro tk9_y)))
 k_with "yeval Subscript" => row_timed "fz" ((k_here;k_dflt ((with_reducible refine' it_ev ?kF_z ?k1_z ?k2_z ?ke_z ?_);(case kF_z=>k_asm);(case k1_z=>exact rfl);(case k2_z=>exact rfl);(case ke_z=>with_reducible assumption);k_whole)))
 k_with "yeval Subscript" => row_timed "fz" ((k_here;(with_reducible show wpAny _ _ (eval (PySem.Expr.Subscript _ (PySem.Expr.Slice _ _ none _) _) _) _ _ _);k_dflt (first|((with_reducible refine' sl_ev_sn ?kF_z ?kN_z ?k1_z ?k2_z ?ke_z ?_);(case kF_z=>k_asm);(case kN_z=>k_asm);(case k1_z=>exact rfl);(case k2_z=>exact rfl);(case ke_z=>with_reducible assumption);k_whole)|((with_reducible refine' sl_ev_ns ?kF_z ?kN_z ?k1_z ?k2_z ?ke_z ?_);(case kF_z=>k_asm);(case kN_z=>k_asm);(case k1_z=>exact rfl);(case k2_z=>exact rfl);(case ke_z=>with_reducible assumption);k_whole));intro h9_y t9_y k9_y F9_y N9_y;(try k_sweep);(try dsimp only)))
 k_with "ysubscriptTail Name Slice str ref" => row_timed "fz" ((k_here;k_dflt (first|(with_reducible refine' lv_sl_ns ?kq1_z ?kq2_z ?kq3_z ?_ ?kq4_z ?kq5_z;(case kq1_z=>with_reducible assumption);(case kq2_z=>k_asm);(case kq3_z=>k_asm);(case kq4_z=>with_unfolding_all rfl);(case kq5_z=>intro _;with_unfolding_all rfl);k_whole)|(with_reducible refine' lv_sl_sn ?kq1_z ?kq2_z ?kq3_z ?_ ?kq4_z ?kq5_z;(case kq1_z=>with_reducible assumption);(case kq2_z=>k_asm);(case kq3_z=>k_asm);(case kq4_z=>with_unfolding_all rfl);(case kq5_z=>intro _;with_unfolding_all rfl);k_whole)|(row_timed "r" (refine' lv_sl_nn ?kq1_z ?kq2_z ?kq3_z ?_ ?kq4_z ?kq5_z);(case kq1_z=>with_reducible assumption);(case kq2_z=>k_asm);(case kq3_z=>k_asm);(case kq4_z=>with_unfolding_all rfl);(case kq5_z=>intro _;with_unfolding_all rfl);k_whole));intro h9_y t9_y k9_y F9_y N9_y;(try k_sweep);(try dsimp only)))
 k_with "ysubscriptTail Name Name str int" => row_timed "fz" ((k_here;k_dflt (row_timed "r" (refine' lv_item ?kq1_z ?_ ?kq4_z ?kq5_z);(case kq1_z=>with_reducible assumption);(case kq4_z=>with_unfolding_all rfl);(case kq5_z=>intro _;with_unfolding_all rfl);k_whole)))
 k_with "ysubscriptTail Name BinOp str int" => row_timed "fz" ((k_here;k_dflt (row_timed "r" (refine' lv_item ?kq1_z ?_ ?kq4_z ?kq5_z);(case kq1_z=>with_reducible assumption);(case kq4_z=>with_unfolding_all rfl);(case kq5_z=>intro _;with_unfolding_all rfl);k_whole)))
 k_with "zcompareOp Eq str str" => row_timed "fz" ((k_here;k_dflt (row_timed "r" (refine' lv_eq ?kq0_z ?_);(case kq0_z=>with_reducible assumption);k_whole)))
 k_with "AbinaryOp Add str str" => row_timed "fz" ((k_here;k_dflt (row_timed "r" (refine' ld_add ?kq0_z ?kq1_z ?_);(case kq0_z=>with_reducible assumption);(case kq1_z=>with_reducible assumption);k_whole;intro t9_y k9_y)))
 k_with "Acall builtin:str.upper" => row_timed "fz" ((k_here;k_dflt (row_timed "r" (refine ld_upper _ ?_))))
 k_with "Acall builtin:str.lower" => row_timed "fz" ((k_here;k_dflt (row_timed "r" (refine' ld_lower ?kq0_z ?kq1_z ?_);(case kq1_z=>with_reducible assumption);(case kq0_z=>with_reducible assumption);k_whole)))
 k_with "Acall builtin:str.count" => row_timed "fz" ((k_here;k_dflt (row_timed "r" (refine' ld_count ?kq0_z ?_);(case kq0_z=>with_reducible assumption);k_whole)))
 k_with "AsubscriptTail Name Name ref int" => row_timed "fz" ((k_here;k_dflt (row_timed "r" (refine' ld_refK ?kq3_z ?kq0_z ?kq1_z ?_ ?kq2_z);(case kq3_z=>k_asm);(case kq0_z=>with_reducible assumption);(case kq1_z=>with_reducible assumption);(case kq2_z=>with_unfolding_all rfl);k_whole)))
 k_with "AsubscriptTail" => row_timed "fz" ((k_here;(with_reducible show wpAny _ _ (subscriptTail _ _ (Value.ref _) (Value.int (-1) _)) _ _ _);k_dflt (row_timed "r" (refine' ld_refK ?kq3_z ?kq0_z ?kq1_z ?_ ?kq2_z);(case kq3_z=>k_asm);(case kq0_z=>with_reducible assumption);(case kq1_z=>with_reducible assumption);(case kq2_z=>with_unfolding_all rfl);k_whole)))
 k_with "Acall ref" => row_timed "fz" ((k_here;(with_reducible show wpAny _ _ (call (.ref 159) _) _ _ _);k_dflt (row_timed "r" (refine' c_recordK ?kq0_z ?kq1_z ?kq2_z ?kq3_z ?kq4_z ?kq5_z ?kq6_z ?kq7_z ?kq8_z ?kq9_z ?kqa_z ?kqb_z ?kqc_z ?kqd_z ?kqe_z ?kqf_z ?_);(case kq0_z=>k_asm);(case kq1_z=>k_asm);(case kq2_z=>k_asm);(case kq3_z=>k_asm);(case kqf_z=>with_reducible assumption);(case kq4_z=>walk_at "my room");(case kq5_z=>walk_at "my units");(case kq6_z=>assumption);(case kq7_z=>k_updF);(case kq8_z=>assumption);(case kq9_z=>assumption);(case kqa_z=>with_reducible assumption);(case kqb_z=>assumption);(case kqc_z=>with_reducible assumption);(case kqd_z=>with_reducible assumption);(case kqe_z=>with_reducible assumption);k_whole;intro s9_y r9_y t9_y P9_y a9_y b9_y c9_y n9_y ps9_y x9_z hps9_y F9_y N9_y p9_y o9_y G9_y e9_y;(replace o9_y:=off1_of o9_y);(try walk_at "my off");(try (rename LCg.Off1 _ _=>x9_z;clear x9_z));(try dsimp only [List.nil_append,List.cons_append] at N9_y);(try k_sweep);(try dsimp only))))
 k_with "Acall ref" => row_timed "fz" ((k_here;(with_reducible show wpAny _ _ (call (.ref 35) _) _ _ _);k_dflt (row_timed "r" (refine' c_levK ?kq0_z ?kq1_z ?kq2_z ?kq3_z ?kq4_z ?kq5_z ?kq6_z ?_);(case kq0_z=>k_asm);(case kq1_z=>k_asm);(case kq2_z=>k_asm);(case kq3_z=>k_asm);(case kq6_z=>with_reducible assumption);(case kq4_z=>walk_at "my room");(case kq5_z=>assumption);k_whole;intro t9_y s9_y F9_y N9_y G9_y e9_y;(try k_sweep);(try dsimp only))))
 k_with "AcompareOp NotEq ref ref" => row_timed "fz" ((k_here;k_dflt (row_timed "r" (refine' ld_ne ?kq0_z ?kq1_z ?kq2_z ?kq3_z ?kq4_z ?kq5_z ?kq6_z ?_);(case kq0_z=>k_asm);(case kq1_z=>k_asm);(case kq2_z=>with_reducible assumption);(case kq3_z=>walk_at "my sub");(case kq4_z=>with_reducible assumption);(case kq5_z=>with_reducible assumption);(case kq6_z=>walk_at "my units");k_whole)))
 k_with "Aexecs nil" => row_timed "fz" ((k_here;with_reducible refine wpAny_execs_nil ?_))
 k_with "Aexecs cons" => row_timed "fz" ((k_here;(with_reducible show wpAny _ _ (execs (PySem.Stmt.Assign [PySem.Expr.Name _ _] (PySem.Expr.Call (PySem.Expr.Attribute (PySem.Expr.Call _ _ _ _) _ _) _ _ _) _::_) _) _ _ _);(try dsimp only);(with_reducible show wpAny _ _ _ _ _ (Shared.mk _ _ _ (_+1) _));k_dflt (row_timed "r" (refine toks_pos (Nat.succ_pos _) ?_));intro tk9_y hk9_y))
 k_with "Acall builtin:str.replace" => row_timed "fz" ((k_here;k_dflt (row_timed "r" (refine' ld_replace ?kq0_z ?kq1_z ?kq2_z ?kq3_z ?kq4_z ?_);(case kq4_z=>with_reducible assumption);(case kq0_z=>assumption);(case kq1_z=>exact Nat.succ_pos _);(case kq2_z=>exact Nat.ne_of_lt (Nat.lt_succ_self _));(case kq3_z=>with_reducible assumption);k_whole;intro t9_y k9_y)))
 k_with "BcompareOp NotEq int int" => row_timed "fz" ((k_here;k_dflt (row_timed "r" (refine nei_f (by (try dsimp only);first|rfl|omega) ?_))))
 k_with "Cmy mem" => row_timed "fz" (first|k_mem|((repeat (row_timed "r" (refine' List.Mem.tail _ ?_)));assumption))
 k_with "Ccall builtin:list.append" => row_timed "fz" ((k_here;k_dflt (row_timed "r" (refine' c_appK ?kq0_z ?kq1_z ?kq2_z ?kq3_z ?_);(case kq0_z=>k_asm);(case kq1_z=>k_asm);(case kq2_z=>k_updF);(case kq3_z=>walk_at "my len");k_whole;intro h9_y F9_y N9_y;(try k_sweep);(try dsimp only))))
 k_with "Ccall builtin:len" => row_timed "fz" ((k_here;(with_reducible show wpAny _ _ (call (.builtin "len") [.ref _]) _ _ _);k_dflt (row_timed "r" (refine' c_lenK ?kq0_z ?kq1_z ?kq2_z ?kq3_z ?kq4_z ?kq6_z ?kq7_z ?kq8_z ?kq9_z ?kq10_z ?kq11_z ?kq12_z ?kq13_z ?kq14_z ?kq17_z ?kq15_z ?kq16_z ?_);(case kq0_z=>k_asm);(case kq1_z=>k_asm);(case kq2_z=>k_asm);(case kq3_z=>k_asm);(case kq4_z=>walk_at "my room");(case kq6_z=>assumption);(case kq7_z=>k_updF);(case kq8_z=>assumption);(case kq9_z=>k_mem);(case kq10_z=>k_mem);(case kq11_z=>assumption);(case kq12_z=>walk_at "my sub");(case kq13_z=>assumption);(case kq14_z=>assumption);(case kq17_z=>omega);(case kq15_z=>k_is);(case kq16_z=>k_is);k_whole;intro s9_y t9_y ps9_y hps9_y F9_y N9_y G9_y o9_y;(try k_sweep);(try dsimp only))))
 k_with "Ccall ref" => row_timed "fz" ((k_here;(with_reducible show wpAny _ _ (call (.ref 96) _) _ _ _);k_dflt (first|(row_timed "r" (refine' c_pop1K ?kq0_z ?kq1_z ?kq2_z ?kq3_z ?kq4_z ?kq5_z ?kq6_z ?kq7_z ?kq8_z ?_);(case kq0_z=>k_asm);(case kq1_z=>k_asm);(case kq2_z=>k_asm);(case kq3_z=>k_asm);(case kq4_z=>walk_at "my room");(case kq5_z=>k_updF);(case kq6_z=>k_mem);(case kq7_z=>walk_at "my len");(case kq8_z=>assumption);k_whole;intro h9_y tk9_y F9_y N9_y;(try k_sweep);(try dsimp only))|(row_timed "r" (refine' c_pop0K ?kq0_z ?kq1_z ?kq2_z ?kq3_z ?kq4_z ?kq5_z ?kq6_z ?kq8_z ?_);(case kq0_z=>k_asm);(case kq1_z=>k_asm);(case kq2_z=>k_asm);(case kq3_z=>k_asm);(case kq4_z=>walk_at "my room");(case kq5_z=>k_mem);(case kq6_z=>k_mem);(case kq8_z=>assumption);k_whole;intro r9_y h9_y tk9_y t9_y u9_y F9_y N9_y x9_z;(replace x9_z:=off1_of x9_z);(try walk_at "my off");(try (rename LCg.Off1 _ _=>x9_z;clear x9_z));(try k_sweep);(try dsimp only)))))
 k_with "Ccall ref" => row_timed "fz" ((k_here;(with_reducible show wpAny _ _ (call (.ref 88) _) _ _ _);k_dflt (row_timed "r" (refine' c_popfromK ?kq0_z ?kq1_z ?kq2_z ?kq3_z ?kq4_z ?kq5_z ?kq6_z ?kq7_z ?kq8_z ?_);(case kq0_z=>k_asm);(case kq1_z=>k_asm);(case kq2_z=>k_asm);(case kq3_z=>k_asm);(case kq4_z=>walk_at "my room");(case kq5_z=>k_updF);(case kq6_z=>k_mem);(case kq7_z=>walk_at "my len");(case kq8_z=>assumption);k_whole;intro r9_y h9_y tk9_y n9_y F9_y N9_y x9_z;(replace x9_z:=off1_of x9_z);(try walk_at "my off");(try (rename LCg.Off1 _ _=>x9_z;clear x9_z));(try k_sweep);(try dsimp only))))
 k_with "Cmy ap" => row_timed "fz" (first|assumption|exact Apart.ne' (by assumption))
 k_with "Ccall ref" => row_timed "fz" ((k_here;(with_reducible show wpAny _ _ (call (.ref 118) _) _ _ _);k_dflt (row_timed "r" (refine' c_resetK ?kq0_z ?kq1_z ?kq2_z ?kq3_z ?kq4_z ?kq5_z ?kq6_z ?kq7_z ?kq8_z ?kq9_z ?kq10_z ?kq11_z ?kq12_z ?kq13_z ?_);(case kq0_z=>k_asm);(case kq1_z=>k_asm);(case kq2_z=>k_asm);(case kq3_z=>k_asm);(case kq4_z=>walk_at "my room");(case kq5_z=>k_updF);(case kq6_z=>intro o9_y;k_updF);(case kq7_z=>k_mem);(case kq8_z=>k_mem);(case kq9_z=>walk_at "my len");(case kq10_z=>walk_at "my len");(case kq11_z=>assumption);(case kq12_z=>walk_at "my ap");(case kq13_z=>walk_at "my ap");k_whole;intro h9_y tk9_y n9_y td9_y tq9_y F9_y N9_y;(try k_sweep);(try dsimp only))))
 k_with "CsubscriptTail" => row_timed "fz" ((k_here;k_dflt (row_timed "r" (refine' chr3k ?_ ?kq1_z ?kq2_z);(case kq1_z=>with_unfolding_all rfl);(case kq2_z=>intro _;with_unfolding_all rfl);k_whole)))
 k_with "Cmy slices" => row_timed "fz" ((try simp only [p_a,p_b,p_c,p_d,p_e,p_g,p_h]))
 k_with "CsubscriptTail" => row_timed "fz" ((k_here;(with_reducible show wpAny _ _ (subscriptTail _ (PySem.Expr.Slice _ _ none _) (Value.str _ _) (Value.ref _)) _ _ _);k_dflt (first|(with_reducible refine' slice_strN_ns ?kq0_z ?kq1_z ?_ ?kq2_z ?kq3_z ?kq4_z;(case kq0_z=>k_asm);(case kq1_z=>k_asm);(case kq2_z=>with_unfolding_all rfl);(case kq3_z=>intro _;with_unfolding_all rfl);(case kq4_z=>walk_at "my size");k_whole)|(with_reducible refine' slice_strN_sn ?kq0_z ?kq1_z ?_ ?kq2_z ?kq3_z ?kq4_z;(case kq0_z=>k_asm);(case kq1_z=>k_asm);(case kq2_z=>with_unfolding_all rfl);(case kq3_z=>intro _;with_unfolding_all rfl);(case kq4_z=>walk_at "my size");k_whole));intro h9_y t9_y k9_y F9_y N9_y;walk_at "my slices"; (try k_sweep);(try dsimp only)))
 k_with "Cmy size" => row_timed "fz" ((rw [sizeLine_eq];first|(exact Nat.le_trans (show _≤1000 from by first|assumption|decide) (by decide))|omega))
 k_with "CcompareOp NotEq str str" => row_timed "fz" ((k_here;k_dflt (first|row_timed "r" (refine ne_f (by first|assumption|rfl) ?_)|row_timed "r" (refine ne_t (by assumption) ?_))))
 k_with "Cexec While Compare cons nil" => row_timed "fz" ((k_here;row_timed "r" (refine stop_of ?_)))
 k_with "Ccall builtin:str.find" => row_timed "fz" ((k_here;k_dflt (row_timed "r" (refine c_find0 ?_))))
 k_with "CcompareOp NotEq int int" => row_timed "fz" ((k_here;k_dflt (row_timed "r" (refine nei_f (by (try dsimp only);omega) ?_))))
 k_with "CsubscriptTail" => row_timed "fz" ((k_here;(with_reducible show wpAny _ _ (subscriptTail _ _ (Value.ref _) (Value.int _ _)) _ _ _);k_dflt (row_timed "r" (refine' item_tupleT ?kq0_z ?kq1_z ?kq2_z ?kq3_z ?kq4_z ?_ ?kq5_z);(case kq0_z=>exact News.isTup (by k_asm) (by walk_at "my mem"));(case kq1_z=>first|exact of_decide_eq_true rfl|omega);(case kq2_z=>first|exact of_decide_eq_true rfl|omega);(case kq3_z=>exact rfl);(case kq4_z=>exact rfl);(case kq5_z=>with_unfolding_all rfl);k_whole)))
 k_with "CsubscriptTail" => row_timed "fz" ((k_here;(with_reducible show wpAny _ _ (subscriptTail _ _ (Value.ref _) (Value.int (Int.fmod _ _) _)) _ _ _);k_dflt (row_timed "r" (refine' c_item12 (Heap.IsList.at ‹Heap.IsList _ _ _› ?kq0_z) ‹IntsAre _ _› ?kq1_z ?kq2_z ?kq3_z ?_ ?kq4_z);(case kq0_z=>exact fun o e=>Fr.keep (by k_asm) _ _ e);(case kq1_z=>exact Int.fmod_nonneg_of_pos _ (by decide));(case kq2_z=>(rw [‹List.length _=12›];exact Int.fmod_lt_of_pos _ (by decide)));(case kq3_z=>(rw [‹List.length _=12›];decide));(case kq4_z=>with_unfolding_all rfl);k_whole;intro f9_y t9_y)))
 k_with "Cmy texts" => row_timed "fz" ((try simp only [join_nil,join_wI1]))
 k_with "Ccall builtin:len" => row_timed "fz" ((k_here;(with_reducible show wpAny _ _ (call (Value.builtin "len") [Value.str _ _]) _ _ _);k_dflt (row_timed "r" (refine SBL.len (by (try simp only [len_b,len_e,len_c]);first|exact of_decide_eq_true rfl|omega) ?_))))
 k_with "CbinaryOp Add str str" => row_timed "fz" ((k_here;k_dflt (row_timed "r" (refine' SB.add ?_ ?kq0_z);(case kq0_z=>(rw [sizeLine_eq];first|(exact Nat.le_trans (show _+_≤1000 from by assumption) (by decide))|((try simp only [len_app,len_b,len_e,len_c]);first|exact of_decide_eq_true rfl|omega)));k_whole;intro t9_y k9_y)))
 k_with "CsubscriptTail Name Constant ref int" => row_timed "fz" ((k_here;(with_reducible show wpAny _ _ (subscriptTail _ _ (Value.ref _) (Value.int _ _)) _ _ _);k_dflt (row_timed "r" (refine' item_tupleT ?kq0_z ?kq1_z ?kq2_z ?kq3_z ?kq4_z ?_ ?kq5_z);(case kq0_z=>exact News.isTup (by k_asm) (by walk_at "my mem"));(case kq1_z=>first|exact of_decide_eq_true rfl|omega);(case kq2_z=>first|exact of_decide_eq_true rfl|omega);(case kq3_z=>exact rfl);(case kq4_z=>exact rfl);(case kq5_z=>with_unfolding_all rfl);k_whole)))
 k_with "CsubscriptTail Name BinOp ref int" => row_timed "fz" ((k_here;(with_reducible show wpAny _ _ (subscriptTail _ _ (Value.ref _) (Value.int (Int.fmod _ _) _)) _ _ _);k_dflt (row_timed "r" (refine' c_item12 (Heap.IsList.at ‹Heap.IsList _ _ _› ?kq0_z) ‹IntsAre _ _› ?kq1_z ?kq2_z ?kq3_z ?_ ?kq4_z);(case kq0_z=>exact fun o e=>Fr.keep (by k_asm) _ _ e);(case kq1_z=>exact Int.fmod_nonneg_of_pos _ (by decide));(case kq2_z=>(rw [‹List.length _=12›];exact Int.fmod_lt_of_pos _ (by decide)));(case kq3_z=>(rw [‹List.length _=12›];decide));(case kq4_z=>with_unfolding_all rfl);k_whole;intro f9_y t9_y)))
 k_with "Cite" => row_timed "fz" ((k_here;first|with_reducible refine ifF not_false ?_|with_reducible refine ifF Bool.false_ne_true ?_|with_reducible refine ifT True.intro ?_|with_reducible refine ifT rfl ?_))
 k_with "CsubscriptTail Call Slice str ref" => row_timed "fz" ((k_here;(with_reducible show wpAny _ _ (subscriptTail _ (PySem.Expr.Slice _ _ none _) (Value.str _ _) (Value.ref _)) _ _ _);k_dflt (first|(with_reducible refine' slice_strN_ns ?kq0_z ?kq1_z ?_ ?kq2_z ?kq3_z ?kq4_z;(case kq0_z=>k_asm);(case kq1_z=>k_asm);(case kq2_z=>with_unfolding_all rfl);(case kq3_z=>intro _;with_unfolding_all rfl);(case kq4_z=>walk_at "my size");k_whole)|(with_reducible refine' slice_strN_sn ?kq0_z ?kq1_z ?_ ?kq2_z ?kq3_z ?kq4_z;(case kq0_z=>k_asm);(case kq1_z=>k_asm);(case kq2_z=>with_unfolding_all rfl);(case kq3_z=>intro _;with_unfolding_all rfl);(case kq4_z=>walk_at "my size");k_whole));intro h9_y t9_y k9_y F9_y N9_y;walk_at "my slices"; (try k_sweep);(try dsimp only)))
 k_with "CsubscriptTail Call" => row_timed "fz" ((k_here;(with_reducible show wpAny _ _ (subscriptTail _ (PySem.Expr.Slice _ _ none _) (Value.str _ _) (Value.ref _)) _ _ _);k_dflt (first|(with_reducible refine' slice_strN_ns ?kq0_z ?kq1_z ?_ ?kq2_z ?kq3_z ?kq4_z;(case kq0_z=>k_asm);(case kq1_z=>k_asm);(case kq2_z=>with_unfolding_all rfl);(case kq3_z=>intro _;with_unfolding_all rfl);(case kq4_z=>walk_at "my size");k_whole)|(with_reducible refine' slice_strN_sn ?kq0_z ?kq1_z ?_ ?kq2_z ?kq3_z ?kq4_z;(case kq0_z=>k_asm);(case kq1_z=>k_asm);(case kq2_z=>with_unfolding_all rfl);(case kq3_z=>intro _;with_unfolding_all rfl);(case kq4_z=>walk_at "my size");k_whole));intro h9_y t9_y k9_y F9_y N9_y;walk_at "my slices"; (try k_sweep);(try dsimp only)))
 k_with "Cexecs cons" => row_timed "fz" ((k_here;(with_reducible show wpAny _ _ (execs (PySem.Stmt.Assign [PySem.Expr.Name (Str.ofString "text") _] _ _::_::_::_::_) _) _ _ _);row_timed "r" (refine stop_of ?_)))
 k_with "Dcall builtin:sum" => row_timed "fz" ((k_here;k_dflt (first|(row_timed "r" (refine' lz_sumZ ?kq0_z ?kq1_z ?kq2_z ?kq3_z ?kq4_z ?_);(case kq0_z=>rfl);(case kq1_z=>k_asm);(case kq2_z=>k_asm);(case kq3_z=>first|exact ⟨_,News.get (by k_asm) (List.Mem.head _),rfl,_,rfl⟩|exact Fr.lst (by k_asm) (by assumption));(case kq4_z=>first|with_reducible assumption|exact IntsAre.allInts (by with_reducible assumption));k_whole;intro z9_y h9_y tk9_y t9_y F9_y N9_y;(try k_sweep);(try dsimp only))|(row_timed "r" (refine' lz_sum ?kq0_z ?kq1_z ?kq2_z ?kq3_z ?kq4_z ?_);(case kq0_z=>rfl);(case kq1_z=>k_asm);(case kq2_z=>k_asm);(case kq3_z=>k_mem);(case kq4_z=>(repeat (first|exact IntsAre.nil|row_timed "r" (refine IntsAre.cons _ _ ?_))));k_whole;intro h9_y tk9_y t9_y F9_y N9_y;(try k_sweep);(try dsimp only)))))
 k_with "DsubscriptTail Name Slice ref ref" => row_timed "fz" ((k_here;(with_reducible show wpAny _ _ (subscriptTail _ (PySem.Expr.Slice _ _ (some _) _) _ _) _ _ _);k_dflt (row_timed "r" (refine' lz_slice3 ?kq0_z ?kq1_z ?kq2_z ?kq3_z ?kq6_z ?_ ?kq4_z ?kq5_z);(case kq0_z=>k_asm);(case kq1_z=>k_asm);(case kq2_z=>with_reducible assumption);(case kq3_z=>with_reducible assumption);(case kq6_z=>with_reducible assumption);(case kq4_z=>with_unfolding_all rfl);(case kq5_z=>intro _;with_unfolding_all rfl);k_whole);intro i9_y h9_y F9_y N9_y a9_y;(try dsimp only at N9_y);(try k_sweep);(try dsimp only)))
 k_with "DbinaryOp Mod int int" => row_timed "fz" ((k_here;k_dflt (row_timed "r" (refine' lz_mod ?kq0_z ?kq1_z ?_);(case kq0_z=>with_reducible assumption);(case kq1_z=>omega);k_whole);intro r9_y m9_y n9_y;(try dsimp only)))
 k_with "DstoreName" => row_timed "fz" ((k_here;k_dflt (row_timed "r" (refine' storeX_C ?sqF_z ?sqN_z ?sqc_z ?sqU_z ?sqd_z ?_ ?sqa_z ?sqb_z);(case sqa_z=>rfl);(case sqb_z=>rfl);(case sqF_z=>k_asm);(case sqN_z=>k_asm);(case sqc_z=>rfl);(case sqU_z=>k_updF);(case sqd_z=>k_asm);k_whole;intro h'_y o'_y F'_y N'_y d'_y;(try dsimp only [List.cons_append,List.nil_append] at N'_y);(try k_sweep))))
 k_with "Dk_ne" => row_timed "fz" ((row_timed "r" (refine neN ?_);(try dsimp only);omega))
 k_with "Dmy enterMC" => row_timed "fz" (k_dflt (row_timed "r" (refine' mut_defCL _ _ ?kL_z ?k1_z ?k2_z ?k6_z ?k7_z ?k8_z ?k9_z ?kB_z ?kD_z ?_ ?c2_z ?c3_z ?c4_z);(case kL_z=>assumption);(case k1_z=>assumption);(case k2_z=>assumption);(case k6_z=>k_is);(case k7_z=>k_is);(case k8_z=>walk_at "my room");(case k9_z=>first|exact BindsTo.of_eq rfl|exact binds_K (Frag.In.keeps (by assumption) fun _ _ e=>of_hideAll _ e) rfl (by k_is) rfl rfl rfl);(case kB_z=>exact rfl);(case kD_z=>decide +kernel);(case c2_z=>exact rfl);(case c3_z=>exact rfl);(case c4_z=>exact rfl);k_whole;intro L'_y h'_y tk'_y cells'_y B'_y F'_y N'_y Y'_y;k_cells Y'_y;(try simp only [List.cons_append,List.nil_append] at N'_y);(try dsimp only)))
 k_with "Dmy elt0" => row_timed "fz" (((rename (∀ (y:Value) (h:Heap) (tk:Nat),Fr _ _ h _→_)=>hE8_z);(try dsimp only);row_timed "r" (refine' Elt.mk hE8_z ?eF_z ?eN_z ?eS_z ?eR_z);(case eF_z=>k_asm);(case eN_z=>k_asm);(case eS_z=>walk_at "my in")))
 k_with "DsubscriptTail List" => row_timed "fz" ((k_here;k_dflt (row_timed "r" (refine' lz_item ?kq0_z ?kq1_z ?kq2_z ?kq3_z ?kq5_z ?_ ?kq4_z);(case kq0_z=>is_list);(case kq1_z=>omega);(case kq2_z=>(simp only [List.length_cons,List.length_nil];omega));(case kq3_z=>(repeat (first|exact IntsAre.nil|row_timed "r" (refine IntsAre.cons _ _ ?_))));(case kq5_z=>exact Nat.le_of_ble_eq_true rfl);(case kq4_z=>with_unfolding_all rfl);k_whole);intro z9_y t9_y))
 k_with "Dmy led7" => row_timed "fz" ((row_timed "r" (refine' (fcons ?_ (fcons ?_ (fcons ?_ (fcons ?_ (fcons ?_ (fcons ?_ (fcons ?_ (List.forall_mem_nil _)))))))));(iterate 6 (focus walk_at "my mem1"))))
 k_with "Dcall builtin:sum" => row_timed "fz" ((k_here;k_dflt (row_timed "r" (refine' lz_sumB ?kq0_z ?kq1_z ?kq2_z ?kq3_z ?kq4_z ?_);(case kq0_z=>rfl);(case kq1_z=>k_asm);(case kq2_z=>k_asm);(case kq3_z=>with_reducible assumption);(case kq4_z=>with_reducible assumption);k_whole;intro h9_y tk9_y t9_y F9_y N9_y;(try k_sweep);(try dsimp only))))
 k_with "Dcall ref" => row_timed "fz" ((k_here;(with_reducible show wpAny _ _ (call (.ref 152) _) _ _ _);row_timed "r" (refine stop_of ?_)))
 k_with "Deval ListComp" => row_timed "fz" ((k_here;(have mL9_y:=(by with_reducible assumption:ListMark));k_dflt (row_timed "r" (refine LCg.ListComp_U (F₀:=by k_asm) (by rfl) (by decide) (by rfl) (by decide) (by rfl) ?_));k_dflt lcg_toSrc))
 k_with "DCompSrc" => row_timed "fz" ((k_here;(have mL9_y:=(by with_reducible assumption:ListMark));k_dflt (row_timed "r" (refine LCg.CompSrc.ledger (by rfl) (by k_asm) (by k_asm) (by k_mem) (by (rw [List.size_toArray,sizeLine_eq];omega)) ?_));intro g'_y;row_timed "r" (refine StopC.of ?_)))
 k_with "Dmy memx" => row_timed "fz" (first|exact (‹∀ p∈_,p∈_∧_› _ (by with_reducible assumption)).1|(row_timed "r" (refine' List.mem_cons_of_mem _ ?_);walk_at "my memx"))
 k_with "Dmy jsub" => row_timed "fz" ((intro p9_y h9_y;walk_at "my jmem"))
 k_with "Dmy jmem" => row_timed "fz" (first|with_reducible exact List.mem_append_left _ (by assumption)|with_reducible exact List.mem_append_right _ (by with_reducible assumption)|(row_timed "r" (refine' List.mem_cons_of_mem _ ?_);walk_at "my jmem"))
 k_with "DsubscriptTail" => row_timed "fz" ((k_here;(with_reducible show wpAny _ _ (subscriptTail _ _ (Value.ref _) (Value.int (-1) _)) _ _ _);k_dflt (row_timed "r" (refine' lz_refN ?kq3_z ?kq0_z ?kq1_z ?_ ?kq2_z);(case kq3_z=>k_asm);(case kq0_z=>k_mem);(case kq1_z=>with_reducible assumption);(case kq2_z=>with_unfolding_all rfl);k_whole)))
 k_with "DcompareOp NotEq ref ref" => row_timed "fz" ((k_here;k_dflt (row_timed "r" (refine' lz_ne ?kq0_z ?kq1_z ?kq2_z ?kq3_z ?kq4_z ?kq5_z ?kq6_z ?_);(case kq0_z=>k_asm);(case kq1_z=>k_asm);(case kq2_z=>with_reducible assumption);(case kq3_z=>walk_at "my jsub");(case kq4_z=>k_mem);(case kq5_z=>with_reducible assumption);(case kq6_z=>walk_at "my units");k_whole)))
 k_with "DcompareOp NotEq ref ref" => row_timed "fz" ((k_here;k_dflt (row_timed "r" (refine' lz_ne2 ?kq1_z ?kq2_z ?kq4_z ?kq5_z ?kq6_z ?_);(case kq1_z=>k_asm);(case kq2_z=>k_mem);(case kq4_z=>k_mem);(case kq5_z=>exact raw_zero (by assumption));(case kq6_z=>walk_at "my units");k_whole)))
 k_with "Dcall ref" => row_timed "fz" ((k_here;(with_reducible show wpAny _ _ (call (.ref 166) _) _ _ _);row_timed "r" (refine stop_of ?_)))
 k_with "Domega" => first|with_reducible exact lz_tw2 (by with_reducible assumption)|fail
 k_with "Domega" => first|with_reducible exact lz_tw1 (by with_reducible assumption)|fail
 k_with "Ek_in" => row_timed "fz" (first|with_reducible assumption|exact Frag.In.keeps (by with_reducible assumption) (Fr.keep (by with_reducible assumption)))
 k_with "EcallWith ref" => row_timed "fz" ((k_here;k_dflt ((with_reducible refine' callWith_K0 ?kq1_z ?kq2_z ?_);(case kq1_z=>k_in);(case kq2_z=>k_is);k_whole)))
 k_with "EgetMethod ref" => row_timed "fz" ((k_here;k_dflt (row_timed "r" (refine' meth_fn ?kq0_z ?kq1_z ?kq2_z ?kq3_z ?kq4_z ?kq5_z ?kq6_z ?_);(case kq0_z=>k_in);(case kq1_z=>k_inst);(case kq2_z=>k_is);(case kq3_z=>k_is);(case kq4_z=>k_is);(case kq5_z=>k_is);(case kq6_z=>exact rfl);k_whole)))
 k_with "Emy fresh" => row_timed "fz" ((intro r9_y h9_y tk9_y F9_y N9_y x9_z;(replace x9_z:=off1_of x9_z);(try walk_at "my off");(try (rename LCg.Off1 _ _=>x9_z;clear x9_z));(try k_sweep);(try dsimp only)))
 k_with "Emy len" => row_timed "fz" (first|assumption|decide|omega|(simp only [List.length_append,List.length_cons,List.length_nil];omega))
 k_with "Eexec For Name Name cons nil" => row_timed "fz" ((k_here;k_dflt (row_timed "r" (refine wpAny_For ?_))))
 k_with "Eexec For Name Call cons nil" => row_timed "fz" ((k_here;k_dflt (row_timed "r" (refine wpAny_For ?_))))
 k_with "Emy offgoal" => row_timed "fz" ((row_timed "r" (refine off1_all ?_);(try dsimp only);(repeat (row_timed "r" (refine off1_mk (by first|assumption|exact Apart.ne' (by assumption)) ?_)));first|assumption|exact trivial))
 k_with "Emy ownoff" => row_timed "fz" ((repeat (row_timed "r" (refine ownOff_cons ?_ ?_);· (repeat (row_timed "r" (refine (fcons (by first|assumption|exact Apart.ne' (by assumption)) ?_))));exact List.forall_mem_nil _));assumption)
 k_with "Emy same" => row_timed "fz" ((intro z_y h2_y h3_y;(try simp only [List.forall_mem_cons,List.not_mem_nil,false_implies,implies_true,and_true,ne_eq] at h2_y);(have h4_y:=h3_y);(simp only [List.contains_cons,List.contains_nil,Bool.or_false,Bool.or_eq_false_iff,beq_eq_false_iff_ne,ne_eq] at h4_y);(simp only [mMap,kstB,h2_y,h3_y,h4_y,if_false,Bool.false_eq_true])))
 k_with "Emy sub" => row_timed "fz" ((intro p_y hp_y;k_ownIn))
 k_with "Emy get" => row_timed "fz" (first|exact News.get (by k_asm) (by k_mem)|exact Fr.keep (by k_asm) _ _ (by assumption)|exact pat_get (by assumption) (by k_asm) (by k_asm) (by walk_at "my sub"))
 k_with "Ecall builtin:str.lower" => row_timed "fz" ((k_here;k_dflt (row_timed "r" (refine c_lower ?_))))
 k_with "Ecall builtin:str.find" => row_timed "fz" ((k_here;k_dflt (row_timed "r" (refine c_find ?_))))
 k_with "EsubscriptTail Name Name ref int" => row_timed "fz" ((k_here;k_dflt (row_timed "r" (refine' item3k ?kq0_z ?_ ?kq1_z);(case kq0_z=>walk_at "my get");(case kq1_z=>with_unfolding_all rfl);k_whole)))
 k_with "Ecall type:str" => row_timed "fz" ((k_here;(with_reducible show wpAny _ _ (call (.type "str") [.ref _]) _ _ _);k_dflt (row_timed "r" (refine' c_strK ?kq0_z ?kq1_z ?kq2_z ?kq3_z ?kq4_z ?kq5_z ?kq6_z ?kq7_z ?kq8_z ?kq9_z ?kq10_z ?kq11_z ?kq12_z ?kq13_z ?kq14_z ?kq15_z ?kq16_z ?_);(case kq0_z=>k_asm);(case kq1_z=>k_asm);(case kq2_z=>k_asm);(case kq3_z=>k_asm);(case kq4_z=>walk_at "my room");(case kq5_z=>walk_at "my units");(case kq6_z=>assumption);(case kq7_z=>k_updF);(case kq8_z=>assumption);(case kq9_z=>k_mem);(case kq10_z=>k_mem);(case kq11_z=>assumption);(case kq12_z=>walk_at "my sub");(case kq13_z=>assumption);(case kq14_z=>assumption);(case kq15_z=>k_is);(case kq16_z=>k_is);k_whole;intro s9_y t9_y ps9_y hps9_y F9_y N9_y G9_y o9_y;(try k_sweep);(try dsimp only);walk_at "my texts")))
 k_with "Emy turn" => row_timed "fz" (exact ‹TurnFact _› _ (by assumption) _ (by omega))
 k_with "Emy texts" => row_timed "fz" (skip)
 k_with "Fomega" => first|with_reducible exact tb1 hmm|fail
 k_with "Fomega" => first|with_reducible exact tb2 hmm|fail
 k_with "Fomega" => first|with_reducible exact tb3 hmm|fail
 k_with "Fomega" => first|with_reducible exact ctF1 hW|fail
 k_with "Gomega" => first|with_reducible exact ctV1 hn|fail
 k_with "Gomega" => first|with_reducible exact ctV2 hlen|fail
 k_with "Gomega" => first|with_reducible exact ctV3 hlen|fail
 k_with "Gomega" => first|with_reducible exact ctV4 hlen|fail
 k_with "Gomega" => first|with_reducible exact ctV5 hlen|fail
 k_with "Gomega" => first|with_reducible exact ctV6 hzC|fail
 k_with "Gomega" => first|with_reducible exact ctV6 hzD|fail
 k_with "Gomega" => first|with_reducible exact ctV7 hlen|fail
 k_with "Gomega" => first|with_reducible exact ctV8 hlen|fail
 k_with "Gomega" => first|with_reducible exact ctV9 hlen|fail
 k_with "Gomega" => first|with_reducible exact ctV10 hlen|fail
 k_with "Gomega" => first|with_reducible exact ctV13 hab1 hab2 hla|fail
 k_with "Gomega" => first|with_reducible exact ctV14 hab2|fail
 k_with "Gomega" => first|with_reducible exact ctV15 hab2|fail
 k_with "Gomega" => first|with_reducible exact ctV16 hab1 hab2|fail
 k_with "Gomega" => first|with_reducible exact ctV17 hab1 hab2|fail
 k_with "Gomega" => first|with_reducible exact ctV13 hab1 hab2 hvl|fail
 k_with "Gomega" => first|with_reducible exact ctV18 hj hvl|fail
 k_with "Gomega" => first|with_reducible exact ctV19 hab1 hab2 hi hj|fail
 k_with "Gomega" => first|with_reducible exact ctV20 hab1 hab3|fail
 k_with "Homega" => first|with_reducible exact ctD1 hz|fail
 k_with "Homega" => first|with_reducible exact ctD2 hx|fail
 k_with "Homega" => first|with_reducible exact ctD3 h0|fail
 k_with "Homega" => first|with_reducible exact ctD4 hi|fail
 k_with "Homega" => first|with_reducible exact ctD5 hn|fail
 k_with "Homega" => first|with_reducible exact ctD6 hW.1|fail
 k_with "Homega" => first|with_reducible exact ctD7 hi|fail
 k_with "Icall ref" => row_timed "fz" ((k_here;(with_reducible show wpAny _ _ (call (.ref 145) _) _ _ _);k_dflt (row_timed "r" (refine' c_turnK ?kq0_z ?kq1_z ?kq2_z ?kq3_z ?kq4_z ?kq5_z ?kq6_z ?kq7_z ?kq8_z ?kq9_z ?_);(case kq0_z=>k_asm);(case kq1_z=>k_asm);(case kq2_z=>k_asm);(case kq3_z=>k_asm);(case kq9_z=>walk_at "my get");(case kq4_z=>walk_at "my room");(case kq5_z=>walk_at "my units");(case kq6_z=>assumption);(case kq7_z=>assumption);(case kq8_z=>walk_at "my turn");k_whole;intro r9_y h9_y tk9_y t9_y u9_y v9_y n9_y F9_y N9_y x9_z;(replace x9_z:=off1_of x9_z);(try walk_at "my off");(try (rename LCg.Off1 _ _=>x9_z;clear x9_z));(try k_sweep);(try dsimp only))))
 k_with "Jcall ref" => row_timed "fz" ((k_here;(with_reducible show wpAny _ _ (call (.ref 80) _) _ _ _);k_dflt (row_timed "r" (refine' c_pushK ?kq0_z ?kq1_z ?kq2_z ?kq3_z ?kq4_z ?kq5_z ?kq6_z ?kq7_z ?kq8_z ?_);(case kq0_z=>k_asm);(case kq1_z=>k_asm);(case kq2_z=>k_asm);(case kq3_z=>k_asm);(case kq4_z=>walk_at "my room");(case kq5_z=>k_updF);(case kq6_z=>k_mem);(case kq7_z=>walk_at "my len");(case kq8_z=>assumption);k_whole;walk_at "my fresh")))
 k_with "Jcall ref" => row_timed "fz" ((k_here;(with_reducible show wpAny _ _ (call (.ref 136) []) _ _ _);k_dflt (row_timed "r" (refine' c_new0 ?kq0_z ?kq1_z ?kq2_z ?kq3_z ?kq4_z ?_);(case kq0_z=>k_asm);(case kq1_z=>k_asm);(case kq2_z=>k_asm);(case kq3_z=>k_asm);(case kq4_z=>walk_at "my room");k_whole;intro tk9_y h9_y x9_y d9_y hs9_y td9_y e9_y tq9_y A9_y F9_y N9_y l9_y l8_y;(try k_lt l9_y);(try k_sweep);(try dsimp only))))
 k_with "Jcall ref" => row_timed "fz" ((k_here;(with_reducible show wpAny _ _ (call (.ref 136) [.int _ _]) _ _ _);k_dflt (row_timed "r" (refine' c_new ?kq0_z ?kq1_z ?kq2_z ?kq3_z ?kq4_z ?_);(case kq0_z=>k_asm);(case kq1_z=>k_asm);(case kq2_z=>k_asm);(case kq3_z=>k_asm);(case kq4_z=>walk_at "my room");k_whole;intro tk9_y h9_y x9_y d9_y hs9_y td9_y e9_y A9_y F9_y N9_y l9_y l8_y;(try k_lt l9_y);(try k_sweep);(try dsimp only))))
 k_with "Komega" => first|with_reducible exact ctL1 this|fail
 k_with "Komega" => first|with_reducible exact ctL2 hW.1|fail
 k_with "Komega" => first|with_reducible exact ctL3 hnq|fail
 k_with "Komega" => first|with_reducible exact (ctL4 l1.2.2.2.2.2.2.1 hh).elim|fail
 k_with "Komega" => first|with_reducible exact (ctL5 l1.2.2.2.2.2.2.1 hh).elim|fail
 k_with "Komega" => first|with_reducible exact ctL6|fail
 k_with "Komega" => first|with_reducible exact ctL7 hlq hs4|fail
 k_with "Komega" => first|with_reducible exact ctL7 hlq2 hs4|fail
 k_with "Komega" => first|with_reducible exact ctL8 hs2 hs5|fail
 k_with "Komega" => first|with_reducible exact ctL9 hs3 hs6|fail
 k_with "Komega" => first|with_reducible exact ctL10 hs3 hs6|fail
 k_with "Komega" => first|with_reducible exact ctL11 hls|fail
 k_with "Komega" => first|with_reducible exact ctL12 hz7|fail
 k_with "Komega" => first|with_reducible exact ctL13 (by with_reducible assumption) hlq9|fail
 k_with "Komega" => first|with_reducible exact ctL14 hs9|fail
 k_with "Komega" => first|with_reducible exact ctL15 (by with_reducible assumption)|fail
 k_with "Komega" => first|with_reducible exact ctL16 hs9 this|fail
 k_with "Lomega" => first|with_reducible exact ctW1 (by with_reducible assumption)|fail
 k_with "Lomega" => first|with_reducible exact ctW2 (by with_reducible assumption)|fail
 k_with "Lomega" => first|with_reducible exact ctW3 (by with_reducible assumption)|fail
 k_with "Lomega" => first|with_reducible exact ctW4 hw|fail
 k_with "Lomega" => first|with_reducible exact ctW5 hlo|fail
 k_with "Lomega" => first|with_reducible exact ctW6 (by with_reducible assumption)|fail
 k_with "Lomega" => first|with_reducible exact ctW7 (by with_reducible assumption)|fail
 k_with "Lomega" => first|with_reducible exact ctW8 hsi|fail
 k_with "Lomega" => first|with_reducible exact ctW9|fail
 k_with "Lomega" => first|with_reducible exact ctW10|fail
 k_with "Lomega" => first|with_reducible exact ctW11|fail
 k_with "Lomega" => first|with_reducible exact ctW13|fail
 k_with "Lomega" => first|with_reducible exact ctW14 hi0|fail
 k_with "Lomega" => first|with_reducible exact ctW15 w1|fail
 k_with "Lomega" => first|with_reducible exact ctW16 hfv|fail
 k_with "Lomega" => first|with_reducible exact ctW17 hw1|fail
 k_with "Lomega" => first|with_reducible exact ctW17 hw2|fail
 k_with "Lomega" => first|with_reducible exact ctW18 (by with_reducible assumption)|fail
 trivial
end Mine
section
set_option genSizeOf false
set_option genInjectivity false
namespace Mine
inductive T
 | v (i:Nat)
 | n (k:Nat)
 | a (x y:T)
 | s (x y:T)
 | g (x:T)
 | m (x y:T)
 | d (x:T) (k:Nat)
noncomputable abbrev T0:T:=.v 0
noncomputable abbrev T1:T:=.v 1
noncomputable abbrev T2:T:=.v 2
noncomputable abbrev T3:T:=.v 3
noncomputable abbrev T4:T:=.v 4
noncomputable abbrev T5:T:=.v 5
noncomputable abbrev T6:T:=.v 6
noncomputable abbrev T7:T:=.v 7
noncomputable abbrev T8:T:=.v 8
noncomputable abbrev T9:T:=.v 9
noncomputable abbrev Tx:T:=.n 1
noncomputable abbrev Tz:T:=.n 0
noncomputable abbrev Ty:T:=.n 2
noncomputable abbrev Td:T:=.d (.n 1) 8589934592
noncomputable abbrev Te:T:=.d (.n 1) 268435456
noncomputable def nth {α:Type} (z:α):List α→Nat→α
 | [],_=>z
 | x::_,0=>x
 | _::l,i+1=>nth z l i
noncomputable def T.R (c:List Rat):T→Rat
 | .v i=>nth 0 c i
 | .n k=>OfNat.ofNat k
 | .a x y=>x.R c+y.R c
 | .s x y=>x.R c-y.R c
 | .g x => - x.R c
 | .m x y=>x.R c*y.R c
 | .d x k=>x.R c/OfNat.ofNat k
noncomputable def T.Z (c:List Int):T→Int
 | .v i=>nth 0 c i
 | .n k=>OfNat.ofNat k
 | .a x y=>x.Z c+y.Z c
 | .s x y=>x.Z c-y.Z c
 | .g x => - x.Z c
 | .m x y=>x.Z c*y.Z c
 | .d x _=>x.Z c
noncomputable def T.N (c:List Nat):T→Nat
 | .v i=>nth 0 c i
 | .n k=>k
 | .a x y=>x.N c+y.N c
 | .s x _=>x.N c
 | .g x=>x.N c
 | .m x y=>x.N c*y.N c
 | .d x _=>x.N c
structure Lf where
 d:Nat
 c:Int
 l:List Int
noncomputable def sgl:Nat→List Int
 | 0=>[1]
 | i+1=>0::sgl i
noncomputable def plus (p:Int) (a:List Int) (q:Int) (b:List Int):List Int:=match a,b with
 | [],b=>b.map (q*·)
 | a,[]=>a.map (p*·)
 | x::a,y::b=>(p*x+q*y)::plus p a q b
noncomputable def T.nf:T→Lf
 | .v i=>⟨1,0,sgl i⟩
 | .n k=>⟨1,k,[]⟩
 | .a x y=>⟨x.nf.d*y.nf.d,y.nf.d*x.nf.c+x.nf.d*y.nf.c,plus y.nf.d x.nf.l x.nf.d y.nf.l⟩
 | .s x y=>⟨x.nf.d*y.nf.d,y.nf.d*x.nf.c-x.nf.d*y.nf.c,plus y.nf.d x.nf.l (-x.nf.d) y.nf.l⟩
 | .g x=>⟨x.nf.d,-x.nf.c,x.nf.l.map (-1*·)⟩
 | .m x y=>if x.nf.l.all (· == 0) then ⟨x.nf.d*y.nf.d,x.nf.c*y.nf.c,y.nf.l.map (x.nf.c*·)⟩ else if y.nf.l.all (· == 0) then ⟨x.nf.d*y.nf.d,x.nf.c*y.nf.c,x.nf.l.map (y.nf.c*·)⟩ else ⟨0,0,[]⟩
 | .d x k=>if k=0 then ⟨0,0,[]⟩ else ⟨x.nf.d*k,x.nf.c,x.nf.l⟩
noncomputable def dot:List Int→List Rat→Rat
 | [],_=>0
 | _,[]=>0
 | k::l,x::c=>(k:Rat)*x+dot l c
private theorem dot_nil (l:List Int):dot l []=0:=by cases l<;>rfl
private theorem dot_map (p:Int):∀ (l:List Int) (c:List Rat),dot (l.map (p*·)) c=p*dot l c
 | [],_=>(Rat.mul_zero _).symm
 | _::_,[]=>(Rat.mul_zero _).symm
 | k::l,x::c=>by
  show ((p*k:Int):Rat)*x+dot (l.map (p*·)) c=p*((k:Rat)*x+dot l c)
  rw [dot_map p l c,Rat.intCast_mul,Rat.mul_add,Rat.mul_assoc]
private theorem dot_plus (p q:Int):∀ (a b:List Int) (c:List Rat),dot (plus p a q b) c=p*dot a c+q*dot b c
 | [],b,c=>by
  show dot (b.map (q*·)) c=p*0+_
  rw [dot_map,Rat.mul_zero,Rat.zero_add]
 | x::a,[],c=>by
  show dot ((x::a).map (p*·)) c=_+q*0
  rw [dot_map,Rat.mul_zero,Rat.add_zero]
 | x::a,y::b,[]=>by
  show (0:Rat)=p*0+q*0
  rw [Rat.mul_zero,Rat.mul_zero,Rat.add_zero]
 | x::a,y::b,z::c=>by
  show ((p*x+q*y:Int):Rat)*z+dot (plus p a q b) c=p*((x:Rat)*z+dot a c)+q*((y:Rat)*z+dot b c)
  rw [dot_plus p q a b c,Rat.intCast_add,Rat.intCast_mul,Rat.intCast_mul]
  grind -abstractProof
private theorem dot_sgl:∀ (i:Nat) (c:List Rat),dot (sgl i) c=nth 0 c i
 | _,[]=>by rw [dot_nil];rfl
 | 0,x::c=>by
  show ((1:Int):Rat)*x+dot [] c=x
  rw [show ((1:Int):Rat)=1 from rfl,Rat.one_mul];exact Rat.add_zero _
 | i+1,x::c=>by
  show ((0:Int):Rat)*x+dot (sgl i) c=nth 0 c i
  rw [dot_sgl i c,show ((0:Int):Rat)=0 from rfl,Rat.zero_mul,Rat.zero_add]
private theorem dot_zero:∀ (l:List Int) (c:List Rat),l.all (· == 0)=true→dot l c=0
 | [],_,_=>rfl
 | _::_,[],_=>rfl
 | k::l,x::c,h=>by
  rw [List.all_cons,Bool.and_eq_true,beq_iff_eq] at h
  show (k:Rat)*x+dot l c=0
  rw [dot_zero l c h.2,h.1,show ((0:Int):Rat)=0 from rfl,Rat.zero_mul,Rat.add_zero]
private theorem dot_neg:∀ (l:List Int) (c:List Rat),(∀ x∈c,0≤x)→l.all (decide <| ·≤0)=true→dot l c≤0
 | [],_,_,_=>Rat.le_refl
 | _::_,[],_,_=>Rat.le_refl
 | k::l,x::c,hc,h=>by
  rw [List.all_cons,Bool.and_eq_true,decide_eq_true_iff] at h
  have h1:=dot_neg l c (fun y hy=>hc y (.tail _ hy)) h.2
  have h2:(0:Rat)≤x:=hc x (.head _)
  have h3:(k:Rat)≤0:=Rat.intCast_le_intCast.mpr h.1
  show (k:Rat)*x+dot l c≤0
  have h4:(k:Rat)*x≤0*x:=Rat.mul_le_mul_of_nonneg_right h3 h2
  rw [Rat.zero_mul] at h4
  exact Rat.le_trans (Rat.add_le_add_right.mpr h4) (by rw [Rat.zero_add];exact h1)
noncomputable def Lf.ev (f:Lf) (c:List Rat):Rat:=(f.c:Rat)+dot f.l c
private theorem nf_is (c:List Rat):∀ t:T,(t.nf.d:Rat)*t.R c=t.nf.ev c
 | .v i=>by
  show ((1:Nat):Rat)*nth 0 c i=((0:Int):Rat)+dot (sgl i) c
  rw [dot_sgl,show ((1:Nat):Rat)=1 from rfl,show ((0:Int):Rat)=0 from rfl,Rat.one_mul,Rat.zero_add]
 | .n k=>by
  show ((1:Nat):Rat)*((k:Int):Rat)=((k:Int):Rat)+0
  rw [show ((1:Nat):Rat)=1 from rfl,Rat.one_mul,Rat.add_zero]
 | .a x y=>by
  have h1:=nf_is c x
  have h2:=nf_is c y
  unfold Lf.ev at *
  show ((x.nf.d*y.nf.d:Nat):Rat)*(x.R c+y.R c)=((y.nf.d*x.nf.c+x.nf.d*y.nf.c:Int):Rat)+dot (plus y.nf.d x.nf.l x.nf.d y.nf.l) c
  rw [dot_plus,Rat.natCast_mul,Rat.intCast_add,Rat.intCast_mul,Rat.intCast_mul,Rat.intCast_natCast,Rat.intCast_natCast]
  grind -abstractProof
 | .s x y=>by
  have h1:=nf_is c x
  have h2:=nf_is c y
  unfold Lf.ev at *
  show ((x.nf.d*y.nf.d:Nat):Rat)*(x.R c-y.R c)=((y.nf.d*x.nf.c-x.nf.d*y.nf.c:Int):Rat)+dot (plus y.nf.d x.nf.l (-x.nf.d) y.nf.l) c
  rw [dot_plus,Rat.natCast_mul,Rat.intCast_sub,Rat.intCast_mul,Rat.intCast_mul,Rat.intCast_neg,Rat.intCast_natCast,Rat.intCast_natCast]
  grind -abstractProof
 | .g x=>by
  have h1:=nf_is c x
  unfold Lf.ev at *
  show (x.nf.d:Rat)*(- x.R c)=((-x.nf.c:Int):Rat)+dot (x.nf.l.map (-1*·)) c
  rw [dot_map,Rat.intCast_neg,show ((-1:Int):Rat) = -1 from rfl]
  grind -abstractProof
 | .m x y=>by
  have h1:=nf_is c x
  have h2:=nf_is c y
  unfold Lf.ev at *
  show ((T.m x y).nf.d:Rat)*(x.R c*y.R c)=((T.m x y).nf.c:Rat)+dot (T.m x y).nf.l c
  rw [T.nf]
  split
  ·rename_i h
   rw [dot_zero _ _ h] at h1
   show ((x.nf.d*y.nf.d:Nat):Rat)*(x.R c*y.R c)=((x.nf.c*y.nf.c:Int):Rat)+dot (y.nf.l.map (x.nf.c*·)) c
   rw [dot_map,Rat.natCast_mul,Rat.intCast_mul,←Rat.mul_add,←h2,Rat.mul_assoc,←Rat.mul_assoc (y.nf.d:Rat),Rat.mul_comm (y.nf.d:Rat),Rat.mul_assoc,←Rat.mul_assoc,h1,Rat.add_zero]
  ·split
   ·rename_i h
    rw [dot_zero _ _ h] at h2
    show ((x.nf.d*y.nf.d:Nat):Rat)*(x.R c*y.R c)=((x.nf.c*y.nf.c:Int):Rat)+dot (x.nf.l.map (y.nf.c*·)) c
    rw [dot_map,Rat.natCast_mul,Rat.intCast_mul,Rat.mul_comm (x.nf.c:Rat),←Rat.mul_add,←h1,Rat.mul_assoc,←Rat.mul_assoc (y.nf.d:Rat),Rat.mul_comm (y.nf.d:Rat),Rat.mul_assoc,h2,Rat.add_zero,←Rat.mul_assoc,Rat.mul_comm]
   ·show ((0:Nat):Rat)*_=((0:Int):Rat)+0
    rw [show ((0:Nat):Rat)=0 from rfl,Rat.zero_mul];exact (Rat.add_zero _).symm
 | .d x k=>by
  have h1:=nf_is c x
  unfold Lf.ev at *
  show ((T.d x k).nf.d:Rat)*(x.R c/((k:Nat):Rat))=((T.d x k).nf.c:Rat)+dot (T.d x k).nf.l c
  rw [T.nf]
  split
  ·show ((0:Nat):Rat)*_=((0:Int):Rat)+0
   rw [show ((0:Nat):Rat)=0 from rfl,Rat.zero_mul];exact (Rat.add_zero _).symm
  ·rename_i h
   show ((x.nf.d*k:Nat):Rat)*_=(x.nf.c:Rat)+dot x.nf.l c
   rw [Rat.natCast_mul,Rat.mul_assoc,Rat.mul_comm (k:Rat),Rat.div_mul_cancel,h1]
   intro e
   exact h (Rat.natCast_eq_zero_iff.mp e)
inductive Hs
 | o
 | gle (l r:T) (k:Nat)
 | glt (l r:T) (k:Nat)
 | le (l r:T) (k:Nat) (h:Hs)
 | lt (l r:T) (k:Nat) (h:Hs)
 | eq (l r:T) (k:Int) (h:Hs)
 | nle (l r:T) (k:Nat) (h:Hs)
 | nlt (l r:T) (k:Nat) (h:Hs)
noncomputable def Hs.R (c:List Rat):Hs→Prop
 | .o=>False
 | .gle l r _=>l.R c≤r.R c
 | .glt l r _=>l.R c<r.R c
 | .le l r _ h=>l.R c≤r.R c→h.R c
 | .lt l r _ h=>l.R c<r.R c→h.R c
 | .eq l r _ h=>l.R c=r.R c→h.R c
 | .nle l r _ h=>¬ l.R c≤r.R c→h.R c
 | .nlt l r _ h=>¬ l.R c<r.R c→h.R c
noncomputable def put (k:Int) (l r:T) (K:Int) (a:List Int):Int × List Int:=(K+k*(l.nf.d*r.nf.c-r.nf.d*l.nf.c),plus 1 a k (plus l.nf.d r.nf.l (-r.nf.d) l.nf.l))
noncomputable def fin (nn:Bool) (st:Bool) (p:Int × List Int):Bool:=(p.2.all (· == 0) || (nn && p.2.all (decide <| ·≤0))) && (decide (p.1<0) || (st && decide (p.1≤0)))
noncomputable def big (k:Nat) (l r:T):Bool:=decide (0<k*(l.nf.d*r.nf.d))
noncomputable def Hs.run (nn:Bool):Hs→Bool→Int × List Int→Bool
 | .o,st,p=>fin nn st p
 | .gle l r k,st,p=>fin nn (st || big k r l) (put k r l p.1 p.2)
 | .glt l r k,st,p=>fin nn st (put k r l p.1 p.2)
 | .le l r k h,st,p=>h.run nn st (put k l r p.1 p.2)
 | .lt l r k h,st,p=>h.run nn (st || big k l r) (put k l r p.1 p.2)
 | .eq l r k h,st,p=>h.run nn st (put k l r p.1 p.2)
 | .nle l r k h,st,p=>h.run nn (st || big k r l) (put k r l p.1 p.2)
 | .nlt l r k h,st,p=>h.run nn st (put k r l p.1 p.2)
noncomputable def Ok (c:List Rat) (st:Bool) (p:Int × List Int):Prop:=0≤(p.1:Rat)+dot p.2 c∧(st=true→0<(p.1:Rat)+dot p.2 c)
private theorem put_is (c:List Rat) (k:Int) (l r:T) (K:Int) (a:List Int):((put k l r K a).1:Rat)+dot (put k l r K a).2 c=(K:Rat)+dot a c+(k:Rat)*((l.nf.d:Rat)*(r.nf.d:Rat))*(r.R c-l.R c):=by
 have h1:=nf_is c l
 have h2:=nf_is c r
 unfold Lf.ev at h1 h2
 show ((K+k*(l.nf.d*r.nf.c-r.nf.d*l.nf.c):Int):Rat)+dot (plus 1 a k (plus l.nf.d r.nf.l (-r.nf.d) l.nf.l)) c=_
 rw [dot_plus,dot_plus,Rat.intCast_add,Rat.intCast_mul,Rat.intCast_sub,Rat.intCast_mul,Rat.intCast_mul,Rat.intCast_neg,Rat.intCast_natCast,Rat.intCast_natCast,show ((1:Int):Rat)=1 from rfl]
 grind -abstractProof
private theorem fac_nn (k:Nat) (l r:T):(0:Rat)≤((k:Int):Rat)*((l.nf.d:Rat)*(r.nf.d:Rat)):=by
 rw [Rat.intCast_natCast,←Rat.natCast_mul,←Rat.natCast_mul]
 exact Rat.natCast_nonneg
private theorem put_ok {c:List Rat} {st:Bool} {p:Int × List Int} (k:Nat) (l r:T) (h:l.R c≤r.R c) (o:Ok c st p):Ok c st (put k l r p.1 p.2):=by
 have hh:(0:Rat)≤r.R c-l.R c:=(Rat.le_iff_sub_nonneg _ _).mp h
 have e:=Rat.mul_nonneg (fac_nn k l r) hh
 unfold Ok
 rw [put_is]
 exact ⟨Rat.add_nonneg o.1 e,fun q=>Std.lt_of_lt_of_le (o.2 q) (by have:=Rat.add_le_add_left (c:=(p.1:Rat)+dot p.2 c) |>.mpr e;rwa [Rat.add_zero] at this)⟩
private theorem put_lt {c:List Rat} {st:Bool} {p:Int × List Int} (k:Nat) (l r:T) (h:l.R c<r.R c) (o:Ok c st p):Ok c (st || big k l r) (put k l r p.1 p.2):=by
 have o1:=put_ok k l r (Rat.le_of_lt h) o
 refine ⟨o1.1,fun q=>?_⟩
 rcases Bool.or_eq_true _ _ |>.mp q with q|q
 ·exact o1.2 q
 ·unfold big at q
  rw [decide_eq_true_iff] at q
  have hh:(0:Rat)<r.R c-l.R c:=(Rat.lt_iff_sub_pos _ _).mp h
  have e1:(0:Rat)<((k:Int):Rat)*((l.nf.d:Rat)*(r.nf.d:Rat)):=by
   rw [Rat.intCast_natCast,←Rat.natCast_mul,←Rat.natCast_mul]
   exact Rat.natCast_pos.mpr q
  have e:=Rat.mul_pos e1 hh
  rw [put_is]
  exact Std.lt_of_le_of_lt o.1 (by have:=Rat.add_lt_add_left (c:=(p.1:Rat)+dot p.2 c) |>.mpr e;rwa [Rat.add_zero] at this)
private theorem put_eq {c:List Rat} {st:Bool} {p:Int × List Int} (k:Int) (l r:T) (h:l.R c=r.R c) (o:Ok c st p):Ok c st (put k l r p.1 p.2):=by
 unfold Ok
 rw [put_is,h,Rat.sub_self,Rat.mul_zero,Rat.add_zero]
 exact o
private theorem fin_no {nn:Bool} {c:List Rat} (hn:nn=true→∀ x∈c,0≤x) {st:Bool} {p:Int × List Int} (o:Ok c st p) (h:fin nn st p=true):False:=by
 unfold fin at h
 rw [Bool.and_eq_true] at h
 have hd:dot p.2 c≤0:=by
  rcases Bool.or_eq_true _ _ |>.mp h.1 with h|h
  ·rw [dot_zero _ _ h];exact Rat.le_refl
  ·rw [Bool.and_eq_true] at h;exact dot_neg _ _ (hn h.1) h.2
 have hs:(p.1:Rat)+dot p.2 c≤(p.1:Rat):=by have:=Rat.add_le_add_left (c:=(p.1:Rat)) |>.mpr hd;rwa [Rat.add_zero] at this
 rcases Bool.or_eq_true _ _ |>.mp h.2 with h|h
 ·have:=Rat.intCast_le_intCast.mp (Rat.le_trans o.1 hs)
  exact absurd (of_decide_eq_true h) (Int.not_lt.mpr this)
 ·rw [Bool.and_eq_true] at h
  have:=Rat.intCast_lt_intCast.mp (Std.lt_of_lt_of_le (o.2 h.1) hs)
  exact absurd this (Int.not_lt.mpr (of_decide_eq_true h.2))
private theorem run_is {nn:Bool} {c:List Rat} (hn:nn=true→∀ x∈c,0≤x):∀ (h:Hs) (st:Bool) (p:Int × List Int),Ok c st p→h.run nn st p=true→h.R c
 | .o,_,_,o,q=>fin_no hn o q
 | .gle l r k,_,_,o,q=>Rat.not_lt.mp fun h=>fin_no hn (put_lt k r l h o) q
 | .glt l r k,_,_,o,q=>Rat.not_le.mp fun h=>fin_no hn (put_ok k r l h o) q
 | .le l r k h,_,_,o,q=>fun a=>run_is hn h _ _ (put_ok k l r a o) q
 | .lt l r k h,_,_,o,q=>fun a=>run_is hn h _ _ (put_lt k l r a o) q
 | .eq l r k h,_,_,o,q=>fun a=>run_is hn h _ _ (put_eq k l r a o) q
 | .nle l r k h,_,_,o,q=>fun a=>run_is hn h _ _ (put_lt k r l (Rat.not_le.mp a) o) q
 | .nlt l r k h,_,_,o,q=>fun a=>run_is hn h _ _ (put_ok k r l (Rat.not_lt.mp a) o) q
private theorem ok0 (c:List Rat):Ok c false (0,[]):=⟨by show (0:Rat)≤0+0;rw [Rat.add_zero];exact Rat.le_refl,fun h=>Bool.noConfusion h⟩
private theorem goalP {P:Prop} (h:∀ G:Prop,(P→G)→G):P:=h P id
private theorem lqr (c:List Rat) (h:Hs) (q:h.run false false (0,[])=true):h.R c:=run_is (nn:=false) (fun h=>Bool.noConfusion h) h _ _ (ok0 c) q
noncomputable def T.okZ:T→Bool
 | .v _=>true
 | .n _=>true
 | .a x y=>x.okZ && y.okZ
 | .s x y=>x.okZ && y.okZ
 | .g x=>x.okZ
 | .m x y=>x.okZ && y.okZ
 | .d _ _=>false
noncomputable def T.okN:T→Bool
 | .v _=>true
 | .n _=>true
 | .a x y=>x.okN && y.okN
 | .s _ _=>false
 | .g _=>false
 | .m x y=>x.okN && y.okN
 | .d _ _=>false
private theorem nth_map {α β:Type} (f:α→β) (z:α):∀ (c:List α) (i:Nat),nth (f z) (c.map f) i=f (nth z c i)
 | [],_=>rfl
 | _::_,0=>rfl
 | _::c,i+1=>nth_map f z c i
private theorem Z_is (c:List Int):∀ t:T,t.okZ=true→t.R (c.map fun x:Int=>(x:Rat))=((t.Z c:Int):Rat)
 | .v i,_=>nth_map (fun x:Int=>(x:Rat)) 0 c i
 | .n _,_=>rfl
 | .a x y,h=>by
  have h:=(Bool.and_eq_true _ _).mp h
  show x.R _+y.R _=((x.Z c+y.Z c:Int):Rat)
  rw [Z_is c x h.1,Z_is c y h.2,Rat.intCast_add]
 | .s x y,h=>by
  have h:=(Bool.and_eq_true _ _).mp h
  show x.R _-y.R _=((x.Z c-y.Z c:Int):Rat)
  rw [Z_is c x h.1,Z_is c y h.2,Rat.intCast_sub]
 | .g x,h=>by
  show-x.R _=((- x.Z c:Int):Rat)
  rw [Z_is c x h,Rat.intCast_neg]
 | .m x y,h=>by
  have h:=(Bool.and_eq_true _ _).mp h
  show x.R _*y.R _=((x.Z c*y.Z c:Int):Rat)
  rw [Z_is c x h.1,Z_is c y h.2,Rat.intCast_mul]
private theorem N_is (c:List Nat):∀ t:T,t.okN=true→t.R (c.map fun x:Nat=>((x:Int):Rat))=(((t.N c:Nat):Int):Rat)
 | .v i,_=>nth_map (fun x:Nat=>((x:Int):Rat)) 0 c i
 | .n _,_=>rfl
 | .a x y,h=>by
  have h:=(Bool.and_eq_true _ _).mp h
  show x.R _+y.R _=(((x.N c+y.N c:Nat):Int):Rat)
  rw [N_is c x h.1,N_is c y h.2,Int.natCast_add,Rat.intCast_add]
 | .m x y,h=>by
  have h:=(Bool.and_eq_true _ _).mp h
  show x.R _*y.R _=(((x.N c*y.N c:Nat):Int):Rat)
  rw [N_is c x h.1,N_is c y h.2,Int.natCast_mul,Rat.intCast_mul]
noncomputable def Hs.Z (c:List Int):Hs→Prop
 | .o=>False
 | .gle l r _=>l.Z c≤r.Z c
 | .glt l r _=>l.Z c<r.Z c
 | .le l r _ h=>l.Z c≤r.Z c→h.Z c
 | .lt l r _ h=>l.Z c<r.Z c→h.Z c
 | .eq l r _ h=>l.Z c=r.Z c→h.Z c
 | .nle l r _ h=>¬ l.Z c≤r.Z c→h.Z c
 | .nlt l r _ h=>¬ l.Z c<r.Z c→h.Z c
noncomputable def Hs.N (c:List Nat):Hs→Prop
 | .o=>False
 | .gle l r _=>l.N c≤r.N c
 | .glt l r _=>l.N c<r.N c
 | .le l r _ h=>l.N c≤r.N c→h.N c
 | .lt l r _ h=>l.N c<r.N c→h.N c
 | .eq l r _ h=>l.N c=r.N c→h.N c
 | .nle l r _ h=>¬ l.N c≤r.N c→h.N c
 | .nlt l r _ h=>¬ l.N c<r.N c→h.N c
noncomputable def T.up (t:T):T:=.a t (.n 1)
noncomputable def Hs.cv:Hs→Hs
 | .o=>.o
 | .gle l r k=>.le r.up l k .o
 | .glt l r k=>.le r l k .o
 | .le l r k h=>.le l r k h.cv
 | .lt l r k h=>.le l.up r k h.cv
 | .eq l r k h=>.eq l r k h.cv
 | .nle l r k h=>.le r.up l k h.cv
 | .nlt l r k h=>.le r l k h.cv
noncomputable def Hs.all (f:T→Bool):Hs→Bool
 | .o=>true
 | .gle l r _=>f l && f r
 | .glt l r _=>f l && f r
 | .le l r _ h=>f l && f r && h.all f
 | .lt l r _ h=>f l && f r && h.all f
 | .eq l r _ h=>f l && f r && h.all f
 | .nle l r _ h=>f l && f r && h.all f
 | .nlt l r _ h=>f l && f r && h.all f
private theorem up_is {c:List Rat} {t:T} {z:Int} (h:t.R c=(z:Rat)):t.up.R c=((z+1:Int):Rat):=by
 show t.R c+((1:Int):Rat)=_
 rw [h,Rat.intCast_add]
private theorem cv_gen {c:List Rat} {f:T→Bool} {D:T→Int} (hD:∀ t,f t=true→t.R c=(D t:Rat)) {P:Hs→Prop}
  (p0:False→P .o) (p1:∀ l r k,D l≤D r→P (.gle l r k)) (p2:∀ l r k,D l<D r→P (.glt l r k)) (p3:∀ l r k h,(D l≤D r→P h)→P (.le l r k h)) (p4:∀ l r k h,(D l<D r→P h)→P (.lt l r k h)) (p5:∀ l r k h,(D l=D r→P h)→P (.eq l r k h)) (p6:∀ l r k h,(¬ D l≤D r→P h)→P (.nle l r k h)) (p7:∀ l r k h,(¬ D l<D r→P h)→P (.nlt l r k h)) :
  ∀ h:Hs,h.all f=true→h.cv.R c→P h
 | .o,_,q=>p0 q
 | .gle l r k,a,q=>by
  have a:=(Bool.and_eq_true _ _).mp a
  refine p1 l r k (Int.not_lt.mp fun hlt=>q ?_)
  rw [up_is (hD r a.2),hD l a.1];exact Rat.intCast_le_intCast.mpr hlt
 | .glt l r k,a,q=>by
  have a:=(Bool.and_eq_true _ _).mp a
  refine p2 l r k (Int.not_le.mp fun hle=>q ?_)
  rw [hD r a.2,hD l a.1];exact Rat.intCast_le_intCast.mpr hle
 | .le l r k h,a,q=>by
  have a:=(Bool.and_eq_true _ _).mp a
  have b:=(Bool.and_eq_true _ _).mp a.1
  exact p3 l r k h fun x=>cv_gen hD p0 p1 p2 p3 p4 p5 p6 p7 h a.2 (q (by rw [hD r b.2,hD l b.1];exact Rat.intCast_le_intCast.mpr x))
 | .lt l r k h,a,q=>by
  have a:=(Bool.and_eq_true _ _).mp a
  have b:=(Bool.and_eq_true _ _).mp a.1
  exact p4 l r k h fun x=>cv_gen hD p0 p1 p2 p3 p4 p5 p6 p7 h a.2 (q (by rw [hD r b.2,up_is (hD l b.1)];exact Rat.intCast_le_intCast.mpr x))
 | .eq l r k h,a,q=>by
  have a:=(Bool.and_eq_true _ _).mp a
  have b:=(Bool.and_eq_true _ _).mp a.1
  exact p5 l r k h fun x=>cv_gen hD p0 p1 p2 p3 p4 p5 p6 p7 h a.2 (q (by rw [hD r b.2,hD l b.1,x]))
 | .nle l r k h,a,q=>by
  have a:=(Bool.and_eq_true _ _).mp a
  have b:=(Bool.and_eq_true _ _).mp a.1
  exact p6 l r k h fun x=>cv_gen hD p0 p1 p2 p3 p4 p5 p6 p7 h a.2 (q (by rw [up_is (hD r b.2),hD l b.1];exact Rat.intCast_le_intCast.mpr (Int.not_le.mp x)))
 | .nlt l r k h,a,q=>by
  have a:=(Bool.and_eq_true _ _).mp a
  have b:=(Bool.and_eq_true _ _).mp a.1
  exact p7 l r k h fun x=>cv_gen hD p0 p1 p2 p3 p4 p5 p6 p7 h a.2 (q (by rw [hD r b.2,hD l b.1];exact Rat.intCast_le_intCast.mpr (Int.not_lt.mp x)))
private theorem lqz (c:List Int) (h:Hs) (q:(h.all T.okZ && h.cv.run false false (0,[]))=true):h.Z c:=by
 have q:=(Bool.and_eq_true _ _).mp q
 exact cv_gen (D:=T.Z c) (P:=Hs.Z c) (Z_is c) (fun x=>x) (fun _ _ _ x=>x) (fun _ _ _ x=>x) (fun _ _ _ _ x=>x) (fun _ _ _ _ x=>x) (fun _ _ _ _ x=>x) (fun _ _ _ _ x=>x) (fun _ _ _ _ x=>x) h q.1 (lqr _ _ q.2)
private theorem lqn (c:List Nat) (h:Hs) (q:(h.all T.okN && h.cv.run true false (0,[]))=true):h.N c:=by
 have q:=(Bool.and_eq_true _ _).mp q
 refine cv_gen (D:=fun t=>((t.N c:Nat):Int)) (P:=Hs.N c) (N_is c) (fun x=>x) (fun _ _ _ x=>Int.ofNat_le.mp x) (fun _ _ _ x=>Int.ofNat_lt.mp x) (fun _ _ _ _ x y=>x (Int.ofNat_le.mpr y)) (fun _ _ _ _ x y=>x (Int.ofNat_lt.mpr y)) (fun _ _ _ _ x y=>x (congrArg Int.ofNat y)) (fun _ _ _ _ x y=>x fun z=>y (Int.ofNat_le.mp z)) (fun _ _ _ _ x y=>x fun z=>y (Int.ofNat_lt.mp z)) h q.1 (run_is (fun _ x hx=>?_) _ _ _ (ok0 _) q.2)
 obtain ⟨y,_,rfl⟩:=List.mem_map.mp hx
 exact Rat.intCast_nonneg.mpr (Int.natCast_nonneg y)
private theorem and2 {A B G:Prop} (h:A∧B) (k:A→B→G):G:=k h.1 h.2
private theorem and3 {A B C G:Prop} (h:A∧B∧C) (k:A→B→C→G):G:=k h.1 h.2.1 h.2.2
private theorem and4 {A B C D G:Prop} (h:A∧B∧C∧D) (k:A→B→C→D→G):G:=k h.1 h.2.1 h.2.2.1 h.2.2.2
private theorem and5 {A B C D E G:Prop} (h:A∧B∧C∧D∧E) (k:A→B→C→D→E→G):G:=k h.1 h.2.1 h.2.2.1 h.2.2.2.1 h.2.2.2.2
private theorem and6 {A B C D E F G:Prop} (h:A∧B∧C∧D∧E∧F) (k:A→B→C→D→E→F→G):G:=k h.1 h.2.1 h.2.2.1 h.2.2.2.1 h.2.2.2.2.1 h.2.2.2.2.2
end Mine
end
section
open PySem PySem.W PyProof.Rows
namespace Mine
theorem Mkr:True:=by w_top off;trivial
private theorem noneE {α:Type} {x:α} {P:Prop} (h:none=some x):P:=nomatch h
noncomputable abbrev pw:Program:=PySem.Challenge.pw_sc0045_01
noncomputable abbrev rwl:OpenLaw:=PySem.Challenge.rw_sc0045_01
noncomputable def vw:Program:=view pw [0,1,2,3,4,5,6,7,11,12,13,14,15,17,18,19,20,21,22]
noncomputable abbrev lv:List (PySem.Str × WData):=[(Str.ofString "ONE_THIRD", WData.float 4599676419421066581),
    (Str.ofString "ONE_SIXTH", WData.float 4595172819793696085),
    (Str.ofString "TWO_THIRD", WData.float 4604180019048437077)]
noncomputable abbrev lo:List PySem.Str:=[Str.ofString "ONE_THIRD", Str.ofString "ONE_SIXTH", Str.ofString "TWO_THIRD", Str.ofString "_Accumulator"]
set_option maxRecDepth 1000000
set_option maxHeartbeats 0
noncomputable def bootT (P:Params):BT:=((boot_heap P).objs.toList.foldl (fun x o=>(x.1.ins x.2 o,x.2+1)) (BT.nil,0)).1
noncomputable def topT (ok:Thread→Bool) (st:SharedT→Thread→Option (SharedT × Thread)) (n:Nat):SharedT→Thread→Option SharedT:=
 Nat.rec (fun _ _=>none) (fun _ ih s t=>bif through t then some s else bif ok t then (st s t).bind (fun x=>ih x.1 x.2) else none) n
section
variable {p q:Program} {w:World} {os:OsState} {a:Option Value} {N:Nat} {lo:List Str} {X:Shared→Bool}
private theorem topT_of (n:Nat):∀ {s t s'},topT (stepOk 11 a) (stepT (denote treeTable) p w) n s t=some s'→topRun treeTable p w 11 a n s.abs t=some s'.abs:=by
 induction n with
 | zero=>intro s t s' h;exact noneE h
 | succ n ih=>
  intro s t s'
  unfold topRun
  change (bif through t then some s else bif stepOk 11 a t then (stepT (denote treeTable) p w s t).bind (fun x=>topT (stepOk 11 a) (stepT (denote treeTable) p w) n x.1 x.2) else none)=_→_
  generalize through t=b
  cases b with
  | true=>intro h;exact congrArg (fun x=>some x.abs) (Option.some.inj h)
  | false=>
   generalize stepOk 11 a t=b
   cases b with
   | false=>intro h;exact noneE h
   | true=>
    intro h
    obtain ⟨x,h1,h2⟩:=Option.bind_eq_some_iff.mp h
    dsimp only
    rw [stepT_spec h1]
    exact ih h2
private theorem shared_of {s:Shared} {h g d k} (e:(s.heap,s.gens,s.drawn,s.toks)=(h,g,d,k)):s=⟨h,g,d,k,s.os⟩:=congrFun (congr (congr (congr (congrArg Shared.mk (congrArg (·.1) e)) (congrArg (·.2.1) e)) (congrArg (·.2.2.1) e)) (congrArg (·.2.2.2) e)) s.os
noncomputable abbrev topG (p:Program) (h:Heap) (s:Shared):Bool:=staticsOk (importedModules p.main.body) h s.heap && namesBound p s.heap && gensDone s && laidKept h s.heap
private theorem topFrom_of {h:Heap} {d k s} (z1:h.isNs mainGlobals=true) (z2:h.objs.size=11) (r:topRun treeTable p w 11 (h.nsMap mainGlobals "__annotations__") N ⟨h,#[],d,k,os⟩ (topStub p)=some s) (g:topG p h s=true):topFrom treeTable p w N ⟨h,#[],d,k,os⟩=some s:=by
 unfold topFrom
 dsimp only
 rw [z1,z2,r]
 change (match topG p h s with|true=>some s|false=>none)=_
 rw [g]
private theorem bootT_ok (P:Params):absHeap (bootT P) 11 (boot_heap P).life=boot_heap P:=by kernel_rfl
private theorem boot_ns (P:Params):(boot_heap P).isNs mainGlobals=true:=by kernel_rfl
private theorem boot_size (P:Params):(boot_heap P).objs.size=11:=by kernel_rfl
noncomputable abbrev bootS (w:World) (os:OsState):SharedT:=⟨bootT w.params,11,(boot_heap w.params).life,#[],boot_drawn,boot_toks,os⟩
noncomputable abbrev annB (w:World):Option Value:=(boot_heap w.params).nsMap mainGlobals "__annotations__"
noncomputable abbrev topB (p:Program) (w:World) (os:OsState) (N:Nat):Option SharedT:=topT (Fast.tw6613529449190102663 11 (annB w)) (Fast.tw10156331382660048174 (Fast.tw11892475500146522536 Fast.tw14364793385576792824) p w) N (bootS w os) (topStub p)
private theorem bootS_abs:(bootS w os).abs=⟨boot_heap w.params,#[],boot_drawn,boot_toks,os⟩:=congrArg (fun h=>(⟨h,#[],boot_drawn,boot_toks,os⟩:Shared)) (bootT_ok w.params)
private theorem topB_of {s} (h:topB p w os N=some s):topRun treeTable p w 11 (annB w) N ⟨boot_heap w.params,#[],boot_drawn,boot_toks,os⟩ (topStub p)=some s.abs:=by
 unfold topB at h
 rw [← Fast.te6613529449190102663,←Fast.te10156331382660048174,←Fast.te11892475500146522536,←Fast.te14364793385576792824] at h
 have r:=topT_of N h
 rw [bootS_abs] at r
 exact r
private theorem leftQ {α:Type} {Yf:Shared→α} {Ya:World→α} (e:opening p=plainProg p.main.scope.names) (hN:Nat.ble 600 N=true) (f:∀ s,fenceModules? p s=some s)
 (g:∀ w os,(topB p w os N).map (fun x=>topG p (boot_heap w.params) x.abs)=some true)
 (h:∀ w os,(topB p w os N).map (fun x=>Fast.tw4187177175401517315 q lo (importedModules p.main.body) X true x.abs)=some (openGood q lo))
 (y:∀ w os,(topB p w os N).map (fun x=>Yf x.abs)=some (Ya w)):LeftO p q lo X Yf Ya N:=fun w=>by
 obtain ⟨z,e1,e2⟩:=Option.map_eq_some_iff.mp (boot_open e hN f w)
 have e1:=e1.trans (congrArg some (shared_of e2))
 obtain ⟨s,r1,a1⟩:=Option.map_eq_some_iff.mp (g w z.os)
 have a2:=(congrArg (Option.map _) r1).symm.trans (h w z.os)
 have a3:=(congrArg (Option.map _) r1).symm.trans (y w z.os)
 have t:openEnds treeTable p w N=some s.abs:=(congrArg (fun o=>o.bind (topFrom treeTable p w N)) e1).trans (topFrom_of (boot_ns _) (boot_size _) (topB_of r1) a1)
 have a2:=(congrFun (congrFun (congrFun (congrFun (congrFun (congrFun Fast.te4187177175401517315 q) lo) _) X) true) s.abs).trans (Option.some.inj a2)
 rw [t]
 exact congrArg some (Prod.ext a2 (Option.some.inj a3))
end
private theorem top_kept (w:World) (os:OsState):(topB pw w os 2124).map (fun x=>topG pw (boot_heap w.params) x.abs)=some true:=by kernel_rfl
noncomputable abbrev Xl (s:Shared):Bool:=xlAt vw lv s && recOk (RowW.records rwl.row.toRowW) s
private theorem top_seen (w:World) (os:OsState):(topB pw w os 2124).map (fun x=>Fast.tw4187177175401517315 vw lo (importedModules pw.main.body) Xl true x.abs)=some (openGood vw lo):=by kernel_rfl
private theorem look_a:Fast.tw8377067652309620493 rwl.row.prog=true:=by kernel_rfl
private theorem look_b:(Fast.tw17119622794617984870 rwl.row.prog rwl.row.prog.main.body fun _ n=>attrL n)=true:=by kernel_rfl
private theorem look_c:looksOpen rwl.row.prog=true:=by
 delta looksOpen
 rw [Fast.te8377067652309620493,look_a,Fast.te8326940854005059898,Fast.te17119622794617984870,look_b]
 kernel_rfl
private theorem law_said:rwl.wellSaid=true:=by
 delta OpenLaw.wellSaid OpenRow.wellSaid OpenRow.partSaid
 rw [look_c,Fast.te8326940854005059898,Fast.te17119622794617984870,Fast.named_eq]
 kernel_rfl
private theorem law_bare:rwl.row.prog.bare:=⟨rfl,rfl,rfl,rfl,rfl,by decide +kernel⟩
noncomputable def myHead {K:Params→Frag} {as:List Addr} (e:∀ P,as=(K P).map (·.1)):=@PySem.W.holds_open PySem.Challenge.rw_sc0045_01.row vw lo Xl (XL vw lv) _ (Hook.obs (kmHook K as e [98,105])) (Hook.val (kmHook K as e [98,105])) (Hook.says (kmHook K as e [98,105]))
local macro_rules | `(tactic| o_head ($_f $k $a $e))=>`(tactic| (apply myHead (K:=$k) (as:=$a) (N:=2124) $e;walk_at "hd"))
local macro_rules | `(tactic| o_law)=>`(tactic| walk_at "law")
open_top hd for PySem.Challenge.rw_sc0045_01

end Mine
end
section
open PySem PySem.W PyProof.Rows PySem.Flt PySem.Calls
namespace Mine
theorem Mkrr:True:=trivial

private theorem all_a {α β:Type} {P:α × β→Prop} (h:∀ a b,P (a,b)) (c:α × β):P c:=h c.1 c.2
private theorem all_b {α β γ:Type} {P:α × β × γ→Prop} (h:∀ a b d,P (a,b,d)) (c:α × β × γ):P c:=h c.1 c.2.1 c.2.2
private theorem all_c {α β γ δ:Type} {P:α × β × γ × δ→Prop} (h:∀ a b d e,P (a,b,d,e)) (c:α × β × γ × δ):P c:=h c.1 c.2.1 c.2.2.1 c.2.2.2
private theorem all_d {α β γ δ ε ζ η:Type} {P:α × (β × γ) × (δ × ε) × ζ × η→Prop} (h:∀ a b c d e f g,P (a,(b,c),(d,e),f,g)) (c:α × (β × γ) × (δ × ε) × ζ × η):P c:=h c.1 c.2.1.1 c.2.1.2 c.2.2.1.1 c.2.2.1.2 c.2.2.2.1 c.2.2.2.2
private theorem all_e {α β γ δ:Type} {P:(α × β) × γ × δ→Prop} (h:∀ a b d e,P ((a,b),d,e)) (c:(α × β) × γ × δ):P c:=h c.1.1 c.1.2 c.2.1 c.2.2
private theorem all_f {a1 a2 a3 a4 a5 a6 a7 a8 a9:Type} {P:a1 × a2 × a3 × a4 × a5 × a6 × a7 × a8 × a9→Prop} (h:∀ b1 b2 b3 b4 b5 b6 b7 b8 b9,P (b1,b2,b3,b4,b5,b6,b7,b8,b9)) (c:a1 × a2 × a3 × a4 × a5 × a6 × a7 × a8 × a9):P c:=
 h c.1 c.2.1 c.2.2.1 c.2.2.2.1 c.2.2.2.2.1 c.2.2.2.2.2.1 c.2.2.2.2.2.2.1 c.2.2.2.2.2.2.2.1 c.2.2.2.2.2.2.2.2
noncomputable abbrev AA (dp un:Nat) (gd:Option (List Code)) (fr:Option (List Env)):Around:={ handled:=none,depth:=dp,frames:=fr,guards:=gd,units:=un }
noncomputable abbrev Ext (h h':Heap):Prop:=∀ b o,h.get? b=some o→h'.get? b=some o
noncomputable abbrev lst (vs:List Value) (n:Nat):Obj:={ cls:=.type "list", data:=.seq vs.toArray n }
noncomputable abbrev tup (vs:List Value):Obj:={ cls:=.type "tuple", data:=.seq vs.toArray }

private theorem off1_of {D:Addr}:∀ {l:List (Addr × Obj)},(∀ p∈l,p.1≠D)→LCg.Off1 D l
 | [],_=>trivial
 | p::_,h=>⟨h p (.head _),off1_of fun q hq=>h q (.tail _ hq)⟩
noncomputable def Apart (a b:Nat):Prop:=a≠b
private theorem Apart.ne {a b:Nat} (h:Apart a b):a≠b:=h
private theorem Apart.ne' {a b:Nat} (h:Apart a b):b≠a:=Ne.symm h
private theorem in_cons {α:Type} {a:α} {l n:List α} (h1:a∈n) (h2:∀ p∈l,p∈n):∀ p∈a::l,p∈n:=List.forall_mem_cons.mpr ⟨h1,h2⟩
private theorem all_cons {m:PySem.Str→Option Value} {x:PySem.Str} {v:Value} {l:List (PySem.Str × Value)} (h1:m x=some v) (h2:∀ p∈l,m p.1=some p.2):∀ p∈(x,v)::l,m p.1=some p.2:=List.forall_mem_cons.mpr ⟨h1,h2⟩
private theorem fcons {α:Type} {p:α→Prop} {a:α} {l:List α} (h1:p a) (h2:∀ x∈l,p x):∀ x∈a::l,p x:=List.forall_mem_cons.mpr ⟨h1,h2⟩
private theorem m0 {α:Type} {a:α} {t:List α}:a∈a::t:=.head _
private theorem m1 {α:Type} {b a:α} {t:List α}:a∈b::a::t:=.tail _ m0
private theorem m2 {α:Type} {b c a:α} {t:List α}:a∈b::c::a::t:=.tail _ m1
private theorem m3 {α:Type} {b c d a:α} {t:List α}:a∈b::c::d::a::t:=.tail _ m2
private theorem m4 {α:Type} {b c d e a:α} {t:List α}:a∈b::c::d::e::a::t:=.tail _ m3
private theorem m5 {α:Type} {b c d e f a:α} {t:List α}:a∈b::c::d::e::f::a::t:=.tail _ m4
private theorem m6 {α:Type} {b c d e f g a:α} {t:List α}:a∈b::c::d::e::f::g::a::t:=.tail _ m5
private theorem m7 {α:Type} {b c d e f g h a:α} {t:List α}:a∈b::c::d::e::f::g::h::a::t:=.tail _ m6
private theorem m8 {α:Type} {b c d e f g h i a:α} {t:List α}:a∈b::c::d::e::f::g::h::i::a::t:=.tail _ m7
private theorem m9 {α:Type} {b c d e f g h i j a:α} {t:List α}:a∈b::c::d::e::f::g::h::i::j::a::t:=.tail _ m8
private theorem m10 {α:Type} {b c d e f g h i j k a:α} {t:List α}:a∈b::c::d::e::f::g::h::i::j::k::a::t:=.tail _ m9
private theorem m11 {α:Type} {b c d e f g h i j k l a:α} {t:List α}:a∈b::c::d::e::f::g::h::i::j::k::l::a::t:=.tail _ m10
private theorem s1 {α:Type} {a b:α} {t:List α} (hh:a∈t):a∈b::t:=.tail _ hh
private theorem s2 {α:Type} {a b c:α} {t:List α} (hh:a∈t):a∈b::c::t:=.tail _ (s1 hh)
private theorem s3 {α:Type} {a b c d:α} {t:List α} (hh:a∈t):a∈b::c::d::t:=.tail _ (s2 hh)
private theorem s4 {α:Type} {a b c d e:α} {t:List α} (hh:a∈t):a∈b::c::d::e::t:=.tail _ (s3 hh)
private theorem s5 {α:Type} {a b c d e f:α} {t:List α} (hh:a∈t):a∈b::c::d::e::f::t:=.tail _ (s4 hh)
private theorem s6 {α:Type} {a b c d e f g:α} {t:List α} (hh:a∈t):a∈b::c::d::e::f::g::t:=.tail _ (s5 hh)
private theorem s7 {α:Type} {a b c d e f g h:α} {t:List α} (hh:a∈t):a∈b::c::d::e::f::g::h::t:=.tail _ (s6 hh)
private theorem s8 {α:Type} {a b c d e f g h i:α} {t:List α} (hh:a∈t):a∈b::c::d::e::f::g::h::i::t:=.tail _ (s7 hh)
private theorem s9 {α:Type} {a b c d e f g h i j:α} {t:List α} (hh:a∈t):a∈b::c::d::e::f::g::h::i::j::t:=.tail _ (s8 hh)
private theorem s10 {α:Type} {a b c d e f g h i j k:α} {t:List α} (hh:a∈t):a∈b::c::d::e::f::g::h::i::j::k::t:=.tail _ (s9 hh)
private theorem s11 {α:Type} {a b c d e f g h i j k l:α} {t:List α} (hh:a∈t):a∈b::c::d::e::f::g::h::i::j::k::l::t:=.tail _ (s10 hh)
private theorem all_nil {m:PySem.Str→Option Value}:∀ p∈([]:List (PySem.Str × Value)),m p.1=some p.2:=List.forall_mem_nil _
@[reducible] noncomputable def ml (l:List (PySem.Str × Value)):PySem.Str→Option Value:=fun y=>List.lookup y l
private theorem off_1 {D a0:Addr} {o0:Obj} {l:List (Addr × Obj)} {C:Prop} (h:LCg.Off1 D ((a0,o0)::l)) (k:Apart a0 D→LCg.Off1 D l→C):C:=k h.1 h.2
private theorem off_2 {D a0 a1:Addr} {o0 o1:Obj} {l:List (Addr × Obj)} {C:Prop} (h:LCg.Off1 D ((a0,o0)::(a1,o1)::l)) (k:Apart a0 D→Apart a1 D→LCg.Off1 D l→C):C:=off_1 h.2 (k h.1)
private theorem off_3 {D a0 a1 a2:Addr} {o0 o1 o2:Obj} {l:List (Addr × Obj)} {C:Prop} (h:LCg.Off1 D ((a0,o0)::(a1,o1)::(a2,o2)::l)) (k:Apart a0 D→Apart a1 D→Apart a2 D→LCg.Off1 D l→C):C:=off_2 h.2 (k h.1)
private theorem off_4 {D a0 a1 a2 a3:Addr} {o0 o1 o2 o3:Obj} {l:List (Addr × Obj)} {C:Prop} (h:LCg.Off1 D ((a0,o0)::(a1,o1)::(a2,o2)::(a3,o3)::l)) (k:Apart a0 D→Apart a1 D→Apart a2 D→Apart a3 D→LCg.Off1 D l→C):C:=off_3 h.2 (k h.1)
private theorem off_5 {D a0 a1 a2 a3 a4:Addr} {o0 o1 o2 o3 o4:Obj} {l:List (Addr × Obj)} {C:Prop} (h:LCg.Off1 D ((a0,o0)::(a1,o1)::(a2,o2)::(a3,o3)::(a4,o4)::l)) (k:Apart a0 D→Apart a1 D→Apart a2 D→Apart a3 D→Apart a4 D→LCg.Off1 D l→C):C:=off_4 h.2 (k h.1)
private theorem off_6 {D a0 a1 a2 a3 a4 a5:Addr} {o0 o1 o2 o3 o4 o5:Obj} {l:List (Addr × Obj)} {C:Prop} (h:LCg.Off1 D ((a0,o0)::(a1,o1)::(a2,o2)::(a3,o3)::(a4,o4)::(a5,o5)::l)) (k:Apart a0 D→Apart a1 D→Apart a2 D→Apart a3 D→Apart a4 D→Apart a5 D→LCg.Off1 D l→C):C:=off_5 h.2 (k h.1)
private theorem off_7 {D a0 a1 a2 a3 a4 a5 a6:Addr} {o0 o1 o2 o3 o4 o5 o6:Obj} {l:List (Addr × Obj)} {C:Prop} (h:LCg.Off1 D ((a0,o0)::(a1,o1)::(a2,o2)::(a3,o3)::(a4,o4)::(a5,o5)::(a6,o6)::l)) (k:Apart a0 D→Apart a1 D→Apart a2 D→Apart a3 D→Apart a4 D→Apart a5 D→Apart a6 D→LCg.Off1 D l→C):C:=off_6 h.2 (k h.1)
private theorem off_8 {D a0 a1 a2 a3 a4 a5 a6 a7:Addr} {o0 o1 o2 o3 o4 o5 o6 o7:Obj} {l:List (Addr × Obj)} {C:Prop} (h:LCg.Off1 D ((a0,o0)::(a1,o1)::(a2,o2)::(a3,o3)::(a4,o4)::(a5,o5)::(a6,o6)::(a7,o7)::l)) (k:Apart a0 D→Apart a1 D→Apart a2 D→Apart a3 D→Apart a4 D→Apart a5 D→Apart a6 D→Apart a7 D→LCg.Off1 D l→C):C:=off_7 h.2 (k h.1)
private theorem off_9 {D a0 a1 a2 a3 a4 a5 a6 a7 a8:Addr} {o0 o1 o2 o3 o4 o5 o6 o7 o8:Obj} {l:List (Addr × Obj)} {C:Prop} (h:LCg.Off1 D ((a0,o0)::(a1,o1)::(a2,o2)::(a3,o3)::(a4,o4)::(a5,o5)::(a6,o6)::(a7,o7)::(a8,o8)::l)) (k:Apart a0 D→Apart a1 D→Apart a2 D→Apart a3 D→Apart a4 D→Apart a5 D→Apart a6 D→Apart a7 D→Apart a8 D→LCg.Off1 D l→C):C:=off_8 h.2 (k h.1)
private theorem off_10 {D a0 a1 a2 a3 a4 a5 a6 a7 a8 a9:Addr} {o0 o1 o2 o3 o4 o5 o6 o7 o8 o9:Obj} {l:List (Addr × Obj)} {C:Prop} (h:LCg.Off1 D ((a0,o0)::(a1,o1)::(a2,o2)::(a3,o3)::(a4,o4)::(a5,o5)::(a6,o6)::(a7,o7)::(a8,o8)::(a9,o9)::l)) (k:Apart a0 D→Apart a1 D→Apart a2 D→Apart a3 D→Apart a4 D→Apart a5 D→Apart a6 D→Apart a7 D→Apart a8 D→Apart a9 D→LCg.Off1 D l→C):C:=off_9 h.2 (k h.1)
private theorem news_addN {h₀ h h':Heap} {L r:Addr} {m:Str→Option Value} {news:List (Addr × Obj)} {o:Obj} (F:Fr h₀ L h m) (N:News h₀ L h news) (e:Ext h h') (hr:h'.get? r=some o) (hn:h.get? r=none) :
  News h₀ L h' ((r,o)::news):=by
 intro p hp
 rcases List.mem_cons.mp hp with rfl|hp
 ·refine ⟨hr,fun q=>?_,?_⟩
  ·have q':r=L:=q
   subst q'
   obtain ⟨oL,_,_,x,_⟩:=F.ns
   rw [hn] at x;cases x
  ·cases q:h₀.get? r with
   | none=>rfl
   | some o'=>
    have:=F.keep _ _ q
    have z:h.get? r=none:=hn
    rw [z] at this;cases this
 ·exact ⟨e _ _ (N p hp).1,(N p hp).2⟩
private theorem news_off {h₀ h:Heap} {L r:Addr} {news:List (Addr × Obj)} (N:News h₀ L h news) (hn:h.get? r=none):LCg.Off1 r news:=
 off1_of fun p hp q=>by
  have:=(N p hp).1
  rw [q,hn] at this;cases this
section
variable {prog:Program} {w:World} {A:Around} {s:Shared} {K:Frag} {p:Program} {loose:List Str} {mean:ExcName→Option Value} {mg mb:Str→Option Value} {R:Result→Shared→Prop}
private theorem pure_def {name qual:Str} {params:Arguments} {body:List Stmt} {scope:Scope} {dV kV doc pm cdv ct oc:Value} {an od:Option Addr} {osl:Array (Option Value)} {f:Addr} {args:Args} {binds:List (Str × Value)}
  (X:K.In s.heap) (T:Top p loose mean mg mb s.heap)
  (ho:K.lookup f=some ⟨oc,od,.func (fnOf name qual params body scope dV kV doc pm an cdv ct),osl⟩) (hcd:codeIn K cdv qual=true) (hroom:A.depth<recursionLimit)
  (hbind:BindsTo s (fnOf name qual params body scope dV kV doc pm an cdv ct) args binds) (hloc:∀ y∈binds,scope.names.lookup y.1=some .local)
  (h:∀ L' h₁,Fr s.heap L' h₁ (fun y=>binds.reverse.lookup y)→News s.heap L' h₁ [] →
   wpAny (model prog w) (A.deeper (envOf qual scope L' f cdv)) (execs body (envOf qual scope L' f cdv))
    (fun fl s'=>R (.ok (.ret (match fl with | .ret v=>v|_=>.none))) s') (fun _ _=>False)
    { s with heap:=h₁,toks:=s.toks+binds.length })
  (hco:scope.isCoroutine=false) (hgen:scope.isGenerator=false) (hk:scope.kind = .function)
  (hcell:∀ x∈scope.names,x.2≠.cell):codeAny (model prog w) A (.call (.ref f) args) R s:=by
 refine codeAny_call_def (fd:=fnOf name qual params body scope dV kV doc pm an cdv ct) (body:=body) (binds:=binds) hroom (X _ _ ho) rfl T.nolimit (codeRec_of X hcd) rfl hbind hcell hloc (fun h₁ hns hk₁=>?_) hco hgen hk
 exact wpAny_mono (h s.heap.objs.size h₁ ⟨hns,hk₁,Nat.le_refl _⟩ News.nil) (fun _ _ x=>x) fun _ _ x=>x.elim
private theorem pure_defL {name qual:Str} {params:Arguments} {body:List Stmt} {scope:Scope} {dV kV doc pm cdv ct oc:Value} {an od:Option Addr} {osl:Array (Option Value)} {f:Addr} {args:Args} {binds:List (Str × Value)}
  (X:K.In s.heap) (T:Top p loose mean mg mb s.heap)
  (ho:K.lookup f=some ⟨oc,od,.func (fnOf name qual params body scope dV kV doc pm an cdv ct),osl⟩) (hcd:codeIn K cdv qual=true) (hroom:A.depth<recursionLimit)
  (hbind:BindsTo s (fnOf name qual params body scope dV kV doc pm an cdv ct) args binds) (hloc:∀ y∈binds,scope.names.lookup y.1=some .local)
  (h:∀ tk₀ L' h₁,let env:=envX qual scope L' f cdv [];let B:=A.deeper env;Fr s.heap L' h₁ (fun y=>binds.reverse.lookup y)→News s.heap L' h₁ [] →
   wpAny (model prog w) B (execs body env)
    (fun fl s'=>R (.ok (.ret (match fl with | .ret v=>v|_=>.none))) s') (fun _ _=>False)
    { heap:=h₁,gens:=s.gens,drawn:=s.drawn,toks:=tk₀,os:=s.os })
  (hco:scope.isCoroutine=false) (hgen:scope.isGenerator=false) (hk:scope.kind = .function)
  (hcell:∀ x∈scope.names,x.2≠.cell):codeAny (model prog w) A (.call (.ref f) args) R s:=pure_def X T ho hcd hroom hbind hloc (fun L' h₁ F N=>h _ L' h₁ F N) hco hgen hk hcell

private theorem pure_defC {name qual:Str} {params:Arguments} {body:List Stmt} {scope:Scope} {dV kV doc pm cdv ct oc:Value} {an od:Option Addr} {osl:Array (Option Value)} {f:Addr} {args:Args} {binds:List (Str × Value)}
  (X:K.In s.heap) (T:Top p loose mean mg mb s.heap)
  (ho:K.lookup f=some ⟨oc,od,.func (fnOf name qual params body scope dV kV doc pm an cdv ct),osl⟩) (hcd:codeIn K cdv qual=true) (hroom:A.depth<recursionLimit)
  (hbind:BindsTo s (fnOf name qual params body scope dV kV doc pm an cdv ct) args binds) (hkind:(binds.all fun y=>scope.names.lookup y.1 == some .local || scope.names.lookup y.1 == some .cell)=true)
  (hnd:((cellsFrom 0 scope.names []).map (·.1)).Nodup)
  (h:∀ L' h₁ tk cells,Fr s.heap L' h₁ (bindL (envOfC qual scope L' f cdv).kindOf binds fun _=>none)→News s.heap L' h₁ cells →
   CellsAre (bindC (envOfC qual scope L' f cdv).kindOf binds fun _=>none) (cellsFrom (L'+1) scope.names []) cells →
   wpAny (model prog w) (A.deeper (envOfC qual scope L' f cdv)) (execs body (envOfC qual scope L' f cdv))
    (fun fl s'=>R (.ok (.ret (match fl with | .ret v=>v|_=>.none))) s') (fun _ _=>False)
    { s with heap:=h₁,toks:=tk })
  (hco:scope.isCoroutine=false) (hgen:scope.isGenerator=false) (hk:scope.kind = .function):codeAny (model prog w) A (.call (.ref f) args) R s:=by
 refine codeAny_call_function hroom (X _ _ ho) rfl hco hgen rfl (codeRec_of X hcd) (hbind _ _ _ _ ?_)
 refine wpAny_newFunctionEnv_cells hk (kindsX hkind _) fun env' he s' x=>?_
 subst he
 refine ⟨T.nolimit.keeps x.toInCall.keep,codeAny_func ?_⟩
 obtain ⟨h₁,tk,rfl,_⟩:=x.done
 have keep:=x.toInCall.keep
 obtain ⟨cells,NC,Y⟩:=Cl.news (h₀:=s.heap) (Nat.le_refl _) fun n c hm=>⟨x.cell n c (lookup_of_mem_nodup (cellsFrom_names scope.names 0 (s.heap.objs.size+1) [] [] rfl▸hnd) hm),x.above n c hm⟩
 exact wpAny_mono (h s.heap.objs.size h₁ tk cells ⟨x.toInCall.ns,keep,Nat.le_refl _⟩ NC Y) (fun _ _ x=>x) fun _ _ x=>x.elim
private theorem pure_defCL {name qual:Str} {params:Arguments} {body:List Stmt} {scope:Scope} {dV kV doc pm cdv ct oc:Value} {an od:Option Addr} {osl:Array (Option Value)} {f:Addr} {args:Args} {binds:List (Str × Value)}
  (X:K.In s.heap) (T:Top p loose mean mg mb s.heap)
  (ho:K.lookup f=some ⟨oc,od,.func (fnOf name qual params body scope dV kV doc pm an cdv ct),osl⟩) (hcd:codeIn K cdv qual=true) (hroom:A.depth<recursionLimit)
  (hbind:BindsTo s (fnOf name qual params body scope dV kV doc pm an cdv ct) args binds) (hkind:(binds.all fun y=>scope.names.lookup y.1 == some .local || scope.names.lookup y.1 == some .cell)=true)
  (hnd:((cellsFrom 0 scope.names []).map (·.1)).Nodup)
  (h:∀ L' h₁ tk cells,let B:=A.deeper (envOfC qual scope L' f cdv);Fr s.heap L' h₁ (bindL (envOfC qual scope L' f cdv).kindOf binds fun _=>none)→News s.heap L' h₁ cells →
   CellsAre (bindC (envOfC qual scope L' f cdv).kindOf binds fun _=>none) (cellsFrom (L'+1) scope.names []) cells →
   wpAny (model prog w) B (execs body (envOfC qual scope L' f cdv))
    (fun fl s'=>R (.ok (.ret (match fl with | .ret v=>v|_=>.none))) s') (fun _ _=>False)
    { s with heap:=h₁,toks:=tk })
  (hco:scope.isCoroutine=false) (hgen:scope.isGenerator=false) (hk:scope.kind = .function):codeAny (model prog w) A (.call (.ref f) args) R s:=pure_defC X T ho hcd hroom hbind hkind hnd h hco hgen hk

end

section
variable {prog:Program} {w:World} {A:Around} {s:Shared} {K:Frag} {p:Program} {loose:List Str} {mean:ExcName→Option Value} {mg mb:Str→Option Value} {R:Result→Shared→Prop}
private theorem mut_def {name qual:Str} {params:Arguments} {body:List Stmt} {scope:Scope} {dV kV doc pm cdv ct oc:Value} {an od:Option Addr} {osl:Array (Option Value)} {f:Addr} {args:Args} {binds:List (Str × Value)}
  (hide:List Addr) (led:List (Addr × Obj)) (hl:∀ q∈led,s.heap.get? q.1=some q.2∧q.1∈hide)
  (X:K.In (hideAll s.heap hide)) (T:Top p loose mean mg mb (hideAll s.heap hide))
  (ho:K.lookup f=some ⟨oc,od,.func (fnOf name qual params body scope dV kV doc pm an cdv ct),osl⟩) (hcd:codeIn K cdv qual=true) (hroom:A.depth<recursionLimit)
  (hbind:BindsTo s (fnOf name qual params body scope dV kV doc pm an cdv ct) args binds) (hloc:∀ y∈binds,scope.names.lookup y.1=some .local)
  (h:∀ L' h₁,Fr (hideAll s.heap hide) L' h₁ (fun y=>binds.reverse.lookup y)→News (hideAll s.heap hide) L' h₁ led →
   wpAny (model prog w) (A.deeper (envOf qual scope L' f cdv)) (execs body (envOf qual scope L' f cdv))
    (fun fl s'=>R (.ok (.ret (match fl with | .ret v=>v|_=>.none))) s') (fun _ _=>False)
    { s with heap:=h₁,toks:=s.toks+binds.length })
  (hco:scope.isCoroutine=false) (hgen:scope.isGenerator=false) (hk:scope.kind = .function)
  (hcell:∀ x∈scope.names,x.2≠.cell):codeAny (model prog w) A (.call (.ref f) args) R s:=by
 have up:∀ b o,(hideAll s.heap hide).get? b=some o→s.heap.get? b=some o:=fun b o e=>of_hideAll _ e
 refine codeAny_call_def (fd:=fnOf name qual params body scope dV kV doc pm an cdv ct) (body:=body) (binds:=binds) hroom (up _ _ (X _ _ ho)) rfl (T.nolimit.keeps up) (codeRec_of (X.keeps up) hcd) rfl hbind hcell hloc (fun h₁ hns hk₁=>?_) hco hgen hk
 refine wpAny_mono (h s.heap.objs.size h₁ ⟨hns,fun b o e=>hk₁ b o (up b o e),Nat.le_of_eq (hideAll_size _ _)⟩ (fun q hq=>⟨hk₁ _ _ (hl q hq).1,Nat.ne_of_lt (Heap.lt_size (hl q hq).1),hideAll_none _ (hl q hq).2⟩)) (fun _ _ x=>x) fun _ _ x=>x.elim
private theorem mut_defL {name qual:Str} {params:Arguments} {body:List Stmt} {scope:Scope} {dV kV doc pm cdv ct oc:Value} {an od:Option Addr} {osl:Array (Option Value)} {f:Addr} {args:Args} {binds:List (Str × Value)}
  (hide:List Addr) (led:List (Addr × Obj)) (hl:∀ q∈led,s.heap.get? q.1=some q.2∧q.1∈hide)
  (X:K.In (hideAll s.heap hide)) (T:Top p loose mean mg mb (hideAll s.heap hide))
  (ho:K.lookup f=some ⟨oc,od,.func (fnOf name qual params body scope dV kV doc pm an cdv ct),osl⟩) (hcd:codeIn K cdv qual=true) (hroom:A.depth<recursionLimit)
  (hbind:BindsTo s (fnOf name qual params body scope dV kV doc pm an cdv ct) args binds) (hloc:∀ y∈binds,scope.names.lookup y.1=some .local)
  (h:∀ tk₀ L' h₁,let env:=envX qual scope L' f cdv [];let B:=A.deeper env;Fr (hideAll s.heap hide) L' h₁ (fun y=>binds.reverse.lookup y)→News (hideAll s.heap hide) L' h₁ led →
   wpAny (model prog w) B (execs body env)
    (fun fl s'=>R (.ok (.ret (match fl with | .ret v=>v|_=>.none))) s') (fun _ _=>False)
    { heap:=h₁,gens:=s.gens,drawn:=s.drawn,toks:=tk₀,os:=s.os })
  (hco:scope.isCoroutine=false) (hgen:scope.isGenerator=false) (hk:scope.kind = .function)
  (hcell:∀ x∈scope.names,x.2≠.cell):codeAny (model prog w) A (.call (.ref f) args) R s:=mut_def hide led hl X T ho hcd hroom hbind hloc (fun L' h₁ F N=>h _ L' h₁ F N) hco hgen hk hcell

end
section
variable {prog:Program} {w:World} {A:Around} {s:Shared} {K:Frag} {p:Program} {loose:List Str} {mean:ExcName→Option Value} {mg mb:Str→Option Value} {R:Result→Shared→Prop}

end
noncomputable abbrev ButExt (l:List Addr) (h h':Heap):Prop:=∀ b o,b ∉ l→h.get? b=some o→h'.get? b=some o
private theorem but_of {h h':Heap} {L:Addr} {m:Str→Option Value} {hide:List Addr} (F:Fr (hideAll h hide) L h' m):ButExt hide h h':=fun b o hb e=>F.keep b o (hideAll_get _ e hb)
private theorem fresh_of {h h':Heap} {L r:Addr} {o:Obj} {hide:List Addr} {news:List (Addr × Obj)} (N:News (hideAll h hide) L h' news) (hm:(r,o)∈news) (hr:r ∉ hide):h.get? r=none:=by
 cases q:h.get? r with
 | none=>rfl
 | some o'=>
  have:=(N _ hm).2.2
  rw [hideAll_get _ q hr] at this;cases this
private theorem upd_heap {h₀ h:Heap} {L x:Addr} {m:Str→Option Value} {news news':List (Addr × Obj)} {o o':Obj} {f:Obj→Obj} (F:Fr h₀ L h m) (N:News h₀ L h news) (U:Upd x o o' news news') (hf:f o=o') (hfree:o'.isFreed=false) :
  Fr h₀ L (h.update x f) m∧News h₀ L (h.update x f) news':=by
 obtain ⟨pre,post,rfl,rfl,a,b⟩:=U.split
 have hx:=N (x,o) (List.mem_append_right _ (.head _))
 have hs:Heap.SameBut x h (h.update x f):=Heap.SameBut.update ..
 have hg:(h.update x f).get? x=some o':=by
  have:(h.update x f).get? x=some (f o):=by first|exact Heap.get?_update_self f hx.1 (by rw [hf];exact hfree)|exact Heap.get?_update_self _ hx.1 (by rw [hf];exact hfree)
  rw [this,hf]
 refine ⟨F.change hs hx.2.1 hx.2.2,fun p hp=>?_⟩
 rcases List.mem_append.mp hp with hp|hp
 ·have q:=N p (List.mem_append_left _ hp)
  exact ⟨(hs.2 _ (a p hp)).trans q.1,q.2⟩
 ·rcases List.mem_cons.mp hp with rfl|hp
  ·exact ⟨hg,hx.2⟩
  ·have q:=N p (List.mem_append_right _ (.tail _ hp))
   exact ⟨(hs.2 _ (b p hp)).trans q.1,q.2⟩
private theorem upd_mem {x:Addr} {o o':Obj} {news news':List (Addr × Obj)} (U:Upd x o o' news news'):(x,o)∈news:=by
 obtain ⟨pre,post,rfl,rfl,a,b⟩:=U.split
 exact List.mem_append_right _ (.head _)
noncomputable def IntIs (x:UInt64) (n:Int):Prop:=∃ sg m e,Float64.decode x = .fin sg m e∧Float64.truncOf sg m e=n
noncomputable def fdivI (a b:Int):UInt64:=Float64.ofFrac (decide (a<0) != decide (b<0)) a.natAbs b.natAbs
private theorem fdivI_noInf {a b:Int} (ha:a.natAbs≤1048576) (hb:0<b):¬ Float64.isInf (Float64.ofFrac (decide (a<0) != decide (b<0)) a.natAbs b.natAbs)=true:=by
 have hb':0<b.natAbs:=by lia -abstractProof
 rw [notInf_ofFrac (sg:=(decide (a<0) != decide (b<0))) hb' ?_]
 ·simp
 ·have h1:a.natAbs*2 ^ 1074≤1048576*2 ^ 1074:=Nat.mul_le_mul_right _ ha
  have h2:1*((2 ^ 54-1)*2 ^ 2045)≤b.natAbs*((2 ^ 54-1)*2 ^ 2045):=Nat.mul_le_mul_right _ hb'
  have h3:2*(1048576*2 ^ 1074)<1*((2 ^ 54-1)*2 ^ 2045):=by decide +kernel
  exact Nat.lt_of_le_of_lt (Nat.mul_le_mul_left 2 h1) (Nat.lt_of_lt_of_le h3 h2)
section
variable {prog:Program} {w:World} {A:Around} {E:Value→Shared→Prop} {s:Shared} {Q:Value→Shared→Prop}
private theorem div_ii_small {a b:Int} {t u:Tok} (ha:a.natAbs≤1048576) (hb:0<b) (h:Q (.float (fdivI a b) s.toks) { s with toks:=s.toks+1 }):wpAny (model prog w) A (binaryOp .Div (.int a t) (.int b u)) Q E s:=
 AutoIntOps.truediv_2 (by simp;lia -abstractProof) (fdivI_noInf ha hb) h
private theorem int_is {x:UInt64} {u:Tok} {n:Int} (hi:IntIs x n) (h:Q (.int n s.toks) { s with toks:=s.toks+1 }):wpAny (model prog w) A (call (.type "int") [.float x u]) Q E s:=by
 obtain ⟨sg,m,e,hd,rfl⟩:=hi
 exact call_int_float hd h
private theorem item_at {value slice:PySem.Expr} {l:Addr} {vs:List Value} {k:Int} {u:Tok} {v:Value} (hl:s.heap.IsList l vs.toArray) (h0:0≤k) (hhi:k<2 ^ 63) (hx:vs[k.toNat]?=some v) (h:Q v s)
  (hs:subscripted slice false (.ref l) (.int k u)=operate [.ref l,.int k u] (getItem (.ref l) (.int k u))):wpAny (model prog w) A (subscriptTail value slice (.ref l) (.int k u)) Q E s:=
 tail_any hl.typeIs slot_list_getitem.lookup (wpAny_getItem_list hl h0 hhi (by simpa using hx) h) hs
end
noncomputable def Ret {α:Type} (K:α→Shared→Prop) (v:α) (s:Shared):Prop:=K v s
private theorem execs_ret {M:PySem.Model} {A:Around} {st:Stmt} {rest:List Stmt} {env:Env} {Q:Flow→Shared→Prop} {E:Value→Shared→Prop} {s:Shared}
  (h:∀ K:Flow→Shared→Prop,(∀ f s',(match f with | .next=>wpAny M A (execs rest env) Q E s'|f=>Q f s')→K f s')→wpAny M A (exec st env) (Ret K) E s):wpAny M A (execs (st::rest) env) Q E s:=
 wpAny_execs_cons (h _ fun _ _ h=>h)
private theorem execs_retA {M:PySem.Model} {A:Around} {ts:List PySem.Expr} {v:PySem.Expr} {p:Pos} {rest:List Stmt} {env:Env} {Q:Flow→Shared→Prop} {E:Value→Shared→Prop} {s:Shared}
  (h:∀ K:Flow→Shared→Prop,(∀ s',wpAny M A (execs rest env) Q E s'→K .next s')→wpAny M A (exec (.Assign ts v p) env) (Ret K) E s):wpAny M A (execs (.Assign ts v p::rest) env) Q E s:=
 execs_ret fun K hK=>h K fun s' g=>hK .next s' g
private theorem execs_retE {M:PySem.Model} {A:Around} {v:PySem.Expr} {p:Pos} {rest:List Stmt} {env:Env} {Q:Flow→Shared→Prop} {E:Value→Shared→Prop} {s:Shared}
  (h:∀ K:Flow→Shared→Prop,(∀ s',wpAny M A (execs rest env) Q E s'→K .next s')→wpAny M A (exec (.Expr v p) env) (Ret K) E s):wpAny M A (execs (.Expr v p::rest) env) Q E s:=
 execs_ret fun K hK=>h K fun s' g=>hK .next s' g
private theorem execs_retL {M:PySem.Model} {A:Around} {st:Stmt} {env:Env} {K:Flow→Shared→Prop} {E:Value→Shared→Prop} {s:Shared}
  (h:wpAny M A (exec st env) (Ret K) E s):wpAny M A (execs (st::[]) env) (Ret K) E s:=
 wpAny_execs_cons (wpAny_mono h (fun f s' hh=>by cases f with|next=>exact wpAny_execs_nil hh|_=>exact hh) (fun _ _ e=>e))
private theorem execs_retF {M:PySem.Model} {A:Around} {st:Stmt} {rest:List Stmt} {env:Env} {Q:Flow→Shared→Prop} {E:Value→Shared→Prop} {s:Shared}
  (h:∀ K:Flow→Shared→Prop,(∀ s',wpAny M A (execs rest env) Q E s'→K .next s')→(∀ v s',Q (.ret v) s'→K (.ret v) s')→wpAny M A (exec st env) (Ret K) E s):wpAny M A (execs (st::rest) env) Q E s:=
 execs_ret fun K hK=>h K (fun s' g=>hK .next s' g) fun v s' g=>hK (.ret v) s' g
private theorem execs_retR {M:PySem.Model} {A:Around} {v:Option PySem.Expr} {p:Pos} {rest:List Stmt} {env:Env} {Q:Flow→Shared→Prop} {E:Value→Shared→Prop} {s:Shared}
  (h:∀ K:Flow→Shared→Prop,(∀ v s',Q (.ret v) s'→K (.ret v) s')→wpAny M A (exec (.Return v p) env) (Ret K) E s):wpAny M A (execs (.Return v p::rest) env) Q E s:=
 wpAny_execs_cons (by
  have:=h (fun f s'=>match f with | .next=>wpAny M A (execs rest env) Q E s'|f=>Q f s') fun v s' g=>g
  exact this)
@[reducible] noncomputable def mi (x:PySem.Str) (v:Value) (m:PySem.Str→Option Value):PySem.Str→Option Value:=fun y=>if y=x then some v else m y
private theorem storeX_LI {prog:Program} {w:World} {A:Around} {E:Value→Shared→Prop} {h:Heap} {g:Array GenState} {d:Drawn} {tk:Nat} {o:OsState} {h₀:Heap} {L a:Addr} {m:PySem.Str→Option Value} {cn:PySem.Str} {cs:Scope} {ccd:Value} {cl:List (PySem.Str × Addr)} {x:PySem.Str} {v:Value} {news:List (Addr × Obj)} {Q:Unit→Shared→Prop}
  (F:Fr h₀ L h m) (N:News h₀ L h news)
  (H:∀ h',let m':=mi x v m;Fr h₀ L h' m'→News h₀ L h' news→Q () { heap:=h',gens:=g,drawn:=d,toks:=tk+1,os:=o })
  (hk:cs.kind = .function) (hx:(envX cn cs L a ccd cl).kindOf x=some .local):wpAny (model prog w) A (storeName (envX cn cs L a ccd cl) x v) Q E { heap:=h,gens:=g,drawn:=d,toks:=tk,os:=o }:=
 storeX_L F N (fun h'=>H h') hk hx
private theorem Fr.lets {P:Prop} {h₀:Heap} {L:Addr} {h:Heap} {m:PySem.Str→Option Value} (F:Fr h₀ L h m) (k:let m':=m;Fr h₀ L h m'→P):P:=k F
private theorem wpAny_eqm {α:Type} {M:PySem.Model} {A:Around} {a b:Sem α} {Q:α→Shared→Prop} {E:Value→Shared→Prop} {s:Shared} (h:a=b) (k:wpAny M A b Q E s):wpAny M A a Q E s:=h▸k
private theorem wi_pos {α:Type} {M:PySem.Model} {A:Around} {c:Prop} [Decidable c] {a b:Sem α} {Q:α→Shared→Prop} {E:Value→Shared→Prop} {s:Shared} (h:c) (k:wpAny M A a Q E s):wpAny M A (if c then a else b) Q E s:=by rw [if_pos h];exact k
private theorem wi_neg {α:Type} {M:PySem.Model} {A:Around} {c:Prop} [Decidable c] {a b:Sem α} {Q:α→Shared→Prop} {E:Value→Shared→Prop} {s:Shared} (h:¬c) (k:wpAny M A b Q E s):wpAny M A (if c then a else b) Q E s:=by rw [if_neg h];exact k
private theorem rm0 {n a l:Nat} (h:n+a<l):n<l:=Nat.lt_of_le_of_lt (Nat.le_add_right n a) h
private theorem rm1 {n a b l:Nat} (h:n+a<l) (e:Nat.ble b a=true):n+b<l:=Nat.lt_of_le_of_lt (Nat.add_le_add_left (Nat.le_of_ble_eq_true e) n) h
private theorem rm2 {n a b c l:Nat} (h:n+a<l) (e:Nat.ble (b+c) a=true):n+b+c<l:=by rw [Nat.add_assoc];exact rm1 h e
noncomputable def Same (S:List PySem.Str) (m m₀:PySem.Str→Option Value):Prop:=∀ z,S.contains z=false→m z=m₀ z
private theorem Same.refl {S:List PySem.Str} {m:PySem.Str→Option Value}:Same S m m:=fun _ _=>rfl
private theorem Same.ins {S:List PySem.Str} {x:PySem.Str} {v:Value} {m m₀:PySem.Str→Option Value} (hx:S.contains x=true) (h:Same S m m₀):Same S (mi x v m) m₀:=fun z hz=>by
 show (if z=x then some v else m z)=m₀ z
 by_cases e:z=x
 ·rw [e,hx] at hz;cases hz
 ·rw [if_neg e];exact h z hz
private theorem Same.goal {S:List PySem.Str} {m m₀:PySem.Str→Option Value} {ps:List (PySem.Str × Value)} (h:Same S m m₀):∀ z,(∀ p∈ps,z≠p.1)→S.contains z=false→m z=m₀ z:=fun z _ hz=>h z hz
end Mine
end
section
open PySem PySem.W PyProof.Rows PySem.Flt PySem.Calls
namespace Mine
noncomputable def evB (op:Operator) (a b:Int) (tk:Nat):Option (Value × Nat):=match op with
 | .Add=>some (.int (a+b) tk,tk+1)
 | .Sub=>some (.int (a-b) tk,tk+1)
 | _=>none
noncomputable def evF (op:Operator) (a b:UInt64) (tk:Nat):Option (Value × Nat):=match op with
 | .Add=>some (.float (Float64.add a b) tk,tk+1)
 | .Sub=>some (.float (Float64.sub a b) tk,tk+1)
 | .Mult=>some (.float (Float64.mul a b) tk,tk+1)
 | _=>none
noncomputable def evC (c:Const) (tk:Nat):Option (Value × Nat):=match c with
 | .int i=>some (.int i tk,tk+1)
 | .str x=>some (.str x tk,tk+1)
 | .float x=>some (.float x tk,tk+1)
 | .none=>some (.none,tk)
 | _=>none
noncomputable def onI (o:Option (Value × Nat)) (f:Int→Nat→Option (Value × Nat)):Option (Value × Nat):=match o with
 | some (.int a _,t)=>f a t
 | _=>none
noncomputable def onF (o:Option (Value × Nat)) (f:UInt64→Nat→Option (Value × Nat)):Option (Value × Nat):=match o with
 | some (.float a _,t)=>f a t
 | _=>none
noncomputable def onN (o:Option (Value × Nat)) (f:Int→Nat→Option (Value × Nat)) (g:UInt64→Nat→Option (Value × Nat)):Option (Value × Nat):=match o with
 | some (.int a _,t)=>f a t
 | some (.float a _,t)=>g a t
 | _=>none
noncomputable def nameOk (cs:Scope) (x:PySem.Str):Bool:=(match cs.kind with | .function=>true|_=>false) && ((match cs.names.lookup x with|some .local=>true|_=>false) && !(x == ("__debug__" : PySem.Str)))
noncomputable def evS (cs:Scope) (m:PySem.Str→Option Value) (ih:PySem.Expr→Nat→Option (Value × Nat)) (e:PySem.Expr) (tk:Nat):Option (Value × Nat):=match e with
 | .Name x _=>cond (nameOk cs x) ((m x).map fun v=>(v,tk)) none
 | .Constant c _ _=>evC c tk
 | .BinOp l op r _=>onN (ih l tk) (fun a t=>onI (ih r t) fun b t2=>evB op a b t2) (fun a t=>onF (ih r t) fun b t2=>evF op a b t2)
 | .UnaryOp op l _=>(match op with | .USub=>onI (ih l tk) fun a t=>some (.int (-a) t,t+1)|_=>none)
 | _=>none
noncomputable def ev (cs:Scope) (m:PySem.Str→Option Value) (n:Nat):PySem.Expr→Nat→Option (Value × Nat):=Nat.rec (fun _ _=>none) (fun _ ih=>evS cs m ih) n
private theorem someE {α:Type} {x y:α} {P:α→Prop} (h:some x=some y) (H:P y):P x:=Option.some.inj h▸H
private theorem onI_inv {o:Option (Value × Nat)} {f:Int→Nat→Option (Value × Nat)} {r:Value × Nat} (h:onI o f=some r):∃ a u t,o=some (.int a u,t)∧f a t=some r:=by
 cases o with
 | none=>exact noneE h
 | some p=>cases p with|mk v t=>cases v<;>first|exact noneE h|exact ⟨_,_,_,rfl,h⟩
private theorem onF_inv {o:Option (Value × Nat)} {f:UInt64→Nat→Option (Value × Nat)} {r:Value × Nat} (h:onF o f=some r):∃ a u t,o=some (.float a u,t)∧f a t=some r:=by
 cases o with
 | none=>exact noneE h
 | some p=>cases p with|mk v t=>cases v<;>first|exact noneE h|exact ⟨_,_,_,rfl,h⟩
private theorem onN_inv {o:Option (Value × Nat)} {f:Int→Nat→Option (Value × Nat)} {g:UInt64→Nat→Option (Value × Nat)} {r:Value × Nat} (h:onN o f g=some r):onI o f=some r∨onF o g=some r:=by
 cases o with
 | none=>exact noneE h
 | some p=>cases p with|mk v t=>cases v<;>first|exact noneE h|exact .inl h|exact .inr h
private theorem nameOk_inv {cs:Scope} {x:PySem.Str} (h:nameOk cs x=true):cs.kind = .function∧cs.names.lookup x=some .local∧(x == ("__debug__" : PySem.Str))=false:=by
 unfold nameOk at h
 rw [Bool.and_eq_true,Bool.and_eq_true,Bool.not_eq_true'] at h
 obtain ⟨h1,h2,h3⟩:=h
 refine ⟨?_,?_,h3⟩
 ·cases h4:cs.kind<;>first|rfl|(rw [h4] at h1;exact Bool.noConfusion h1)
 ·cases h4:cs.names.lookup x with
  | none=>rw [h4] at h2;exact Bool.noConfusion h2
  | some k=>cases k<;>first|rfl|(rw [h4] at h2;exact Bool.noConfusion h2)
noncomputable def evQ {V:Type} (Q:V→Shared→Prop) (h:Heap) (g:Array GenState) (d:Drawn) (o:OsState) (p:V × Nat):Prop:=Q p.1 { heap:=h,gens:=g,drawn:=d,toks:=p.2,os:=o }
section
variable {prog:Program} {w:World} {A:Around} {E:Value→Shared→Prop} {h:Heap} {g:Array GenState} {d:Drawn} {o:OsState} {h₀:Heap} {L a:Addr} {m:PySem.Str→Option Value} {cn:PySem.Str} {cs:Scope} {ccd:Value} {cl:List (PySem.Str × Addr)}
private theorem evB_ok {op:Operator} {x y:Int} {t u:Tok} {tk tk':Nat} {v:Value} {Q:Value→Shared→Prop} (he:evB op x y tk=some (v,tk')) (H:Q v { heap:=h,gens:=g,drawn:=d,toks:=tk',os:=o }) :
  wpAny (model prog w) A (binaryOp op (.int x t) (.int y u)) Q E { heap:=h,gens:=g,drawn:=d,toks:=tk,os:=o }:=by
 cases op
 case Add=>exact PyProof.Rows.add_int (someE (P:=evQ Q h g d o) (x:=(Value.int (x+y) tk,tk+1)) he H)
 case Sub=>exact PyProof.Rows.sub_int (someE (P:=evQ Q h g d o) (x:=(Value.int (x-y) tk,tk+1)) he H)
 all_goals (exfalso;exact noneE he)
private theorem evF_ok {op:Operator} {x y:UInt64} {t u:Tok} {tk tk':Nat} {v:Value} {Q:Value→Shared→Prop} (he:evF op x y tk=some (v,tk')) (H:Q v { heap:=h,gens:=g,drawn:=d,toks:=tk',os:=o }) :
  wpAny (model prog w) A (binaryOp op (.float x t) (.float y u)) Q E { heap:=h,gens:=g,drawn:=d,toks:=tk,os:=o }:=by
 cases op
 case Add=>exact PyProof.Rows.add_float (someE (P:=evQ Q h g d o) (x:=(Value.float (Float64.add x y) tk,tk+1)) he H)
 case Sub=>exact PyProof.Rows.sub_float (someE (P:=evQ Q h g d o) (x:=(Value.float (Float64.sub x y) tk,tk+1)) he H)
 case Mult=>exact PyProof.Rows.mul_float (someE (P:=evQ Q h g d o) (x:=(Value.float (Float64.mul x y) tk,tk+1)) he H)
 all_goals (exfalso;exact noneE he)
private theorem evC_ok {c:Const} {k:Nat} {pos:Pos} {env:Env} {tk tk':Nat} {v:Value} {Q:Value→Shared→Prop} (he:evC c tk=some (v,tk')) (H:Q v { heap:=h,gens:=g,drawn:=d,toks:=tk',os:=o }) :
  wpAny (model prog w) A (eval (.Constant c k pos) env) Q E { heap:=h,gens:=g,drawn:=d,toks:=tk,os:=o }:=by
 cases c
 case int i=>exact wpAny_Constant_int (someE (P:=evQ Q h g d o) (x:=(Value.int i tk,tk+1)) he H)
 case str i=>exact wpAny_Constant_str (someE (P:=evQ Q h g d o) (x:=(Value.str i tk,tk+1)) he H)
 case float i=>exact wpAny_Constant_float (someE (P:=evQ Q h g d o) (x:=(Value.float i tk,tk+1)) he H)
 case none=>exact wpAny_Constant_none (someE (P:=evQ Q h g d o) (x:=(Value.none,tk)) he H)
 all_goals (exfalso;exact noneE he)
@[reducible] noncomputable def EvG (pr:Program) (w:World) (A:Around) (E:Value→Shared→Prop) (g:Array GenState) (d:Drawn) (o:OsState) (h:Heap) (env:Env) (f:PySem.Expr→Nat→Option (Value × Nat)) (e:PySem.Expr):Prop:=∀ ⦃v:Value⦄ ⦃tk tk':Nat⦄ ⦃Q:Value→Shared→Prop⦄,f e tk=some (v,tk')→Q v { heap:=h,gens:=g,drawn:=d,toks:=tk',os:=o } →
  wpAny (model pr w) A (eval e env) Q E { heap:=h,gens:=g,drawn:=d,toks:=tk,os:=o }
private theorem evG_no {pr:Program} {env:Env} {f:PySem.Expr→Nat→Option (Value × Nat)} {e:PySem.Expr} (h1:∀ tk,f e tk=none):EvG pr w A E g d o h env f e:=fun _ _ _ _ he _=>noneE ((h1 _).symm.trans he)
private theorem ev_ok (F:Fr h₀ L h m) (n:Nat):∀ {e:PySem.Expr},EvG prog w A E g d o h (envX cn cs L a ccd cl) (ev cs m n) e:=by
 induction n with
 | zero=>intro e;exact evG_no fun _=>rfl
 | succ n ih=>
  intro e
  cases e<;>first|exact evG_no fun _=>rfl|skip
  ·rename_i l op r pos
   intro v tk tk' Q he H
   have he:onN (ev cs m n l tk) (fun a t=>onI (ev cs m n r t) fun b t2=>evB op a b t2) (fun a t=>onF (ev cs m n r t) fun b t2=>evF op a b t2)=some (v,tk'):=he
   rcases onN_inv he with he|he
   ·obtain ⟨x,u,t,h1,h2⟩:=onI_inv he
    obtain ⟨y,u2,t2,h3,h4⟩:=onI_inv h2
    with_reducible exact wpAny_BinOp (ih h1 (ih h3 (evB_ok h4 H)))
   ·obtain ⟨x,u,t,h1,h2⟩:=onF_inv he
    obtain ⟨y,u2,t2,h3,h4⟩:=onF_inv h2
    with_reducible exact wpAny_BinOp (ih h1 (ih h3 (evF_ok h4 H)))
  ·rename_i op l pos
   cases op<;>first|exact evG_no fun _=>rfl|skip
   intro v tk tk' Q he H
   obtain ⟨x,u,t,h1,h2⟩:=onI_inv he
   exact UnaryOp_ (ih h1 (PyProof.Rows.neg_int (someE (P:=evQ Q h g d o) (x:=(Value.int (-x) t,t+1)) h2 H)))
  ·intro v tk tk' Q he H
   exact evC_ok he H
  ·rename_i x pos
   intro v tk tk' Q he H
   have he:cond (nameOk cs x) ((m x).map fun v=>(v,tk)) none=some (v,tk'):=he
   cases hn:nameOk cs x with
   | false=>rw [hn] at he;exact noneE he
   | true=>
    rw [hn] at he
    obtain ⟨h1,h2,h3⟩:=nameOk_inv hn
    obtain ⟨v',h4,h5⟩:=Option.map_eq_some_iff.mp he
    exact nameX_L F h4 (someE (P:=evQ Q h g d o) (congrArg some h5) H) h1 h2 h3
noncomputable def onP {α β:Type} (o:Option (α × Nat)) (f:α→Nat→Option β):Option β:=match o with
 | some (v,t)=>f v t
 | none=>none
private theorem onP_inv {α β:Type} {o:Option (α × Nat)} {f:α→Nat→Option β} {r:β} (h:onP o f=some r):∃ v t,o=some (v,t)∧f v t=some r:=by
 cases o with
 | none=>exact noneE h
 | some p=>exact ⟨p.1,p.2,rfl,h⟩
noncomputable def evs (cs:Scope) (m:PySem.Str→Option Value) (n:Nat) (es:List PySem.Expr):Nat→Option (List Value × Nat):=List.rec (fun tk=>some ([],tk)) (fun e _ ih tk=>cond (kdsPlain e) (onP (ev cs m n e tk) fun v t=>onP (ih t) fun us t2=>some (v::us,t2)) none) es
private theorem evs_inv {n:Nat} {e:PySem.Expr} {r:List PySem.Expr} {tk:Nat} {z:List Value × Nat} (he:evs cs m n (e::r) tk=some z):kdsPlain e=true∧∃ v t us t2,ev cs m n e tk=some (v,t)∧evs cs m n r t=some (us,t2)∧some (v::us,t2)=some z:=by
 have he:cond (kdsPlain e) (onP (ev cs m n e tk) fun v t=>onP (evs cs m n r t) fun us t2=>some (v::us,t2)) none=some z:=he
 cases hn:kdsPlain e with
 | false=>rw [hn] at he;exact noneE he
 | true=>
  rw [hn] at he
  obtain ⟨v,t,h1,h2⟩:=onP_inv he
  obtain ⟨us,t2,h3,h4⟩:=onP_inv h2
  exact ⟨rfl,v,t,us,t2,h1,h3,h4⟩
private theorem evs_plain {n:Nat}:∀ {es:List PySem.Expr} {tk:Nat} {p:List Value × Nat},evs cs m n es tk=some p→es.all kdsPlain=true
 | [],_,_,_=>rfl
 | e::r,tk,_,he=>by
  obtain ⟨h1,v,t,us,t2,_,h2,_⟩:=evs_inv he
  rw [List.all_cons,h1,evs_plain h2]
  rfl
private theorem star_cons {env:Env} {e:PySem.Expr} {r:List PySem.Expr} (h:(e::r).all kdsPlain=true):starEach (e::r) env=(false,eval e env)::starEach r env:=by
 rw [kds_star _ h,kds_star r (by rw [List.all_cons,Bool.and_eq_true] at h;exact h.2),arm_evalEach_cons,List.map_cons]
private theorem args_ev {pos:Pos} (F:Fr h₀ L h m) (n:Nat):∀ {es:List PySem.Expr} {vs:List Value} {tk tk':Nat} {Q:List Value→Shared→Prop},evs cs m n es tk=some (vs,tk')→Q vs { heap:=h,gens:=g,drawn:=d,toks:=tk',os:=o } →
  wpAny (model prog w) A (spliced (backTo pos (starEach es (envX cn cs L a ccd cl)))) Q E { heap:=h,gens:=g,drawn:=d,toks:=tk,os:=o }
 | [],vs,tk,tk',Q,he,H=>by
  exact args_nil (someE (P:=evQ Q h g d o) (x:=(([]:List Value),tk)) he H)
 | e::r,vs,tk,tk',Q,he,H=>by
  obtain ⟨_,v,t,us,t2,h2,h3,h4⟩:=evs_inv he
  exact args_cons (ev_ok F n h2 (args_ev F n h3 (someE (P:=evQ Q h g d o) (x:=(v::us,t2)) h4 H))) (star_cons (evs_plain he))
private theorem star_any {env:Env} {pos:Pos}:∀ {r:List PySem.Expr},r.all kdsPlain=true→(backTo pos (starEach r env)).any (·.1)=false
 | [],_=>rfl
 | e::r,h=>by
  rw [star_cons h]
  rw [List.all_cons,Bool.and_eq_true] at h
  exact star_any h.2
section
variable {K:Frag} {pr:Program} {loose:List PySem.Str} {mean:ExcName→Option Value} {mg mb:PySem.Str→Option Value} {x:PySem.Str} {p pos:Pos} {args:List PySem.Expr} {vs:List Value} {tk tk':Nat} {Q:Value→Shared→Prop}
private theorem callF {f:Value} (F:Fr h₀ L h m) (X:K.In h₀) (T:Top pr loose mean mg mb h₀) (e:nsIn K mainGlobals x=some (some f)) (hp:keepIn K f=true) (hk:cs.kind = .function) (hx:(envX cn cs L a ccd cl).kindOf x=some .globalImplicit)
  (hd:(x == ("__debug__" : PySem.Str))=false) (he:evs cs m 3 args tk=some (vs,tk')) (H:wpAny (model prog w) A (call f vs) Q E { heap:=h,gens:=g,drawn:=d,toks:=tk',os:=o }) :
  wpAny (model prog w) A (eval (.Call (.Name x p) args [] pos) (envX cn cs L a ccd cl)) Q E { heap:=h,gens:=g,drawn:=d,toks:=tk,os:=o }:=by
 with_reducible refine Call_ (nameX_K F X (topRead_of T) e ?_ hk hx hd) (by with_unfolding_all rfl)
 match args,he with
 | [],he=>
  with_reducible refine callWith_K0 (Frag.In.keeps X F.keep) hp ?_
  exact someE (P:=evQ (fun vs s=>wpAny (model prog w) A (call f vs) Q E s) h g d o) (x:=(([]:List Value),tk)) he H
 | b::r,he=>
  have hl:=evs_plain he
  have hl2:=hl
  rw [List.all_cons,Bool.and_eq_true] at hl2
  with_reducible refine callWith_K X hp (args_ev F 3 he ⟨Frag.In.keeps X F.keep,?_⟩) (star_cons hl) (star_any hl2.2)
  exact H
noncomputable def plainC (v:Value):Bool:=match v with
 | .builtin _=>true
 | .type _=>true
 | _=>false
private theorem plain_inv {v:Value} (h:plainC v=true):(∃ b,v = .type b)∨∃ b,v = .builtin b:=by
 cases v<;>first|exact Bool.noConfusion h|exact .inl ⟨_,rfl⟩|exact .inr ⟨_,rfl⟩
private theorem callB {v:Value} {b:PySem.Expr} {r:List PySem.Expr} (F:Fr h₀ L h m) (X:K.In h₀) (T:Top pr loose mean mg mb h₀) (e:nsIn K mainGlobals x=some none) (hv:bootBuiltins x=some v) (hn:x ≠ "__name__") (hp:plainC v=true) (hk:cs.kind = .function) (hx:(envX cn cs L a ccd cl).kindOf x=some .globalImplicit)
  (hd:(x == ("__debug__" : PySem.Str))=false) (he:evs cs m 3 (b::r) tk=some (vs,tk')) (H:wpAny (model prog w) A (call v vs) Q E { heap:=h,gens:=g,drawn:=d,toks:=tk',os:=o }) :
  wpAny (model prog w) A (eval (.Call (.Name x p) (b::r) [] pos) (envX cn cs L a ccd cl)) Q E { heap:=h,gens:=g,drawn:=d,toks:=tk,os:=o }:=by
 with_reducible refine Call_ (nameX_B F X (topRead_of T) e hv hn ?_ hk hx hd) (by with_unfolding_all rfl)
 have hl:=evs_plain he
 have hl2:=hl
 rw [List.all_cons,Bool.and_eq_true] at hl2
 have H:=args_ev (Q:=fun vs s=>wpAny (model prog w) A (call v vs) Q E s) (pos:=pos) (prog:=prog) (w:=w) (A:=A) (E:=E) (cn:=cn) (a:=a) (ccd:=ccd) (cl:=cl) F 3 he H
 rcases plain_inv hp with ⟨b,hb⟩|⟨b,hb⟩
 ·rw [hb] at H ⊢
  with_reducible exact PyProof.Rows.callWith_type1 H (star_cons hl) (star_any hl2.2)
 ·rw [hb] at H ⊢
  with_reducible exact PyProof.Rows.callWith_builtin1 H (star_cons hl) (star_any hl2.2)
end
section
variable {M:PySem.Model} {env:Env} {s:Shared} {x:PySem.Str} {p pos:Pos} {args:List PySem.Expr} {Q:Value→Shared→Prop}
private theorem callN (H:wpAny M A (eval (.Name x p) env) (fun f s₁=>wpAny M A (callWith pos f [] (backTo pos (starEach args env)) []) Q E s₁) E s):wpAny M A (eval (.Call (.Name x p) args [] pos) env) Q E s:=by
 with_reducible refine Call_ H (by with_unfolding_all rfl)
private theorem asgN {x:PySem.Str} {pos' pos:Pos} {value:PySem.Expr} {Q:Flow→Shared→Prop} (hs:swapsWith value (some (.Name x pos')) pos.line env=pure false)
  (H:wpAny M A (eval value env) (fun v s₁=>wpAny M A (storeName env x v) (fun _=>Q .next) E s₁) E s):wpAny M A (exec (.Assign [.Name x pos'] value pos) env) Q E s:=by
 with_reducible exact wpAny_Assign_Name H hs
private theorem argN {e:PySem.Expr} {r:List PySem.Expr} {Q:List Value→Shared→Prop} (he:starEach (e::r) env=(false,eval e env)::starEach r env)
  (H:wpAny M A (eval e env) (fun v s₁=>wpAny M A (spliced (backTo pos (starEach r env))) (fun vs s₂=>Q (v::vs) s₂) E s₁) E s):wpAny M A (spliced (backTo pos (starEach (e::r) env))) Q E s:=by
 with_reducible exact args_cons H he
private theorem istN {e:PySem.Expr} {wh:Sem Value} {Q:Bool→Shared→Prop} (he:isTrue e env wh=(do let v←wh;standAt e.pos;holding [v] (truthy v)))
  (H:wpAny M A wh (fun v s₁=>wpAny M A (truthy v) Q E s₁) E s):wpAny M A (isTrue e env wh) Q E s:=by
 with_reducible exact isTrue_plain H he
end
private theorem ltg_str {b:PySem.Expr} {x:PySem.Str} {t:Tok} {r:Value}:letTemporaryGo b (.str x t) r=pure ():=by cases b<;>rfl
private theorem subd_ev {n:Nat} {s:PySem.Expr} {x i:Value} {tk:Nat} {p:Value × Nat} (h:ev cs m n s tk=some p):subscripted s false x i=operate [x,i] (getItem x i):=by
 cases n with
 | zero=>exact noneE h
 | succ n=>cases s<;>first|rfl|exact noneE h
end
end Mine
namespace Mine
noncomputable def cmpB (op:CmpOp) (a b:Int):Option Bool:=match op with
 | .Lt=>some (decide (a<b))
 | .LtE=>some (decide (a≤b))
 | .Gt=>some (decide (b<a))
 | .GtE=>some (decide (b≤a))
 | .Eq=>some (a == b)
 | .NotEq=>some (a != b)
 | _=>none
section
variable {prog:Program} {w:World} {A:Around} {E:Value→Shared→Prop} {h:Heap} {g:Array GenState} {d:Drawn} {o:OsState} {h₀:Heap} {L a:Addr} {m:PySem.Str→Option Value} {cn:PySem.Str} {cs:Scope} {ccd:Value} {cl:List (PySem.Str × Addr)}
private theorem cmpB_ok {op:CmpOp} {x y:Int} {t u:Tok} {tk:Nat} {b:Bool} {Q:Value→Shared→Prop} (he:cmpB op x y=some b) (H:Q (.bool b) { heap:=h,gens:=g,drawn:=d,toks:=tk,os:=o }) :
  wpAny (model prog w) A (compareOp op (.int x t) (.int y u)) Q E { heap:=h,gens:=g,drawn:=d,toks:=tk,os:=o }:=by
 cases op
 ·exact PySem.P.eq_int (someE (P:=fun b=>Q (.bool b) { heap:=h,gens:=g,drawn:=d,toks:=tk,os:=o }) (x:=x == y) he H)
 ·exact PySem.P.ne_int (someE (P:=fun b=>Q (.bool b) { heap:=h,gens:=g,drawn:=d,toks:=tk,os:=o }) (x:=x != y) he H)
 ·exact PySem.P.lt_int (someE (P:=fun b=>Q (.bool b) { heap:=h,gens:=g,drawn:=d,toks:=tk,os:=o }) (x:=decide (x<y)) he H)
 ·exact PySem.P.le_int (someE (P:=fun b=>Q (.bool b) { heap:=h,gens:=g,drawn:=d,toks:=tk,os:=o }) (x:=decide (x≤y)) he H)
 ·exact PySem.P.gt_int (someE (P:=fun b=>Q (.bool b) { heap:=h,gens:=g,drawn:=d,toks:=tk,os:=o }) (x:=decide (y<x)) he H)
 ·exact PySem.P.ge_int (someE (P:=fun b=>Q (.bool b) { heap:=h,gens:=g,drawn:=d,toks:=tk,os:=o }) (x:=decide (y≤x)) he H)
 all_goals (exfalso;exact noneE he)
private theorem cmp_ok {l r:PySem.Expr} {op:CmpOp} {pos:Pos} {wh:Sem Value} {x y:Int} {t u:Tok} {tk t1 t2:Nat} {b:Bool} {Q:Bool→Shared→Prop} (F:Fr h₀ L h m) (n:Nat)
  (h1:ev cs m n l tk=some (.int x t,t1)) (h2:ev cs m n r t1=some (.int y u,t2)) (hm:behindInMarks op r=false) (hb:cmpB op x y=some b) (H:Q b { heap:=h,gens:=g,drawn:=d,toks:=t2,os:=o }) :
  wpAny (model prog w) A (isTrue (.Compare l [op] [r] pos) (envX cn cs L a ccd cl) wh) Q E { heap:=h,gens:=g,drawn:=d,toks:=tk,os:=o }:=
 wpAny_isTrue_Compare1 (ev_ok F n h1 (ev_ok F n h2 (cmpB_ok hb (wpAny_truthy_bool H)))) hm
private theorem sub_ok {value slice:PySem.Expr} {pos:Pos} {v i:Value} {tk t1 t2:Nat} {Q:Value→Shared→Prop} (F:Fr h₀ L h m) (n:Nat)
  (h1:ev cs m n value tk=some (v,t1)) (h2:ev cs m n slice t1=some (i,t2)) (H:wpAny (model prog w) A (subscriptTail value slice v i) Q E { heap:=h,gens:=g,drawn:=d,toks:=t2,os:=o }) :
  wpAny (model prog w) A (eval (.Subscript value slice pos) (envX cn cs L a ccd cl)) Q E { heap:=h,gens:=g,drawn:=d,toks:=tk,os:=o }:=
 Subscript_ (ev_ok F n h1 (ev_ok F n h2 H))
end
end Mine
end
section
open PySem PySem.W PyProof.Rows PySem.Flt PySem.Calls
namespace Mine
noncomputable abbrev accO (dx:Addr) (its:List Value) (n:Nat):Obj:={ cls:=.ref 136,dict:=some dx,data:=.seq its.toArray n }
section
variable {prog:Program} {w:World} {A:Around} {E:Value→Shared→Prop} {s:Shared} {K:Frag} {x dx:Addr} {its:List Value} {n:Nat} {od:Obj}

private theorem acc_inst {h:Heap} (hx:h.get? x=some (accO dx its n)) (hd:h.get? dx=some od):W.InstAt h x (accO dx its n) 136 (some od):=⟨hx,rfl,rfl,hd⟩
private theorem acc_isList {M:Model} {h:Heap} (X:K.In h) (hx:h.get? x=some (accO dx its n)) (hsub:subIn K (.ref 136) (.type "list")=some true):Looks M h (isInstance (.ref x) (.type "list")) true:=
 ((Looks.ld (M:=M) hx).andThen .now:Looks M h (typeOf (.ref x)) (.ref 136)).andThen (looks_subIn X hsub)

private theorem check_meth {M:Model} {i owner nm:String} {self:Value} {rest:List Value} {kw:List (Str × Value)} {Q:Unit→Shared→Prop}
  (hk:builtinKind i=some .method) (hs:splitId i=some (owner,nm)) (hi:Looks M s.heap (isInstance self (.type owner)) true) (ha:argsOk i ⟨self::rest,kw⟩) (q:Q () s) :
  wpAny M A (checkBuiltinCall i ⟨self::rest,kw⟩) Q E s:=by
 unfold checkBuiltinCall
 rw [hk,hs]
 refine wpAny_bind (hi.here ?_)
 with_reducible refine wi_neg (by decide) ?_
 cases hsig:Manifest.signature? i with
 | none=>exact wpAny_pure q
 | some sig=>
  unfold argsOk at ha
  rw [hsig] at ha
  have h2:Bind.checkArgs i sig ⟨self::rest,kw⟩=pure ():=ha
  show wpAny _ _ (Bind.checkArgs i sig ⟨self::rest,kw⟩) _ _ _
  rw [h2]
  exact wpAny_pure q

private theorem canon_list_ga:(Manifest.canonical "list.__getattribute__" != "object.__getattribute__")=false:=PySem.canon_list_getattribute
private theorem meth_fn {pl:Sem Bool} {f:Addr} {name:Str} {Q:Value × List Value→Shared→Prop} {ox:Obj} (X:K.In s.heap) (I:W.InstAt s.heap x ox 136 (some od))
  (hga:findIn K (.ref 136) "__getattribute__" = some (some (.builtin "list.__getattribute__"))) (hk:findIn K (.ref 136) "__getattr__" = some none)
  (hf:findIn K (.ref 136) name=some (some (.ref f))) (ht:typeIn K (.ref f)=some (.type "function")) (hs:shadowIn (some od) name=some false) (h:Q (.ref f,[.ref x]) s) :
  wpAny (model prog w) A (getMethod (.ref x) name pl) Q E s:=by
 have hcan:=canon_list_ga
 unfold getMethod specialOf
 refine wpAny_bind (wpAny_bind (I.type.here ((looks_findIn X hga).here ?_)))
 dsimp only
 with_reducible refine wi_neg (by rw [hcan];exact Bool.false_ne_true) ?_
 refine wpAny_bind (wpAny_bind (I.type.here ((looks_findIn X hk).here ?_)))
 refine wpAny_bind (wpAny_bind (I.type.here ((looks_findIn X hf).here (wpAny_bind ((looks_typeIn X ht).here ?_)))))
 with_reducible refine wi_neg (by decide +kernel) ?_
 refine wpAny_bind (wpAny_loadPart I.at_ ?_)
 have hd:=I.dict
 cases e:ox.dict with
 | none=>exact wpAny_bind (wpAny_rule (wpAny_pure h))
 | some d=>
  rw [e] at hd
  obtain ⟨r,a,b⟩:=Option.map_eq_some_iff.mp hs
  refine wpAny_bind (wpAny_bind (wpAny_loadPart hd ?_))
  rw [nsLook_of a]
  refine wpAny_pure ?_
  rw [b]
  exact wpAny_bind (wpAny_rule (wpAny_pure h))
private theorem meth_bi {pl:Sem Bool} {id:String} {name:Str} {Q:Value × List Value→Shared→Prop} {ox:Obj} (X:K.In s.heap) (I:W.InstAt s.heap x ox 136 (some od))
  (hga:findIn K (.ref 136) "__getattribute__" = some (some (.builtin "list.__getattribute__"))) (hk:findIn K (.ref 136) "__getattr__" = some none)
  (hf:findIn K (.ref 136) name=some (some (.builtin id))) (ht:typeIn K (.builtin id)=some (.type "method_descriptor")) (hs:shadowIn (some od) name=some false) (h:Q (.builtin id,[.ref x]) s) :
  wpAny (model prog w) A (getMethod (.ref x) name pl) Q E s:=by
 have hcan:=canon_list_ga
 unfold getMethod specialOf
 refine wpAny_bind (wpAny_bind (I.type.here ((looks_findIn X hga).here ?_)))
 dsimp only
 with_reducible refine wi_neg (by rw [hcan];exact Bool.false_ne_true) ?_
 refine wpAny_bind (wpAny_bind (I.type.here ((looks_findIn X hk).here ?_)))
 refine wpAny_bind (wpAny_bind (I.type.here ((looks_findIn X hf).here (wpAny_bind ((looks_typeIn X ht).here ?_)))))
 with_reducible refine wi_neg (by decide +kernel) ?_
 refine wpAny_bind (wpAny_loadPart I.at_ ?_)
 have hd:=I.dict
 cases e:ox.dict with
 | none=>exact wpAny_bind (wpAny_rule (wpAny_pure h))
 | some d=>
  rw [e] at hd
  obtain ⟨r,a,b⟩:=Option.map_eq_some_iff.mp hs
  refine wpAny_bind (wpAny_bind (wpAny_loadPart hd ?_))
  rw [nsLook_of a]
  refine wpAny_pure ?_
  rw [b]
  exact wpAny_bind (wpAny_rule (wpAny_pure h))

private theorem call_bi {id:String} {b:Builtin} {args:List Value} {Q:Value→Shared→Prop} (hp:plainId id=true) (he:entryFor table id=some b)
  (hc:∀ (A':Around) (Q':Unit→Shared→Prop) (E':Value→Shared→Prop),Q' () s→wpAny (model prog w) A' (checkBuiltinCall id ⟨args,[]⟩) Q' E' s)
  (h:wpAny (model prog w) A.in1 (b ⟨args,[]⟩) (fun fin s'=>match fin with | .done (.ret v)=>Q v s'|_=>False) E s) :
  wpAny (model prog w) A (call (.builtin id) args) Q E s:=by
 refine wpAny_call (codeAny_call_builtin hp he (hc _ _ _ (wpAny_mono h (fun fin s' z=>?_) fun _ _ z=>z)))
 cases fin with
 | done f=>cases f<;>exact z
 | again c=>exact z.elim

private theorem e_append:entryFor table "list.append" = some Builtin.«list.append»:=entryFor_of_tree (by kernel_rfl)
private theorem a_append (a b:Value):argsOk "list.append" ⟨[a,b],[]⟩:=PySem.args_list_append a b
private theorem acc_append {v:Value} {Q:Value→Shared→Prop} (X:K.In s.heap) (hx:s.heap.get? x=some (accO dx its n)) (hsub:subIn K (.ref 136) (.type "list")=some true) (hz:its.length≤1000)
  (h:Q .none { s with heap:=s.heap.update x (Obj.mapSeq (·.push v)) }) :
  wpAny (model prog w) A (call (.builtin "list.append") [.ref x,v]) Q E s:=by
 refine call_bi (id := "list.append") (by decide +kernel) e_append ?kc ?_
 case kc=>
  intro A' Q' E' q
  exact check_meth (s:=s) (by decide +kernel) (by decide +kernel:splitId "list.append" = some ("list", "append")) (acc_isList X hx hsub) (a_append _ _) q
 unfold Builtin.«list.append»
 refine wpAny_bind (wpAny_of_eq (show _root_.PySem.selfAndOne "list.append" ⟨[Value.ref x,v],[]⟩=pure (Value.ref x,v) from rfl) ?_)
 refine wpAny_bind ?_
 show wpAny _ _ (updateSeq x (·.push v)) _ _ _
 refine wpAny_updateSeq hx rfl (wpAny_pure h) ?_ ?_
 ·rw [List.size_toArray,sizeLine_eq];lia -abstractProof
 ·simp only [Array.size_push,List.size_toArray];rw [sizeLine_eq];lia -abstractProof
section
variable {h₀:Heap} {L:Addr} {m:Str→Option Value} {news news':List (Addr × Obj)}
private theorem acc_appendK {v:Value} {Q:Value→Shared→Prop} (F:Fr h₀ L s.heap m) (X:K.In s.heap) (N:News h₀ L s.heap news) (U:Upd x (accO dx its n) (accO dx (its++[v]) (n+1)) news news')
  (hsub:subIn K (.ref 136) (.type "list")=some true) (hz:its.length≤1000)
  (h:∀ h',Fr h₀ L h' m→News h₀ L h' news'→Q .none { s with heap:=h' }) :
  wpAny (model prog w) A (call (.builtin "list.append") [.ref x,v]) Q E s:=by
 have e:Obj.mapSeq (·.push v) (accO dx its n)=accO dx (its++[v]) (n+1):=by
  simp [Obj.mapSeq]
 obtain ⟨F',N'⟩:=upd_heap F N U (f:=Obj.mapSeq (·.push v)) e rfl
 exact acc_append X (N _ (upd_mem U)).1 hsub hz (h _ F' N')
end
end
end Mine
end
section
open PySem PySem.W PyProof.Rows PySem.Flt PySem.Calls
namespace Mine
private theorem slot_md_get:Slot "method_descriptor" "__get__" "method_descriptor.__get__" := .of (owner := "method_descriptor") (n := "__get__") (by rw [typeLookup_type,builtinLookup_eq_fast];kernel_rfl) (by decide +kernel) (by decide +kernel) (by decide +kernel) (by decide +kernel) (by rw [isSubtype_type];kernel_rfl)
private theorem slot_wd_get:Slot "wrapper_descriptor" "__get__" "wrapper_descriptor.__get__" := .of (owner := "wrapper_descriptor") (n := "__get__") (by rw [typeLookup_type,builtinLookup_eq_fast];kernel_rfl) (by decide +kernel) (by decide +kernel) (by decide +kernel) (by decide +kernel) (by rw [isSubtype_type];kernel_rfl)
private theorem entry_md_get:entryFor table "method_descriptor.__get__" = some Builtin.«method_descriptor.__get__»:=entryFor_of_tree (by kernel_rfl)
private theorem entry_wd_get:entryFor table "wrapper_descriptor.__get__" = some Builtin.«wrapper_descriptor.__get__»:=entryFor_of_tree (by kernel_rfl)
private theorem args_md_get (a b c:Value):argsOk "method_descriptor.__get__" ⟨[a,b,c],[]⟩:=by unfold argsOk;kernel_rfl
private theorem args_wd_get (a b c:Value):argsOk "wrapper_descriptor.__get__" ⟨[a,b,c],[]⟩:=by unfold argsOk;kernel_rfl
section
variable {prog:Program} {w:World} {A:Around} {E:Value→Shared→Prop} {s:Shared} {K:Frag} {x dx:Addr} {its:List Value} {n:Nat} {od:Obj}
noncomputable abbrev bndO (kind:String) (id:String) (x:Addr):Obj:={ cls:=.type kind,data:=.fields #[.builtin id,.ref x] }
private theorem md_get_pop {h:Heap} {g:Array GenState} {d:Drawn} {t:Nat} {os:OsState} {Q:Fin→Shared→Prop} (hi:Looks (model prog w) h (isInstance (.ref x) (.type "list")) true)
  (hq:Q (.done (.ret (.ref h.objs.size))) ⟨h.push (bndO "builtin_function_or_method" "list.pop" x),g,d,t,os⟩) :
  wpAny (model prog w) A (Builtin.«method_descriptor.__get__» ⟨[.builtin "list.pop", .ref x,.ref 136],[]⟩) Q E ⟨h,g,d,t,os⟩:=by
 have hc:Manifest.toldItsClass.contains "list.pop" = false:=by decide +kernel
 unfold Builtin.«method_descriptor.__get__»
 refine wpAny_bind (wpAny_of_eq (show _=pure (Value.builtin "list.pop", some (Value.ref x),some (Value.ref 136)) from rfl) ?_)
 dsimp only
 with_reducible refine wi_neg (by rw [hc];exact Bool.false_ne_true) ?_
 refine wpAny_bind (wpAny_bind (wpAny_of_eq (show _=(pure ((Str.ofString "pop"),Value.type "list"):Sem (PySem.Str × Value)) from by kernel_rfl) ?_))
 dsimp only
 refine wpAny_bind (hi.here ?_)
 simp only [Bool.not_true,Bool.false_eq_true,if_false]
 exact wpAny_pure (wpAny_bind (wpAny_newObj_type (wpAny_pure hq)))
private theorem wd_get {id:String} {nm:PySem.Str} {h:Heap} {g:Array GenState} {d:Drawn} {t:Nat} {os:OsState} {Q:Fin→Shared→Prop} (hi:Looks (model prog w) h (isInstance (.ref x) (.type "list")) true)
  (hid:(let parts:=id.cutAt '.';((pure (Str.ofString (parts.getLastD ""),Value.type (".".intercalate parts.dropLast)):Sem (PySem.Str × Value))))=pure (nm,Value.type "list"))
  (hq:Q (.done (.ret (.ref h.objs.size))) ⟨h.push (bndO "method-wrapper" id x),g,d,t,os⟩) :
  wpAny (model prog w) A (Builtin.«wrapper_descriptor.__get__» ⟨[.builtin id,.ref x,.ref 136],[]⟩) Q E ⟨h,g,d,t,os⟩:=by
 unfold Builtin.«wrapper_descriptor.__get__»
 refine wpAny_bind (wpAny_of_eq (show _=pure (Value.builtin id,some (Value.ref x),some (Value.ref 136)) from rfl) ?_)
 dsimp only
 refine wpAny_bind (wpAny_bind (wpAny_of_eq hid ?_))
 dsimp only
 refine wpAny_bind (hi.here ?_)
 simp only [Bool.not_true,Bool.false_eq_true,if_false]
 exact wpAny_pure (wpAny_bind (wpAny_newObj_type (wpAny_pure hq)))
private theorem sup_ga {so D:Addr} {l₀ l:List Value} {name:PySem.Str} {tk:Tok} {T gid id kind:String} {b:Builtin} {h:Heap} {g:Array GenState} {d:Drawn} {t:Nat} {os:OsState} {Q:Fin→Shared→Prop}
  (hso:h.get? so=some { cls:=.type "super", dict:=none,data:=.fields #[.ref D,.ref x,.ref 136],slots:=#[] }) (hno:Looks (model prog w) h (opaqueClassAbove (.ref 136)) none)
  (hC:Looks (model prog w) h (mroOf (.ref 136)) l₀) (hl:(l₀.dropWhile (· != .ref D)).drop 1=l) (X:K.In h)
  (hf:alongIn K name l=some (some (.builtin id))) (sg:Slot T "__get__" gid) (hT:∀ s':Shared,s'.TypeIs (.builtin id) T) (eg:entryFor table gid=some b) (ag:argsOk gid ⟨[.builtin id,.ref x,.ref 136],[]⟩)
  (hb:∀ (A':Around) (E':Value→Shared→Prop) (Q':Fin→Shared→Prop),Q' (.done (.ret (.ref h.objs.size))) ⟨h.push (bndO kind id x),g,d,t,os⟩→wpAny (model prog w) A' (b ⟨[.builtin id,.ref x,.ref 136],[]⟩) Q' E' ⟨h,g,d,t,os⟩)
  (hxC:x≠136) (hn:(name == ("__class__" : PySem.Str))=false)
  (hq:Q (.done (.ret (.ref h.objs.size))) ⟨h.push (bndO kind id x),g,d,t,os⟩) :
  wpAny (model prog w) A (Builtin.«super.__getattribute__» ⟨[.ref so,.str name tk],[]⟩) Q E ⟨h,g,d,t,os⟩:=by
 have hlk:=sg.lookup
 have hne:(Value.ref x == Value.ref 136)=false:=by simp [hxC]
 have hdt:({ cls:=.type "super", dict:=none,data:=.fields #[.ref D,.ref x,.ref 136],slots:=#[] }:Obj).data = .fields #[.ref D,.ref x,.ref 136]:=rfl
 have f0:(#[.ref D,.ref x,.ref 136]:Array Value)[0]?=some (.ref D):=rfl
 have f1:(#[.ref D,.ref x,.ref 136]:Array Value)[1]?=some (.ref x):=rfl
 have f2:(#[.ref D,.ref x,.ref 136]:Array Value)[2]?=some (.ref 136):=rfl
 unfold Builtin.«super.__getattribute__»
 repeat (first
  | (with_reducible refine wpAny_field hso hdt f0 ?_)|(with_reducible refine wpAny_field hso hdt f1 ?_)|(with_reducible refine wpAny_field hso hdt f2 ?_)
  | (with_reducible refine ks_wpAny_notOpaque hno ?_)
  | (with_reducible refine Looks.at hC ?_;rw [hl])
  | (refine ks_forIn_along X (fun _ _=>rfl) rfl ?_ hf)
  | (with_reducible refine wpAny_typeOf (hT _) ?_)
  | (with_reducible refine wpAny_call_entry sg (hT _) eg (hb _ _ _ ⟨_,rfl,?_⟩) ag)
  | (simp -iota only [hn,hne,Bool.or_false,Bool.false_eq_true,if_false])
  | wp_step
  | dsimp only)
 all_goals exact hq
private theorem sup_meth {so D:Addr} {l₀ l:List Value} {name:PySem.Str} {T gid id kind:String} {b:Builtin} {pl:Sem Bool} {h:Heap} {g:Array GenState} {d:Drawn} {t:Nat} {os:OsState} {Q:Value × List Value→Shared→Prop}
  (hso:h.get? so=some { cls:=.type "super", dict:=none,data:=.fields #[.ref D,.ref x,.ref 136],slots:=#[] }) (hno:Looks (model prog w) h (opaqueClassAbove (.ref 136)) none)
  (hC:Looks (model prog w) h (mroOf (.ref 136)) l₀) (hl:(l₀.dropWhile (· != .ref D)).drop 1=l) (X:K.In h)
  (hf:alongIn K name l=some (some (.builtin id))) (sg:Slot T "__get__" gid) (hT:∀ s':Shared,s'.TypeIs (.builtin id) T) (eg:entryFor table gid=some b) (ag:argsOk gid ⟨[.builtin id,.ref x,.ref 136],[]⟩)
  (hb:∀ (t':Nat) (A':Around) (E':Value→Shared→Prop) (Q':Fin→Shared→Prop),Q' (.done (.ret (.ref h.objs.size))) ⟨h.push (bndO kind id x),g,d,t',os⟩→wpAny (model prog w) A' (b ⟨[.builtin id,.ref x,.ref 136],[]⟩) Q' E' ⟨h,g,d,t',os⟩)
  (hxC:x≠136) (hn:(name == ("__class__" : PySem.Str))=false)
  (hq:Q (.ref h.objs.size,[]) ⟨h.push (bndO kind id x),g,d,t+1,os⟩) :
  wpAny (model prog w) A (getMethod (.ref so) name pl) Q E ⟨h,g,d,t,os⟩:=by
 have hlk:=PySem.F.ks_slot_super_ga.lookup
 have hcan:=PySem.F.ks_canon_super_ga
 have hTs:∀ t',(⟨h,g,d,t',os⟩:Shared).TypeIs (.ref so) "super" := fun _=>⟨_,hso,rfl⟩
 unfold getMethod
 refine wpAny_bind (wpAny_specialOf (hTs _) hlk ?_)
 show wpAny _ _ (if (Manifest.canonical "super.__getattribute__" != "object.__getattribute__")=true then _ else _) _ _ _
 with_reducible refine wi_pos hcan ?_
 unfold getAttr getAttrBy
 refine wpAny_bind (wpAny_bind (wpAny_mkText (wpAny_holding (wpAny_bind (wpAny_typeOf (hTs _) (wpAny_bind (wpAny_of_eq hlk ?_)))))))
 show wpAny _ _ (getAttrByItsOwn (.ref so) (.str name t) (.type "super") (.builtin "super.__getattribute__") true false) _ _ _
 unfold getAttrByItsOwn hookBefore callGetattribute boundAndCalled
 refine wpAny_bind (wpAny_of_eq (show (if onTheHeap (.type "super") then typeLookup (.type "super") "__getattr__" else pure none)=pure none from rfl) ?_)
 refine wpAny_bind (wpAny_attempt (wpAny_holding ?_))
 show wpAny _ _ (bindSpecial (.builtin "super.__getattribute__") (.ref so) >>= _) _ _ _
 refine wpAny_bind (wpAny_of_eq (PySem.F.ks_slot_super_ga.bind _) ?_)
 refine wpAny_mono (Q:=fun v s'=>v = .ref h.objs.size∧s'=⟨h.push (bndO kind id x),g,d,t+1,os⟩) (E:=fun _ _=>False)
  (wpAny_call_entry PySem.F.ks_slot_super_ga (hTs _) PySem.F.ks_entry_super_ga (sup_ga hso hno hC hl X hf sg hT eg ag (hb _) hxC hn ⟨_,rfl,rfl,rfl⟩) (PySem.F.ks_gaArgs_super _ _)) (fun v s' hv=>?_) fun _ _ z=>z.elim
 obtain ⟨rfl,rfl⟩:=hv
 exact wpAny_pure (wpAny_pure hq)
private theorem call_bnd {q:Addr} {kind id:String} {b:Builtin} {args:List Value} {Q:Value→Shared→Prop} (hq:s.heap.get? q=some (bndO kind id x)) (hk:kind = "builtin_function_or_method" ∨ kind = "method-wrapper")
  (hp:plainId id=true) (he:entryFor table id=some b)
  (hc:∀ (A':Around) (Q':Unit→Shared→Prop) (E':Value→Shared→Prop),Q' () s→wpAny (model prog w) A' (checkBoundCall id ⟨.ref x::args,[]⟩) Q' E' s)
  (h:wpAny (model prog w) A.in1 (b ⟨.ref x::args,[]⟩) (fun fin s'=>match fin with | .done (.ret v)=>Q v s'|_=>False) E s) :
  wpAny (model prog w) A (call (.ref q) args) Q E s:=by
 refine wpAny_call (codeAny_of_tree ?_)
 show wpAny _ A.in1 (callAny (.ref q) ⟨args,[]⟩) _ _ _
 unfold callAny
 refine wpAny_bind (wpAny_load hq ?_)
 have e1:(Value.type kind == Value.type "method" || Value.type kind == Value.type "builtin_function_or_method" || Value.type kind == Value.type "method-wrapper")=true:=by
  rcases hk with rfl|rfl<;>decide
 have e2:(Value.type kind != Value.type "method")=true:=by
  rcases hk with rfl|rfl<;>decide
 show wpAny _ _ (if (Value.type kind == Value.type "method" || Value.type kind == Value.type "builtin_function_or_method" || Value.type kind == Value.type "method-wrapper")=true then _ else _) _ _ _
 with_reducible refine wi_pos e1 ?_
 show wpAny _ _ (if (Value.type kind != Value.type "method")=true then _ else _) _ _ _
 with_reducible refine wi_pos e2 ?_
 refine wpAny_bind (hc _ _ _ ?_)
 refine wpAny_pure ⟨plainId_quiet hp _,codeAny_builtin he ?_⟩
 rw [Around.under_plainId hp]
 refine wpAny_mono h (fun fin s' z=>?_) fun _ _ z=>z
 cases fin with
 | done f=>cases f<;>exact z
 | again c=>exact z.elim
noncomputable abbrev FinTo (Q:Value→Shared→Prop) (fin:Fin) (s':Shared):Prop:=match fin with | .done (.ret v)=>Q v s'|_=>False
private theorem b_len {Q:Value→Shared→Prop} (hx:s.heap.get? x=some (accO dx its n)) (h:Q (.int its.length s.toks) { s with toks:=s.toks+1 }) :
  wpAny (model prog w) A (Builtin.«list.__len__» ⟨[.ref x],[]⟩) (FinTo Q) E s:=by
 unfold Builtin.«list.__len__»
 refine wpAny_bind (wpAny_of_eq (show _=pure (Value.ref x,([]:List Value)) from rfl) ?_)
 dsimp only
 refine wpAny_bind ?_
 unfold seqSize
 refine wpAny_bind (wpAny_loadPart hx ?_)
 refine wpAny_pure ?_
 rw [List.size_toArray]
 unfold retInt
 exact wpAny_bind (wpAny_mkInt (wpAny_pure h))
private theorem b_pop {v:Value} {Q:Value→Shared→Prop} (hx:s.heap.get? x=some (accO dx (its++[v]) n)) (hz:its.length≤1000)
  (h:Q v { s with heap:=s.heap.update x (Obj.mapSeq (·.eraseIdxIfInBounds its.length)) }) :
  wpAny (model prog w) A (Builtin.«list.pop» ⟨[.ref x],[]⟩) (FinTo Q) E s:=by
 unfold Builtin.«list.pop»
 refine wpAny_bind (wpAny_of_eq (show _=pure (Value.ref x,([]:List Value)) from rfl) ?_)
 dsimp only
 refine wpAny_bind (wpAny_pure ?_)
 with_reducible refine wi_neg (by decide +kernel) ?_
 refine wpAny_bind ?_
 show wpAny _ _ (Builtin.List.listItems (Value.ref x)) _ _ _
 unfold Builtin.List.listItems
 refine wpAny_bind (wpAny_seqItems hx rfl (wpAny_pure ?_))
 have e0:((its++[v]).toArray).isEmpty=false:=by simp
 have e1:(seqIndex? (-1) ((its++[v]).toArray).size)=some its.length:=by
  unfold seqIndex?
  simp
  lia -abstractProof
 have e2:((its++[v]).toArray)[its.length]?=some v:=by simp
 rw [e0,if_neg (by decide +kernel),e1,Option.bind_some,e2,Option.map_some]
 dsimp only
 refine wpAny_bind ?_
 unfold Builtin.List.listUpdate
 refine wpAny_updateSeq hx rfl (wpAny_pure h) ?_ ?_
 ·rw [List.size_toArray,sizeLine_eq];simp;lia -abstractProof
 ·rw [sizeLine_eq];simp [Array.eraseIdxIfInBounds];have h9:=List.length_eraseIdx_le (its++[v]) its.length;simp at h9;lia -abstractProof
private theorem b_init {Q:Value→Shared→Prop} (hx:s.heap.get? x=some (accO dx its n)) (hz:its.length≤1000)
  (h:Q .none { s with heap:=s.heap.update x (Obj.mapSeq fun _=>#[]) }) :
  wpAny (model prog w) A (Builtin.«list.__init__» ⟨[.ref x],[]⟩) (FinTo Q) E s:=by
 unfold Builtin.«list.__init__»
 dsimp only
 with_reducible refine wi_neg (by decide +kernel) ?_
 with_reducible refine wi_neg (by decide +kernel) ?_
 unfold Builtin.List.listItems Builtin.List.listUpdate
 refine wpAny_bind (wpAny_bind (wpAny_seqItems hx rfl (wpAny_pure ?_)))
 refine wpAny_bind ?_
 refine wpAny_updateSeq hx rfl (wpAny_bind (wpAny_letGo (wpAny_pure h))) ?_ ?_
 ·rw [List.size_toArray,sizeLine_eq];lia -abstractProof
 ·rw [sizeLine_eq];simp
end
end Mine
end
section
open PySem PySem.W PyProof.Rows PySem.Flt PySem.Calls
namespace Mine
private theorem ln_kind:builtinKind "list.__new__" = some .builtinFn:=by decide +kernel
private theorem ln_split:splitId "list.__new__" = some ("list", "__new__"):=by decide +kernel
private theorem ln_args0 (a:Value):argsOk "list.__new__" ⟨[a],[]⟩:=by unfold argsOk;kernel_rfl
private theorem ln_args1 (a b:Value):argsOk "list.__new__" ⟨[a,b],[]⟩:=by unfold argsOk;kernel_rfl
noncomputable def makesIn9 (K:Frag) (C:Addr):Bool:=match K.lookup C with
 | some ⟨_,_,.cls cd,sl⟩=>!cd.abstract && !cd.hasDel && (sl.toList[4]?).join == some (.builtin "list.__new__") && !cd.mro.isEmpty && cd.mro.contains (.ref C) && cd.mro.contains (.type "list") &&
   specialIn K (.ref C) "__call__" == some (some (.builtin "type.__call__")) && instIn K (.ref C) (.type "type") == some true
 | _=>false
structure Makes9 (M:Model) (h:Heap) (C:Addr):Prop where
 obj:∃ oc od cd sl,h.get? C=some ⟨oc,od,.cls cd,sl⟩∧cd.abstract=false∧cd.hasDel=false∧cd.mro.isEmpty=false
 made:Looks M h (Bind.madeBy (.ref C)) (some "list.__new__")
 base:Looks M h (Bind.staticBase (.ref C)) (.ref C)
 self:Looks M h (isSubtype (.ref C) (.ref C)) true
 top:Looks M h (isSubtype (.ref C) (.type "list")) true
 call:Looks M h (specialOf (.ref C) "__call__") (some (.builtin "type.__call__"))
 typ:Looks M h (isInstance (.ref C) (.type "type")) true
private theorem makes_of9 {K:Frag} {M:Model} {h:Heap} (X:K.In h) {C:Addr} (e:makesIn9 K C=true):Makes9 M h C:=by
 unfold makesIn9 at e
 split at e
 ·rename_i oc od cd sl ho
  simp only [Bool.and_eq_true,Bool.not_eq_true',beq_iff_eq] at e
  obtain ⟨⟨⟨⟨⟨⟨⟨e1,e2⟩,e3⟩,e4⟩,e5⟩,e6⟩,e7⟩,e8⟩:=e
  have hc:clsIn K C=some cd:=by unfold clsIn;rw [ho]
  have hm:Looks M h (mroOf (.ref C)) cd.mro:=(looks_clsIn X hc).andThen .now
  obtain ⟨c,l,hl⟩:∃ c l,cd.mro=c::l:=by cases q:cd.mro with|nil=>rw [q] at e4;cases e4|cons c l=>exact ⟨c,l,rfl⟩
  have made:Looks M h (Bind.madeBy (.ref C)) (some "list.__new__"):=by
   intro A Q E s k q
   unfold Bind.madeBy
   refine wpAny_bind (hm A _ E s k ?_)
   rw [hl,List.forIn_cons]
   refine wpAny_bind (wpAny_bind (wpAny_bind (wpAny_bind (wpAny_loadPart (k _ _ (X _ _ ho)) (wpAny_pure ?_)))))
   dsimp only
   rw [← Array.getElem?_toList,e3]
   exact wpAny_pure (wpAny_pure (wpAny_pure q))
  refine ⟨⟨oc,od,cd,sl,X _ _ ho,e1,e2,e4⟩,made,?_,looks_mroIn X ?_,looks_mroIn X ?_,looks_specialIn X e7,looks_instIn X e8⟩
  ·intro A Q E s k q
   unfold Bind.staticBase
   refine wpAny_bind (hm A _ E s k ?_)
   rw [hl,List.forIn_cons]
   exact wpAny_bind (wpAny_bind (wpAny_bind (made A _ E s k (wpAny_pure (wpAny_pure (wpAny_pure q))))))
  ·unfold mroIn;rw [hc,Option.bind_some,if_neg (by rw [e4];decide),e5]
  ·unfold mroIn;rw [hc,Option.bind_some,if_neg (by rw [e4];decide),e6]
 ·cases e
section
variable {prog:Program} {w:World} {A:Around} {K:Frag} {R:Result→Shared→Prop} {h:Heap} {g:Array GenState} {d:Drawn} {t:Nat} {os:OsState}
private theorem new_K9 {rest:List Value} (Y:Makes9 (model prog w) h 136) (ha:argsOk "list.__new__" ⟨.ref 136::rest,[]⟩)
  (hq:R (.ok (.ret (.ref (h.objs.size+1)))) ⟨(h.push emptyDict).push (accO h.objs.size [] 0),g,d,t,os⟩) :
  codeAny (model prog w) A (.call (.builtin "list.__new__") ⟨.ref 136::rest,[]⟩) R ⟨h,g,d,t,os⟩:=by
 obtain ⟨⟨oc,od,cd,sl,hC,e1,e2,e4⟩,made,base,self,top,call,typ⟩:=Y
 refine codeAny_call_builtin_code (Code.quiet_builtin _ (by decide +kernel)) ?_
 unfold checkBuiltinCall
 rw [ln_kind,ln_split]
 unfold isType
 with_reducible refine wi_pos (by decide +kernel) ?_
 refine wpAny_bind ?_
 refine wpAny_bind (wpAny_loadPart hC (wpAny_pure ?_))
 dsimp only
 with_reducible refine wi_neg (by decide +kernel) ?_
 refine wpAny_bind (top.at ?_)
 with_reducible refine wi_neg (by decide +kernel) ?_
 refine wpAny_bind (base.at ?_)
 refine wpAny_bind (made.at ?_)
 dsimp only
 with_reducible refine wi_neg (by decide +kernel) ?_
 have fin:codeAny (model prog w) A (Code.builtin "list.__new__" { pos:=Value.ref 136::rest }) R ⟨h,g,d,t,os⟩:=by
  refine codeAny_builtin_stack PySem.F.entry_list_new rfl fun p st=>?_
  have hown:=owner_list_new
  dsimp only
  rw [hown]
  unfold isType
  refine wpAny_bind (wpAny_bind (wpAny_loadPart hC (wpAny_pure ?_)))
  dsimp only
  with_reducible refine wi_neg (by decide +kernel) ?_
  refine wpAny_bind (top.at ?_)
  with_reducible refine wi_neg (by decide +kernel) ?_
  refine wpAny_bind (wpAny_pure ?_)
  with_reducible refine wi_neg (by decide +kernel) ?_
  have hC':=Heap.get?_push_of_some emptyDict hC
  have hC2:=Heap.get?_push_of_some (accO h.objs.size [] 0) hC'
  refine wpAny_bind ?_
  unfold newDict
  refine wpAny_newObj_type ?_
  refine wpAny_bind ?_
  show wpAny _ _ (newObjAsIs _ _ _) _ _ _
  unfold newObjAsIs classHasDel
  refine wpAny_bind (wpAny_alloc (wpAny_bind (wpAny_bind (wpAny_load hC2 (wpAny_pure ?_)))))
  rw [e2]
  refine wpAny_pure (wpAny_pure ?_)
  rw [Heap.size_push]
  exact hq
 cases hsig:Manifest.signature? "list.__new__" with
 | none=>exact wpAny_pure fin
 | some sig=>
  unfold argsOk at ha
  rw [hsig] at ha
  have h2:Bind.checkArgs "list.__new__" sig ⟨.ref 136::rest,[]⟩=pure ():=ha
  show wpAny _ _ (Bind.checkArgs "list.__new__" sig ⟨.ref 136::rest,[]⟩) _ _ _
  rw [h2]
  exact wpAny_pure fin
private theorem make_core9 {rest:List Value} {init:Value} (Y:Makes9 (model prog w) h 136) (ha:argsOk "list.__new__" ⟨.ref 136::rest,[]⟩) (hi:Looks (model prog w) h (typeLookup (.ref 136) "__init__") (some init))
  (hb:∀ self,Looks (model prog w) h (bindSpecial init self) (init,[self]))
  (hq:codeAny (model prog w) (A.under (.builtin "type.__call__" ⟨.ref 136::rest,[]⟩)) (.call init ⟨.ref (h.objs.size+1)::rest,[]⟩) (InitBack (h.objs.size+1) R) ⟨(h.push emptyDict).push (accO h.objs.size [] 0),g,d,t,os⟩) :
  codeAny (model prog w) A (.call (.ref 136) ⟨rest,[]⟩) R ⟨h,g,d,t,os⟩:=by
 have Y':=Y
 obtain ⟨⟨oc,od,cd,sl,hC,e1,e2,e4⟩,made,base,self,top,call,typ⟩:=Y
 refine codeAny_of_tree ?_
 show wpAny _ _ (callAny (.ref 136) _) _ _ _
 refine nd_load hC ?_
 show wpAny _ _ (callAny.viaDunder (.ref 136) _) _ _ _
 unfold callAny.viaDunder
 refine wpAny_bind (call.at ?_)
 dsimp only
 rw [tc_bind]
 refine wpAny_bind (wpAny_pure (wpAny_bind (wpAny_pure ?_)))
 refine wpAny_pure (a:=Fin.again (.call (.builtin "type.__call__") ⟨.ref 136::rest,[]⟩)) (And.intro rfl ?_)
 refine codeAny_call_builtin_at (Code.quiet_builtin _ (by decide +kernel)) entry_typeCall ?_
 with_reducible refine check_slot tc_kind tc_split typ (tc_args _ _ _) ?_
 unfold Builtin.«type.__call__»
 have hm:Looks (model prog w) h (mroOf (.ref 136)) cd.mro:=((Looks.ld (part:=none) hC).andThen .now).andThen .now
 repeat (first|simp -iota only [e4,Bool.false_eq_true,if_false]|with_reducible refine wpAny_call ?_|lk)
 refine new_K9 Y' ha ?_
 have k:∀ b o,h.get? b=some o→((h.push emptyDict).push (accO h.objs.size [] 0)).get? b=some o:=fun b o e=>Heap.get?_push_of_some _ (Heap.get?_push_of_some _ e)
 have hx:((h.push emptyDict).push (accO h.objs.size [] 0)).get? (h.objs.size+1)=some (accO h.objs.size [] 0):=by heap_get
 have t1:Looks (model prog w) ((h.push emptyDict).push (accO h.objs.size [] 0)) (typeOf (.ref (h.objs.size+1))) (.ref 136):=(Looks.ld hx).andThen .now
 have s1:=self.keeps k
 have i1:=hi.keeps k
 have b1:=(hb (.ref (h.objs.size+1))).keeps k
 unfold isInstance callSpecial? specialOf
 repeat (first|with_reducible refine wpAny_call ?_|lk)
 refine codeAny_mono hq fun r s' z=>?_
 rcases r with e|(v|_|_|_)<;>first|exact z|exact z.elim|skip
 obtain ⟨rfl,z⟩:=z
 exact wpAny_pure (wpAny_pure z)
end
section
variable {prog:Program} {w:World} {A:Around} {K:Frag} {x:Addr} {s:Shared} {h₀:Heap} {L:Addr} {m:Str→Option Value} {news:List (Addr × Obj)} {R:Result→Shared→Prop}
private theorem make_K9 {rest:List Value} {fI:Addr} (F:Fr h₀ L s.heap m) (N:News h₀ L s.heap news) (X:K.In s.heap) (ha:argsOk "list.__new__" ⟨.ref 136::rest,[]⟩) (hm:makesIn9 K 136=true)
  (hi:findIn K (.ref 136) "__init__" = some (some (.ref fI))) (hf:typeIn K (.ref fI)=some (.type "function"))
  (h:∀ x dx h',Fr h₀ L h' m→News h₀ L h' ((x,accO dx [] 0)::(dx,emptyDict)::news)→(∀ p∈news,p.1<dx)→dx<x →
   codeAny (model prog w) (A.under (.builtin "type.__call__" ⟨.ref 136::rest,[]⟩)) (.call (.ref fI) ⟨.ref x::rest,[]⟩) (InitBack x R) { s with heap:=h' }) :
  codeAny (model prog w) A (.call (.ref 136) ⟨rest,[]⟩) R s:=by
 obtain ⟨hh,g,d,t,os⟩:=s
 refine make_core9 (makes_of9 X hm) ha (looks_findIn X hi) (fun self=>bind_fn X self hf) (h _ hh.objs.size _ ((F.push _).push _) ?_ (fun p hp=>Heap.lt_size (N p hp).1) (Nat.lt_succ_self _))
 have:=(N.push F emptyDict).push (F.push _) (accO hh.objs.size [] 0)
 rwa [Heap.size_push] at this
end
end Mine
end
section
open PySem PySem.W PyProof.Rows PySem.Flt PySem.Calls PySem.Builtin.ObjectAttr
namespace Mine
private theorem lga_kind:builtinKind "list.__getattribute__" = some .slot:=by decide +kernel
private theorem lga_split:splitId "list.__getattribute__" = some ("list", "__getattribute__"):=by decide +kernel
private theorem lga_entry:entryFor table "list.__getattribute__" = some Builtin.«object.__getattribute__»:=
 PySem.am_entry_list_getattribute
private theorem lga_args (a b:Value):argsOk "list.__getattribute__" ⟨[a,b],[]⟩:=PySem.F.args_list_getattribute_2 a b
section
variable {prog:Program} {w:World} {A:Around} {E:Value→Shared→Prop} {s:Shared} {K:Frag} {x dx:Addr} {its:List Value} {n:Nat} {od:Option Obj} {ox:Obj}
private theorem get_own9 {expr:Bool} {name:PySem.Str} {v:Value} {Q:Value→Shared→Prop} (X:K.In s.heap) (I:InstAt s.heap x ox 136 od)
  (hga:findIn K (.ref 136) "__getattribute__" = some (some (.builtin "list.__getattribute__"))) (hk:findIn K (.ref 136) "__getattr__" = some none) (hsub:subIn K (.ref 136) (.type "list")=some true)
  (hf:findObj K 136 od name=some (.value v)) (hh:handedIn v=true) (h:Q v { s with toks:=s.toks+1 }):wpAny (model prog w) A (getAttr (.ref x) name expr) Q E s:=by
 have L0:=I.type (M:=model prog w)
 have L1:=looks_find (M:=model prog w) X I hf
 have Lg:=looks_findIn (M:=model prog w) X hga
 have Lk:=looks_findIn (M:=model prog w) X hk
 have Li:Looks (model prog w) s.heap (isInstance (.ref x) (.type "list")) true:=L0.andThen (looks_subIn X hsub)
 obtain ⟨hh',g,d,t,os⟩:=s
 unfold getAttr getAttrBy
 refine wpAny_bind (wpAny_mkText (wpAny_holding (wpAny_bind (L0.at (wpAny_bind (Lg.at ?_))))))
 dsimp only
 with_reducible refine wi_neg (by decide +kernel) ?_
 unfold getAttrByItsOwn
 refine wpAny_bind ?_
 show wpAny _ _ (typeLookup (.ref 136) "__getattr__") _ _ _
 refine Lk.at (wpAny_bind (wpAny_attempt (wpAny_holding ?_)))
 have eb:callGetattribute (.ref x) (.str name t) (.builtin "list.__getattribute__") expr=boundAndCalled (.builtin "list.__getattribute__") (.ref x) (.str name t):=by
  unfold callGetattribute
  rw [if_neg]
  show ¬ (expr && false)=true
  simp
 rw [eb]
 unfold boundAndCalled
 refine wpAny_bind (wpAny_of_eq (PySem.F.slot_list_getattribute.bind _) ?_)
 dsimp only [List.cons_append,List.nil_append]
 have hc:wpAny (model prog w) A (call (.builtin "list.__getattribute__") [.ref x,.str name t]) (fun r s'=>r=v∧s'=⟨hh',g,d,t+1,os⟩) (fun _ _=>False) ⟨hh',g,d,t+1,os⟩:=by
  refine call_bi (id := "list.__getattribute__") (b:=Builtin.«object.__getattribute__») (by decide +kernel) lga_entry ?_ ?_
  ·intro A' Q' E' q
   exact check_slot (s:=⟨hh',g,d,t+1,os⟩) (i := "list.__getattribute__") (self:=.ref x) (rest:=[.str name t]) (kw:=[]) lga_kind lga_split Li (lga_args _ _) q
  ·unfold Builtin.«object.__getattribute__»
   refine wpAny_bind (wpAny_of_eq (show _=pure (Value.ref x,[Value.str name t]) from rfl) ?_)
   refine wpAny_bind (wpAny_pure ?_)
   refine wpAny_bind (L0.at (wpAny_bind (L1.at ?_)))
   exact wpAny_pure ⟨rfl,rfl⟩
 refine wpAny_mono hc (fun r s' hv=>?_) fun _ _ z=>z.elim
 obtain ⟨rfl,rfl⟩:=hv
 rw [handedOut_of hh]
 exact wpAny_pure h
end
end Mine
end
section
open PySem PySem.W PyProof.Rows PySem.Flt PySem.Calls PySem.Builtin.ObjectAttr
namespace Mine
private theorem refuse9 (self:Value):refuseLoop self "__setattr__" [.type "list", .type "object"]=pure ():=by kernel_rfl
noncomputable def mro9 (K:Frag) (C:Addr):Bool:=(clsIn K C).any fun cd=>cd.mro == [.ref C,.type "list", .type "object"]
section
variable {prog:Program} {w:World} {A:Around} {E:Value→Shared→Prop} {R:Result→Shared→Prop} {s:Shared} {K:Frag} {x dx C L:Addr} {h₀:Heap} {m:Str→Option Value} {news news':List (Addr × Obj)} {ox od:Obj} {es es':List DictEntry} {n n':Nat} {name:Str} {v:Value}
private theorem osa_open9 {od:Option Obj} {tk:Tok} {r:Option Value} (X:K.In s.heap) (I:InstAt s.heap x ox C od) (hp:mro9 K C=true) (ht:takerIn K C name=some r)
  (h:∀ b,wpAny (model prog w) A.in1 (match r with|some a=>setByDescriptor a (.ref x) v|none=>storeInOwnDict (.ref x) (.ref C) (.str name tk) name v b)
   (fun fin s'=>match fin with | .done f=>R (.ok f) s' | .again c'=>c'.quiet=true∧codeAny (model prog w) A c' R s') (fun e s'=>R (.error e) s') s) :
  codeAny (model prog w) A (.call (.builtin "object.__setattr__") ⟨[.ref x,.str name tk,v],[]⟩) R s:=by
 have SF:=PySem.F.store_object
 obtain ⟨cd,hc,ho⟩:=any_some hp
 have ho:=beq_iff_eq.mp ho
 have sub:Looks (model prog w) s.heap (isInstance (.ref x) (.type "object")) true:=I.type.andThen (looks_mroIn X (by unfold mroIn;rw [hc,Option.bind_some,ho,if_neg (by simp)];simp))
 refine codeAny_call_builtin SF.slot.plain SF.entry (@check_slot (model prog w) _ _ s "object.__setattr__" "object" "__setattr__" (.ref x) [.str name tk,v] [] _ SF.kind SF.split sub (SF.args (.ref x) (.str name tk) v) ?_)
 obtain ⟨attr,ha,hr⟩:=Option.bind_eq_some_iff.mp ht
 have hm:Looks (model prog w) s.heap (mroOf (.ref C)) cd.mro:=(looks_clsIn X hc).andThen .now
 have L3:Looks (model prog w) s.heap (storeTaker? attr) r:=by
  cases attr with
  | none=>cases hr;exact .now
  | some a=>
   obtain ⟨b,hb,rfl⟩:=Option.map_eq_some_iff.mp hr
   refine (looks_takesIn X hb).andThen ?_
   cases b<;>exact .now
 rw [osa_eq,refuse_eq]
 refine wpAny_bind (wpAny_bind (I.type.here (wpAny_bind (hm.here ?_))))
 rw [ho,refuseLoop_ref,refuse9]
 refine wpAny_pure (wpAny_bind (I.type.here (wpAny_bind ((looks_findIn X ha).here (wpAny_bind (L3.here ?_))))))
 exact h _
private theorem osa_dict9 {od':Obj} {tk:Tok} {pre post:List (Addr × Obj)} (F:Fr h₀ L s.heap m) (N:News h₀ L s.heap (pre++(dx,od)::post)) (X:K.In s.heap)
  (I:InstAt s.heap x ox C (some od)) (hd:ox.dict=some dx) (hp:mro9 K C=true) (ht:takerIn K C name=some none) (hh:(clsIn K C).any (·.hasDict)=true)
  (hl:(lookIn name od).isSome=true) (h1:∀ p∈pre,p.1≠dx) (h2:∀ p∈post,p.1≠dx)
  (e:Obj.putName name (PyData.keyHash w.params name) (.str name s.toks) v od=od') (e':od'.data = .dict es.toArray n) (hz:es.length≤1000)
  (h:∀ h',Fr h₀ L h' m→News h₀ L h' (pre++(dx,od')::post)→R (.ok (.ret .none)) { s with heap:=h',toks:=s.toks+1 }) :
  codeAny (model prog w) A (.call (.builtin "object.__setattr__") ⟨[.ref x,.str name tk,v],[]⟩) R s:=by
 refine osa_open9 X I hp ht fun b=>?_
 obtain ⟨cd,hc,hd'⟩:=any_some hh
 obtain ⟨U1,U2⟩:=news_upd (f:=Obj.putName name (PyData.keyHash w.params name) (.str name s.toks) v) F N h1 h2 e (by obtain ⟨_,_,dd,_⟩:=od';cases e';rfl)
 have D:=(N (dx,od) (by simp)).1
 have D':=(U2 (dx,od') (by simp)).1
 obtain ⟨hx,hcl,hn,-⟩:=I
 obtain ⟨oc,odi,oda,osl⟩:=ox
 dsimp only at hcl hd
 subst hcl hd
 refine wpAny_bind (wpAny_pure (wpAny_bind (wpAny_bind (wpAny_loadPart hx (wpAny_bind ((looks_clsIn X hc).here ?_))))))
 rw [hd']
 refine wpAny_pure (a:=some dx) (wpAny_bind (wpAny_pure (wpAny_bind ?_)))
 unfold nsSet
 refine wpAny_bind (wpAny_bind (wpAny_askSetting (wpAny_pure (wpAny_bind (wpAny_mkText (wpAny_bind (wpAny_loadPart D ?_)))))))
 unfold lookIn at hl
 split at hl
 ·rename_i es₀ n₀ q
  rw [q]
  dsimp only
  have c:(!es₀.any (·.key.isStr name) && es₀.any (·.refKey))=false:=by
   rw [← Array.any_toList,←Array.any_toList]
   split at hl
   ·rename_i en he
    rw [List.any_eq_true.mpr ⟨en,List.mem_of_find?_eq_some he,List.find?_some he⟩];rfl
   ·split at hl
    ·cases hl
    ·rename_i z;rw [Bool.not_eq_true] at z;rw [z,Bool.and_false]
  rw [aRefKeyMayBeTheName_at,c]
  refine wpAny_updatePart D ?_
  refine wpAny_bind (wpAny_lookBehind D' (by rw [e'];exact pastItsLine_dict (by rw [List.size_toArray,sizeLine_eq];lia -abstractProof)) ?_)
  exact wpAny_pure (h _ U1 U2)
 ·cases hl
private theorem set_dict9 {Q:Unit→Shared→Prop} (F:Fr h₀ L s.heap m) (X₀:K.In h₀) (N:News h₀ L s.heap news) (I:InstAt s.heap x ox C (some (dictOf es n))) (hd:ox.dict=some dx)
  (hs:findIn K (.ref C) "__setattr__" = some (some (.builtin "object.__setattr__"))) (hp:mro9 K C=true) (ht:takerIn K C name=some none) (hh:hasDictIn K C=true) (hl:(getL name es).isSome=true)
  (e:(putL name (PyData.keyHash w.params name) (.str name (s.toks+1)) v es,putN name es n)=(es',n')) (U:Upd dx (dictOf es n) (dictOf es' n') news news') (hz:es'.length≤1000)
  (h:∀ h',Fr h₀ L h' m→News h₀ L h' news'→Q () { s with heap:=h',toks:=s.toks+2 }) :
  wpAny (model prog w) A (setAttr (.ref x) name v) Q E s:=by
 refine goalP fun G9 hG9=>?_
 obtain ⟨pre,post,rfl,rfl,a,b⟩:=U.split
 refine hG9 ?_
 clear hG9
 obtain ⟨e1,e2⟩:=Prod.mk.inj e
 exact set_plain (X₀.keeps F.keep) I hs (osa_dict9 (s:={ s with toks:=s.toks+1 }) F N (X₀.keeps F.keep) I hd hp ht hh (by show (lookIn name (dictOf es n)).isSome=true;rw [lookIn_dict];exact hl) a b (by rw [putName_dict,e1,e2]) rfl hz fun h' F' N'=>h h' F' N')
end
end Mine
end
section
open PySem PySem.W PyProof.Rows PySem.Flt PySem.Calls PySem.Builtin.ObjectAttr
namespace Mine
private theorem type_li:∀ s':Shared,s'.TypeIs (.builtin "list.__init__") "wrapper_descriptor" := fun _=>(show typeOf (.builtin "list.__init__")=pure (.type "wrapper_descriptor") from by kernel_rfl)
private theorem type_ll:∀ s':Shared,s'.TypeIs (.builtin "list.__len__") "wrapper_descriptor" := fun _=>(show typeOf (.builtin "list.__len__")=pure (.type "wrapper_descriptor") from by kernel_rfl)
private theorem type_lp:∀ s':Shared,s'.TypeIs (.builtin "list.pop") "method_descriptor" := fun _=>(show typeOf (.builtin "list.pop")=pure (.type "method_descriptor") from by kernel_rfl)
section
variable {prog:Program} {w:World} {A:Around} {E:Value→Shared→Prop} {s:Shared} {h₀:Heap} {L:Addr} {m mg mb:Str→Option Value} {news:List (Addr × Obj)} {K:Frag} {x so dx:Addr} {its:List Value} {n:Nat} {odx:Obj}
private theorem sup_K {name:Str} {T gid id kind:String} {b:Builtin} {pl:Sem Bool} {Q:Value × List Value→Shared→Prop} (F:Fr h₀ L s.heap m) (X₀:K.In h₀) (N:News h₀ L s.heap news) (hso:(so,ks_superObj 136 x 136)∈news) (hx:s.heap.get? x=some (accO dx its n)) (hdx:s.heap.get? dx=some odx)
  (ho:nsIn K cStatics "thirdparty.any" = some none) (hm:ks_superIn K 136 136 name=some (some (.builtin id)))
  (sg:Slot T "__get__" gid) (hT:∀ s':Shared,s'.TypeIs (.builtin id) T) (eg:entryFor table gid=some b) (ag:argsOk gid ⟨[.builtin id,.ref x,.ref 136],[]⟩)
  (hb:∀ (t':Nat) (A':Around) (E':Value→Shared→Prop) (Q':Fin→Shared→Prop),Q' (.done (.ret (.ref s.heap.objs.size))) ⟨s.heap.push (bndO kind id x),s.gens,s.drawn,t',s.os⟩→wpAny (model prog w) A' (b ⟨[.builtin id,.ref x,.ref 136],[]⟩) Q' E' ⟨s.heap,s.gens,s.drawn,t',s.os⟩)
  (hn:(name == ("__class__" : Str))=false)
  (h:∀ q h',Fr h₀ L h' m→News h₀ L h' ((q,bndO kind id x)::news)→(∀ p∈news,p.1<q)→Q (.ref q,[]) { s with heap:=h',toks:=s.toks+1 }):wpAny (model prog w) A (getMethod (.ref so) name pl) Q E s:=by
 have X:K.In s.heap:=X₀.keeps F.keep
 obtain ⟨hh,g,d,t,os⟩:=s
 cases hc:clsIn K 136 with
 | none=>unfold ks_superIn at hm;rw [hc] at hm;cases hm
 | some cd=>
  unfold ks_superIn at hm
  rw [hc] at hm
  refine sup_meth (N _ hso).1 (looks_opaque X ho) (l₀:=cd.mro) ?_ rfl X hm sg hT eg ag hb (ks_ne X (acc_inst hx hdx) hc) hn ?_
  ·exact fun A Q E s k q=>wpAny_bind ((looks_clsIn X hc) A _ E s k (wpAny_pure q))
  ·obtain ⟨F',N',l'⟩:=ks_newsPush (s:=⟨hh,g,d,t,os⟩) (o:=bndO kind id x) F N rfl (Heap.get?_push_at rfl rfl) (fun b o e=>Heap.get?_push_of_some _ e)
   exact h _ _ F' N' l'
private theorem cut_li:(let parts:=("list.__init__" : String).cutAt '.';((pure (Str.ofString (parts.getLastD ""),Value.type (".".intercalate parts.dropLast)):Sem (PySem.Str × Value))))=pure (Str.ofString "__init__", Value.type "list"):=by kernel_rfl
private theorem cut_ll:(let parts:=("list.__len__" : String).cutAt '.';((pure (Str.ofString (parts.getLastD ""),Value.type (".".intercalate parts.dropLast)):Sem (PySem.Str × Value))))=pure (Str.ofString "__len__", Value.type "list"):=by kernel_rfl
private theorem sup_init {pl:Sem Bool} {Q:Value × List Value→Shared→Prop} (F:Fr h₀ L s.heap m) (X₀:K.In h₀) (N:News h₀ L s.heap news) (hso:(so,ks_superObj 136 x 136)∈news) (hx:s.heap.get? x=some (accO dx its n)) (hdx:s.heap.get? dx=some odx)
  (ho:nsIn K cStatics "thirdparty.any" = some none) (hm:ks_superIn K 136 136 "__init__" = some (some (.builtin "list.__init__"))) (hsub:subIn K (.ref 136) (.type "list")=some true)
  (h:∀ q h',Fr h₀ L h' m→News h₀ L h' ((q,bndO "method-wrapper" "list.__init__" x)::news)→(∀ p∈news,p.1<q)→Q (.ref q,[]) { s with heap:=h',toks:=s.toks+1 }):wpAny (model prog w) A (getMethod (.ref so) "__init__" pl) Q E s:=
 sup_K F X₀ N hso hx hdx ho hm slot_wd_get type_li entry_wd_get (args_wd_get _ _ _) (fun t' A' E' Q' q=>wd_get (acc_isList (X₀.keeps F.keep) hx hsub) cut_li q) (by decide +kernel) h
private theorem sup_len {pl:Sem Bool} {Q:Value × List Value→Shared→Prop} (F:Fr h₀ L s.heap m) (X₀:K.In h₀) (N:News h₀ L s.heap news) (hso:(so,ks_superObj 136 x 136)∈news) (hx:s.heap.get? x=some (accO dx its n)) (hdx:s.heap.get? dx=some odx)
  (ho:nsIn K cStatics "thirdparty.any" = some none) (hm:ks_superIn K 136 136 "__len__" = some (some (.builtin "list.__len__"))) (hsub:subIn K (.ref 136) (.type "list")=some true)
  (h:∀ q h',Fr h₀ L h' m→News h₀ L h' ((q,bndO "method-wrapper" "list.__len__" x)::news)→(∀ p∈news,p.1<q)→Q (.ref q,[]) { s with heap:=h',toks:=s.toks+1 }):wpAny (model prog w) A (getMethod (.ref so) "__len__" pl) Q E s:=
 sup_K F X₀ N hso hx hdx ho hm slot_wd_get type_ll entry_wd_get (args_wd_get _ _ _) (fun t' A' E' Q' q=>wd_get (acc_isList (X₀.keeps F.keep) hx hsub) cut_ll q) (by decide +kernel) h
private theorem sup_pop {pl:Sem Bool} {Q:Value × List Value→Shared→Prop} (F:Fr h₀ L s.heap m) (X₀:K.In h₀) (N:News h₀ L s.heap news) (hso:(so,ks_superObj 136 x 136)∈news) (hx:s.heap.get? x=some (accO dx its n)) (hdx:s.heap.get? dx=some odx)
  (ho:nsIn K cStatics "thirdparty.any" = some none) (hm:ks_superIn K 136 136 "pop" = some (some (.builtin "list.pop"))) (hsub:subIn K (.ref 136) (.type "list")=some true)
  (h:∀ q h',Fr h₀ L h' m→News h₀ L h' ((q,bndO "builtin_function_or_method" "list.pop" x)::news)→(∀ p∈news,p.1<q)→Q (.ref q,[]) { s with heap:=h',toks:=s.toks+1 }):wpAny (model prog w) A (getMethod (.ref so) "pop" pl) Q E s:=
 sup_K F X₀ N hso hx hdx ho hm slot_md_get type_lp entry_md_get (args_md_get _ _ _) (fun t' A' E' Q' q=>md_get_pop (acc_isList (X₀.keeps F.keep) hx hsub) q) (by decide +kernel) h
end
section
variable {prog:Program} {w:World} {A:Around} {E:Value→Shared→Prop} {s:Shared} {K:Frag} {x dx:Addr} {its:List Value} {n:Nat}
private theorem chk_slot {id:String} {args:Args} {Q:Unit→Shared→Prop} (hk:builtinKind id=some .slot) (ha:argsOk id args) (q:Q () s):wpAny (model prog w) A (checkBoundCall id args) Q E s:=by
 unfold checkBoundCall
 cases hsig:Manifest.signature? id with
 | none=>exact wpAny_pure q
 | some sig=>
  simp only [argsOk,hsig] at ha
  have h2:Bind.checkArgs id sig args=pure ():=ha
  rw [hk]
  cases hp:args.pos with
  | nil=>dsimp only;rw [h2];exact wpAny_pure q
  | cons self r=>
   dsimp only
   rw [if_pos (by decide +kernel),h2]
   exact wpAny_pure q
private theorem li_kind:builtinKind "list.__init__" = some .slot:=by decide +kernel
private theorem ll_kind:builtinKind "list.__len__" = some .slot:=by decide +kernel
private theorem lp_kind:builtinKind "list.pop" = some .method:=by decide +kernel
private theorem li_args (a:Value):argsOk "list.__init__" ⟨[a],[]⟩:=PySem.F.args_list_init_1 a
private theorem ll_args (a:Value):argsOk "list.__len__" ⟨[a],[]⟩:=PySem.args_list_len a
private theorem li_entry:entryFor table "list.__init__" = some Builtin.«list.__init__»:=PySem.F.entry_list_init
private theorem ll_entry:entryFor table "list.__len__" = some Builtin.«list.__len__»:=PySem.entry_list_len
private theorem lp_entry:entryFor table "list.pop" = some Builtin.«list.pop»:=PySem.F.entry_list_pop
private theorem lp_row:Manifest.signature? "list.pop" = some ⟨.positional, "list.pop", "pop", .self,[⟨"index", .posOnly,false⟩]⟩:=by kernel_rfl
private theorem lp_check (a:Value):Bind.checkArgs "list.pop" ⟨.positional,toString "_Accumulator" ++ toString "." ++ toString (Bind.lastOf "list.pop"), "pop", .self,[⟨"index", .posOnly,false⟩]⟩ ⟨[a],[]⟩=pure ():=by kernel_rfl
private theorem chk_pop {Q:Unit→Shared→Prop} (X:K.In s.heap) (hx:s.heap.get? x=some (accO dx its n)) (hm:subIn K (.ref 136) (.type "module")=some false) (ht:typeIn K (.ref 136)=some (.type "type"))
  (hc:(clsIn K 136).map (·.qualname.toString)=some "_Accumulator") (q:Q () s):wpAny (model prog w) A (checkBoundCall "list.pop" ⟨[.ref x],[]⟩) Q E s:=by
 have L0:Looks (model prog w) s.heap (typeOf (.ref x)) (.ref 136):=(Looks.ld hx).andThen .now
 have Lm:Looks (model prog w) s.heap (isInstance (.ref x) (.type "module")) false:=L0.andThen (looks_subIn X hm)
 have Lt:Looks (model prog w) s.heap (typeOf (.ref 136)) (.type "type"):=looks_typeIn X ht
 obtain ⟨cd,hc,hq⟩:=Option.map_eq_some_iff.mp hc
 have Lc:Looks (model prog w) s.heap (classData 136) cd:=looks_clsIn X hc
 unfold checkBoundCall
 rw [lp_row,lp_kind]
 dsimp only
 with_reducible refine wi_neg (by decide +kernel) ?_
 refine wpAny_bind (Lm.here ?_)
 with_reducible refine wi_neg (by decide +kernel) ?_
 unfold isType
 refine wpAny_bind (wpAny_bind (wpAny_bind (wpAny_loadPart hx (wpAny_pure ?_))))
 refine wpAny_pure ?_
 show wpAny _ _ (if false=true then _ else _) _ _ _
 with_reducible refine wi_neg (by decide +kernel) ?_
 refine wpAny_bind (L0.here ?_)
 dsimp only
 refine wpAny_bind (Lc.here ?_)
 refine wpAny_bind (Lt.here ?_)
 rw [if_pos (by decide +kernel),hq,lp_check]
 exact wpAny_pure q
variable {h₀:Heap} {L:Addr} {m:Str→Option Value} {news news':List (Addr × Obj)}
private theorem call_llenK {q:Addr} {Q:Value→Shared→Prop} (hq:s.heap.get? q=some (bndO "method-wrapper" "list.__len__" x)) (hx:s.heap.get? x=some (accO dx its n)) (h:Q (.int its.length s.toks) { s with toks:=s.toks+1 }) :
  wpAny (model prog w) A (call (.ref q) []) Q E s:=by
 refine call_bnd hq (.inr rfl) (by decide +kernel) ll_entry ?_ (b_len hx h)
 intro A' Q' E' q
 with_reducible exact chk_slot (id := "list.__len__") ll_kind (ll_args _) q
private theorem call_linit1 {q:Addr} {Q:Value→Shared→Prop} (hq:s.heap.get? q=some (bndO "method-wrapper" "list.__init__" x))
 (h:wpAny (model prog w) A.in1 (Builtin.«list.__init__» ⟨[.ref x],[]⟩) (FinTo Q) E s):wpAny (model prog w) A (call (.ref q) []) Q E s:=by
 refine call_bnd hq (.inr rfl) (by decide +kernel) li_entry ?_ h
 intro A' Q' E' q
 with_reducible exact chk_slot (id := "list.__init__") li_kind (li_args _) q
private theorem call_lpop1 {q:Addr} {Q:Value→Shared→Prop} (hq:s.heap.get? q=some (bndO "builtin_function_or_method" "list.pop" x)) (X:K.In s.heap) (hx:s.heap.get? x=some (accO dx its n))
  (hm:subIn K (.ref 136) (.type "module")=some false) (ht:typeIn K (.ref 136)=some (.type "type")) (hc:(clsIn K 136).map (·.qualname.toString)=some "_Accumulator")
 (h:wpAny (model prog w) A.in1 (Builtin.«list.pop» ⟨[.ref x],[]⟩) (FinTo Q) E s):wpAny (model prog w) A (call (.ref q) []) Q E s:=by
 refine call_bnd hq (.inl rfl) (by decide +kernel) lp_entry ?_ h
 intro A' Q' E' q
 with_reducible exact chk_pop X hx hm ht hc q
private theorem linit_in {Q:Value→Shared→Prop} (hx:s.heap.get? x=some (accO dx [] n)) (h:Q .none { s with heap:=s.heap.update x (Obj.mapSeq fun _=>#[]) }) :
  wpAny (model prog w) A (Builtin.«list.__init__» ⟨[.ref x],[]⟩) (FinTo Q) E s:=b_init (Q:=Q) (its:=[]) (n:=n) (dx:=dx) hx (Nat.zero_le _) h
private theorem call_linitK {q:Addr} {Q:Value→Shared→Prop} (F:Fr h₀ L s.heap m) (N:News h₀ L s.heap news) (hq:s.heap.get? q=some (bndO "method-wrapper" "list.__init__" x)) (U:Upd x (accO dx [] n) (accO dx [] n) news news')
  (h:∀ h',Fr h₀ L h' m→News h₀ L h' news'→Q .none { s with heap:=h' }):wpAny (model prog w) A (call (.ref q) []) Q E s:=by
 have e:Obj.mapSeq (fun _=>#[]) (accO dx [] n)=accO dx [] n:=by simp [Obj.mapSeq]
 obtain ⟨F',N'⟩:=upd_heap F N U (f:=Obj.mapSeq fun _=>#[]) e rfl
 exact call_linit1 hq (linit_in (N _ (upd_mem U)).1 (h _ F' N'))
private theorem call_lpopK {q:Addr} {v:Value} {Q:Value→Shared→Prop} (F:Fr h₀ L s.heap m) (X₀:K.In h₀) (N:News h₀ L s.heap news) (hq:s.heap.get? q=some (bndO "builtin_function_or_method" "list.pop" x)) (U:Upd x (accO dx (its++[v]) n) (accO dx its (n+1)) news news') (hz:its.length≤1000)
  (hm:subIn K (.ref 136) (.type "module")=some false) (ht:typeIn K (.ref 136)=some (.type "type")) (hc:(clsIn K 136).map (·.qualname.toString)=some "_Accumulator")
  (h:∀ h',Fr h₀ L h' m→News h₀ L h' news'→Q v { s with heap:=h' }):wpAny (model prog w) A (call (.ref q) []) Q E s:=by
 have e:Obj.mapSeq (·.eraseIdxIfInBounds its.length) (accO dx (its++[v]) n)=accO dx its (n+1):=by
  simp [Obj.mapSeq,Array.eraseIdxIfInBounds,List.eraseIdx_append_of_length_le]
 obtain ⟨F',N'⟩:=upd_heap F N U (f:=Obj.mapSeq (·.eraseIdxIfInBounds its.length)) e rfl
 have hx:=(N _ (upd_mem U)).1
 exact call_lpop1 hq (X₀.keeps F.keep) hx hm ht hc (b_pop (Q:=Q) hx hz (h _ F' N'))
private theorem keeper_bnd {M:Model} {h:Heap} {q:Addr} {kind id:String} (hk:kind = "builtin_function_or_method" ∨ kind = "method-wrapper") (hq:h.get? q=some (bndO kind id x)):Looks M h (keeperOf (.ref q)) .machine:=by
 refine (Looks.ld (part:=none) hq).andThen ?_
 have e1:(Value.type kind == Value.type "builtin_function_or_method" || Value.type kind == Value.type "method-wrapper")=true:=by
  rcases hk with rfl|rfl<;>decide
 have e2:(Value.type kind != Value.type "method")=true:=by
  rcases hk with rfl|rfl<;>decide
 refine Looks.of_pure ?_
 dsimp only
 rw [if_pos e2,if_pos e1]
private theorem callWith_bnd0 {pos:Pos} {q:Addr} {env:Env} {kind id:String} {Q:Value→Shared→Prop} (hk:kind = "builtin_function_or_method" ∨ kind = "method-wrapper") (hq:s.heap.get? q=some (bndO kind id x))
  (h:wpAny (model prog w) A (call (.ref q) []) Q E s):wpAny (model prog w) A (callWith pos (.ref q) [] (backTo pos (starEach [] env)) []) Q E s:=by
 refine callWith_of (P:=fun h=>h.get? q=some (bndO kind id x)) (by rfl) (fun h' z=>⟨.machine,.inr (.inl rfl),keeper_bnd hk z⟩) ?_
 show wpAny _ _ (evalArgs (.ref q) true [] []) _ _ _
 unfold evalArgs
 refine wpAny_bind (wpAny_pure ?_)
 refine wpAny_bind (wpAny_pure ?_)
 refine wpAny_holding ?_
 exact wpAny_bind (wpAny_pure (wpAny_bind (wpAny_pure (wpAny_pure ⟨hq,h⟩))))
end
end Mine
end
section
open PySem PySem.W PyProof.Rows PySem.Flt PySem.Calls
namespace Mine
theorem Mkrrr:True:=by w_top off;trivial
section
variable {prog:Program} {w:World} {A:Around} {s:Shared} {K:Frag} {p:Program} {loose:List Str} {mean:ExcName→Option Value} {mg mb:Str→Option Value} {R:Result→Shared→Prop}
private theorem mut_defS {name qual:Str} {params:Arguments} {body:List Stmt} {scope:Scope} {cc:Addr} {dV kV doc pm cdv ct oc:Value} {an od:Option Addr} {osl:Array (Option Value)} {f:Addr} {args:Args} {binds:List (Str × Value)}
  (hide:List Addr) (led:List (Addr × Obj)) (hl:∀ q∈led,s.heap.get? q.1=some q.2∧q.1∈hide)
  (X:K.In (hideAll s.heap hide)) (T:Top p loose mean mg mb (hideAll s.heap hide))
  (ho:K.lookup f=some ⟨oc,od,.func (ksFn name qual params body scope dV kV doc pm an cdv ct cc),osl⟩) (hcd:codeIn K cdv qual=true) (hroom:A.depth<recursionLimit)
  (hbind:BindsTo s (ksFn name qual params body scope dV kV doc pm an cdv ct cc) args binds) (hloc:∀ y∈binds,scope.names.lookup y.1=some .local)
  (h:∀ L' h₁,Fr (hideAll s.heap hide) L' h₁ (fun y=>binds.reverse.lookup y)→News (hideAll s.heap hide) L' h₁ led →
   _root_.PySem.wpAt (model prog w) (A.deeper (ksEnv qual scope L' f cdv cc)) (.func body (ksEnv qual scope L' f cdv cc)) (execs body (ksEnv qual scope L' f cdv cc))
    (fun fl s'=>R (.ok (.ret (match fl with | .ret v=>v|_=>.none))) s') (fun _ _=>False)
    { s with heap:=h₁,toks:=s.toks+binds.length })
  (hco:scope.isCoroutine=false) (hgen:scope.isGenerator=false) (hk:scope.kind = .function)
  (hcell:∀ x∈scope.names,x.2≠.cell):codeAny (model prog w) A (.call (.ref f) args) R s:=by
 have up:∀ b o,(hideAll s.heap hide).get? b=some o→s.heap.get? b=some o:=fun b o e=>of_hideAll _ e
 refine ks_codeAny_call_defAt (fd:=ksFn name qual params body scope dV kV doc pm an cdv ct cc) (body:=body) (binds:=binds) hroom (up _ _ (X _ _ ho)) rfl (T.nolimit.keeps up) (codeRec_of (X.keeps up) hcd) rfl hbind hcell hloc (fun h₁ hns hk₁=>?_) hco hgen hk
 refine ks_wpAt_mono (h s.heap.objs.size h₁ ⟨hns,fun b o e=>hk₁ b o (up b o e),Nat.le_of_eq (hideAll_size _ _)⟩ (fun q hq=>⟨hk₁ _ _ (hl q hq).1,Nat.ne_of_lt (Heap.lt_size (hl q hq).1),hideAll_none _ (hl q hq).2⟩)) (fun _ _ x=>x) fun _ _ x=>x.elim
end
section
variable {w:World} {p:Program} {loose:List Str} {mean:ExcName→Option Value} {mg mb:Str→Option Value} {dp un:Nat} {gd:Option (List Code)} {fr:Option (List Env)} {s:Shared} {Q E:Value→Shared→Prop}
variable {A:Around} {R:Result→Shared→Prop}
noncomputable abbrev szD (hsh:Int) (tk:Tok) (k:Int) (t:Tok) (e:Nat):Obj:=dictOf [⟨hsh,.str "_initial_size" tk,.int k t⟩] e
private theorem c_initA {x dx:Addr} {k:Int} {tk:Tok}
 (X:(hd.heap_1 w.params).In (hideAll s.heap [x,dx])) (T:Top p loose mean mg mb (hideAll s.heap [x,dx])) (hd:A.depth+2<recursionLimit)
 (hx:s.heap.get? x=some (accO dx [] 0)) (hdx:s.heap.get? dx=some (dictOf [] 0)) (hne:Apart x dx)
 (hret:∀ hsh td tk' e h',ButExt [x,dx] s.heap h'→h'.get? x=some (accO dx [] 0)→h'.get? dx=some (szD hsh td k tk e)→R (.ok (.ret .none)) { s with heap:=h',toks:=tk' }) :
 codeAny (model PySem.Challenge.rw_sc0045_01.prog w) A (.call (.ref 73) ⟨[.ref x,.int k tk],[]⟩) R s:=by
 revert X
 k_fill
 intro X
 have hl9:∀ q∈[(x,accO dx [] 0),(dx,dictOf [] 0)],s.heap.get? q.1=some q.2∧q.1∈[x,dx]:=by
  intro p hp
  rcases List.mem_cons.mp hp with rfl|hp
  ·exact ⟨hx,.head _⟩
  ·rw [List.mem_singleton.mp hp];exact ⟨hdx,.tail _ (.head _)⟩
 walk_at "my enterS"
 k_steps
 rename News _ _ _ _=>N5
 exact hret _ _ _ _ _ (but_of (by assumption)) (N5.get (by k_mem)) (N5.get (by k_mem))
private theorem c_initB {x dx:Addr}
 (X:(hd.heap_1 w.params).In (hideAll s.heap [x,dx])) (T:Top p loose mean mg mb (hideAll s.heap [x,dx])) (hd:A.depth+2<recursionLimit)
 (hx:s.heap.get? x=some (accO dx [] 0)) (hdx:s.heap.get? dx=some (dictOf [] 0)) (hne:Apart x dx)
 (hret:∀ hsh td tk' e h' tk,ButExt [x,dx] s.heap h'→h'.get? x=some (accO dx [] 0)→h'.get? dx=some (szD hsh td 0 tk e)→R (.ok (.ret .none)) { s with heap:=h',toks:=tk' }) :
 codeAny (model PySem.Challenge.rw_sc0045_01.prog w) A (.call (.ref 73) ⟨[.ref x],[]⟩) R s:=by
 revert X
 k_fill
 intro X
 have hl9:∀ q∈[(x,accO dx [] 0),(dx,dictOf [] 0)],s.heap.get? q.1=some q.2∧q.1∈[x,dx]:=by
  intro p hp
  rcases List.mem_cons.mp hp with rfl|hp
  ·exact ⟨hx,.head _⟩
  ·rw [List.mem_singleton.mp hp];exact ⟨hdx,.tail _ (.head _)⟩
 walk_at "my enterS"
 k_steps
 rename News _ _ _ _=>N5
 exact hret _ _ _ _ _ _ (but_of (by assumption)) (N5.get (by k_mem)) (N5.get (by k_mem))
private theorem c_count {x dx:Addr} {its:List Value} {n e:Nat} {hsh k:Int} {td tk:Tok}
 (X:(hd.heap_1 w.params).In (hideAll s.heap [x,dx])) (T:Top p loose mean mg mb (hideAll s.heap [x,dx])) (hd:dp+2<recursionLimit)
 (hx:s.heap.get? x=some (accO dx its n)) (hdx:s.heap.get? dx=some (szD hsh td k tk e)) (hne:Apart x dx)
 (hret:∀ tk' h',ButExt [x,dx] s.heap h'→h'.get? x=some (accO dx its n)→h'.get? dx=some (szD hsh td k tk e)→∀ t,Q (.int its.length t) { s with heap:=h',toks:=tk' }) :
 wpAny (model PySem.Challenge.rw_sc0045_01.prog w) (AA dp un gd fr) (call (.ref 133) [.ref x]) Q E s:=by
 revert X
 k_fill
 intro X
 refine wpAny_call ?_
 have hl9:∀ q∈[(x,accO dx its n),(dx,szD hsh td k tk e)],s.heap.get? q.1=some q.2∧q.1∈[x,dx]:=by
  intro p hp
  rcases List.mem_cons.mp hp with rfl|hp
  ·exact ⟨hx,.head _⟩
  ·rw [List.mem_singleton.mp hp];exact ⟨hdx,.tail _ (.head _)⟩
 walk_at "my enterS"
 k_steps
 rename News _ _ _ _=>N5
 exact hret _ _ (but_of (by assumption)) (N5.get (by k_mem)) (N5.get (by k_mem)) _
end
end Mine
end
section
open PySem PySem.W PyProof.Rows PySem.Flt PySem.Calls
namespace Mine
theorem Mkrrrr:True:=trivial
section
variable {h₀ h h':Heap} {L x dx:Addr} {m:Str→Option Value} {news news':List (Addr × Obj)} {o o' od:Obj}
private theorem hide_keep {hide:List Addr} (F:Fr h₀ L h m) (N:News h₀ L h news) (hm:∀ a∈hide,∃ o,(a,o)∈news):∀ b o,h₀.get? b=some o→(hideAll h hide).get? b=some o:=by
 intro b o hb
 refine hideAll_get _ (F.keep _ _ hb) fun hi=>?_
 obtain ⟨o',ho'⟩:=hm b hi
 have e:h₀.get? b=none:=(N _ ho').2.2
 rw [hb] at e;cases e
private theorem hide_mem2 (hx:(x,o)∈news) (hd:(dx,od)∈news):∀ a∈[x,dx],∃ o,(a,o)∈news:=by
 intro a ha
 rcases List.mem_cons.mp ha with rfl|ha
 ·exact ⟨_,hx⟩
 ·rw [List.mem_singleton.mp ha];exact ⟨_,hd⟩
private theorem hide_mem1 (hx:(x,o)∈news):∀ a∈[x],∃ o,(a,o)∈news:=by
 intro a ha
 rw [List.mem_singleton.mp ha];exact ⟨_,hx⟩
private theorem but_fr {hide:List Addr} (F:Fr h₀ L h m) (N:News h₀ L h news) (hm:∀ a∈hide,∃ o,(a,o)∈news) (hb:ButExt hide h h'):Fr h₀ L h' m:=by
 obtain ⟨oL,es,ep,hL,r⟩:=F.ns
 refine ⟨⟨oL,es,ep,hb _ _ (fun hi=>?_) hL,r⟩,fun b o e=>?_,F.above⟩
 ·obtain ⟨o,ho⟩:=hm _ hi
  exact (N _ ho).2.1 rfl
 ·have:=of_hideAll hide (hide_keep F N hm b o e)
  refine hb _ _ (fun hi=>?_) this
  obtain ⟨o',ho'⟩:=hm b hi
  have e':h₀.get? b=none:=(N _ ho').2.2
  rw [e] at e';cases e'
private theorem but_same (F:Fr h₀ L h m) (N:News h₀ L h news) (hx:(x,o)∈news) (hd:(dx,od)∈news) (hb:ButExt [x,dx] h h') (hx':h'.get? x=some o) (hd':h'.get? dx=some od):Fr h₀ L h' m∧News h₀ L h' news:=by
 refine ⟨but_fr F N (hide_mem2 hx hd) hb,fun p hp=>⟨?_,(N p hp).2⟩⟩
 have hp1:=(N p hp).1
 by_cases e1:p.1=x
 ·have:=(N _ hx).1
  rw [e1] at hp1 ⊢
  rw [this] at hp1;rw [hx',hp1]
 ·by_cases e2:p.1=dx
  ·have:=(N _ hd).1
   rw [e2] at hp1 ⊢
   rw [this] at hp1;rw [hd',hp1]
  ·exact hb _ _ (by simp [e1,e2]) hp1
private theorem but_upd (F:Fr h₀ L h m) (N:News h₀ L h news) (U:Upd x o o' news news') (hd:(dx,od)∈news) (hb:ButExt [x,dx] h h') (hx':h'.get? x=some o') (hd':h'.get? dx=some od):Fr h₀ L h' m∧News h₀ L h' news':=by
 have hx:=upd_mem U
 refine ⟨but_fr F N (hide_mem2 hx hd) hb,?_⟩
 have key:∀ p∈news,p.1≠x→h'.get? p.1=some p.2:=by
  intro p hp e1
  have hp1:=(N p hp).1
  by_cases e2:p.1=dx
  ·have:=(N _ hd).1
   rw [e2] at hp1 ⊢
   rw [this] at hp1;rw [hd',hp1]
  ·exact hb _ _ (by simp [e1,e2]) hp1
 obtain ⟨pre,post,rfl,rfl,a,b⟩:=U.split
 intro p hp
 rcases List.mem_append.mp hp with hp|hp
 ·have q:=List.mem_append_left ((x,o)::post) hp
  exact ⟨key p q (a p hp),(N p q).2⟩
 ·rcases List.mem_cons.mp hp with rfl|hp
  ·exact ⟨hx',(N _ hx).2⟩
  ·have q:=List.mem_append_right pre (List.mem_cons_of_mem (x,o) hp)
   exact ⟨key p q (b p hp),(N p q).2⟩
private theorem but_upd1 (F:Fr h₀ L h m) (N:News h₀ L h news) (U:Upd x o o' news news') (hb:ButExt [x] h h') (hx':h'.get? x=some o'):Fr h₀ L h' m∧News h₀ L h' news':=by
 have hx:=upd_mem U
 refine ⟨but_fr F N (hide_mem1 hx) hb,?_⟩
 have key:∀ p∈news,p.1≠x→h'.get? p.1=some p.2:=fun p hp e1=>hb _ _ (by simp [e1]) (N p hp).1
 obtain ⟨pre,post,rfl,rfl,a,b⟩:=U.split
 intro p hp
 rcases List.mem_append.mp hp with hp|hp
 ·have q:=List.mem_append_left ((x,o)::post) hp
  exact ⟨key p q (a p hp),(N p q).2⟩
 ·rcases List.mem_cons.mp hp with rfl|hp
  ·exact ⟨hx',(N _ hx).2⟩
  ·have q:=List.mem_append_right pre (List.mem_cons_of_mem (x,o) hp)
   exact ⟨key p q (b p hp),(N p q).2⟩
private theorem but_new {r:Addr} {oR:Obj} (F:Fr h₀ L h m) (N':News h₀ L h' news) (hr:h'.get? r=some oR) (hn:h.get? r=none):News h₀ L h' ((r,oR)::news):=by
 intro p hp
 rcases List.mem_cons.mp hp with rfl|hp
 ·refine ⟨hr,fun q=>?_,?_⟩
  ·have q':r=L:=q
   subst q'
   obtain ⟨oL,_,_,x,_⟩:=F.ns
   rw [hn] at x;cases x
  ·cases q:h₀.get? r with
   | none=>rfl
   | some o'=>
    have z:h.get? r=some o':=F.keep _ _ q
    rw [hn] at z;cases z
 ·exact N' p hp
end
end Mine
end
section
open PySem PySem.W PyProof.Rows PySem.Flt PySem.Calls
namespace Mine
theorem Mkrrrrr:True:=by w_top off;trivial
section
variable {w:World} {p:Program} {loose:List Str} {mean:ExcName→Option Value} {mg mb:Str→Option Value} {dp un:Nat} {gd:Option (List Code)} {fr:Option (List Env)} {s:Shared} {Q E:Value→Shared→Prop}
private theorem c_pop1 {x dx:Addr} {its:List Value} {v:Value} {n e:Nat} {hsh k:Int} {td tk:Tok}
 (X:(hd.heap_1 w.params).In (hideAll s.heap [x,dx])) (T:Top p loose mean mg mb (hideAll s.heap [x,dx])) (hd:dp+4<recursionLimit) (hz:its.length≤1000)
 (hx:s.heap.get? x=some (accO dx (its++[v]) n)) (hdx:s.heap.get? dx=some (szD hsh td k tk e)) (hne:Apart x dx)
 (hret:∀ tk' h',ButExt [x,dx] s.heap h'→h'.get? x=some (accO dx its (n+1))→h'.get? dx=some (szD hsh td k tk e)→Q v { s with heap:=h',toks:=tk' }) :
 wpAny (model PySem.Challenge.rw_sc0045_01.prog w) (AA dp un gd fr) (call (.ref 96) [.ref x]) Q E s:=by
 revert X
 k_fill
 intro X
 refine wpAny_call ?_
 have hl9:∀ q∈[(x,accO dx (its++[v]) n),(dx,szD hsh td k tk e)],s.heap.get? q.1=some q.2∧q.1∈[x,dx]:=by
  intro p hp
  rcases List.mem_cons.mp hp with rfl|hp
  ·exact ⟨hx,.head _⟩
  ·rw [List.mem_singleton.mp hp];exact ⟨hdx,.tail _ (.head _)⟩
 walk_at "my enterS"
 k_steps
 ·exfalso
  have q9:((its++[v]).length:Int)=0:=by assumption
  rw [List.length_append,List.length_singleton] at q9
  omega
 rename News _ _ _ _=>N5
 exact hret _ _ (but_of (by assumption)) (N5.get (by k_mem)) (N5.get (by k_mem))
private theorem c_pop0 {x dx:Addr} {n e:Nat} {hsh k:Int} {td tk:Tok}
 (X:(hd.heap_1 w.params).In (hideAll s.heap [x,dx])) (T:Top p loose mean mg mb (hideAll s.heap [x,dx])) (hd:dp+4<recursionLimit)
 (hx:s.heap.get? x=some (accO dx [] n)) (hdx:s.heap.get? dx=some (szD hsh td k tk e)) (hne:Apart x dx)
 (hret:∀ tk' h' r t1 t2,ButExt [x,dx] s.heap h'→h'.get? x=some (accO dx [] n)→h'.get? dx=some (szD hsh td k tk e)→s.heap.get? r=none→h'.get? r=some (tup [.str "" t1,.str "" t2])→Q (.ref r) { s with heap:=h',toks:=tk' }) :
 wpAny (model PySem.Challenge.rw_sc0045_01.prog w) (AA dp un gd fr) (call (.ref 96) [.ref x]) Q E s:=by
 revert X
 k_fill
 intro X
 refine wpAny_call ?_
 have hl9:∀ q∈[(x,accO dx [] n),(dx,szD hsh td k tk e)],s.heap.get? q.1=some q.2∧q.1∈[x,dx]:=by
  intro p hp
  rcases List.mem_cons.mp hp with rfl|hp
  ·exact ⟨hx,.head _⟩
  ·rw [List.mem_singleton.mp hp];exact ⟨hdx,.tail _ (.head _)⟩
 walk_at "my enterS"
 k_steps
 rename News _ _ _ _=>N5
 refine hret _ _ _ _ _ (but_of (by assumption)) (N5.get (by k_mem)) (N5.get (by k_mem)) (fresh_of N5 (.head _) ?_) (N5.get (.head _))
 intro hh;simp only [List.mem_cons,List.not_mem_nil,or_false] at hh
 rcases hh with hh|hh<;>(subst hh;omega)
private theorem c_new {k:Int} {tk:Tok} {h₀:Heap} {L:Addr} {m:Str→Option Value} {news:List (Addr × Obj)} (F:Fr h₀ L s.heap m) (N:News h₀ L s.heap news) (X:(hd.heap_1 w.params).In h₀) (T:Top p loose mean mg mb h₀) (hd:dp+4<recursionLimit)
 (hret:∀ tk' h' x dx hsh td e,Apart x dx→Fr h₀ L h' m→News h₀ L h' ((x,accO dx [] 0)::(dx,szD hsh td k tk e)::news)→(∀ p∈news,p.1<dx)→dx<x→Q (.ref x) { s with heap:=h',toks:=tk' }) :
 wpAny (model PySem.Challenge.rw_sc0045_01.prog w) (AA dp un gd fr) (call (.ref 136) [.int k tk]) Q E s:=by
 revert X
 k_fill
 intro X
 refine wpAny_call ?_
 refine make_K9 F N (X.keeps F.keep) (ln_args1 _ _) (by kernel_rfl) (by k_is) (by k_is) fun x dx h' F' N' l1 l2=>?_
 have hm:∀ a∈[x,dx],∃ o,(a,o)∈(x,accO dx [] 0)::(dx,emptyDict)::news:=hide_mem2 (.head _) (.tail _ (.head _))
 have kk:=hide_keep F' N' hm
 have hne:Apart x dx:=Nat.ne_of_gt l2
 refine c_initA (Frag.In.keeps X kk) (Top.keeps T kk) ?_ (N' _ (.head _)).1 (N' _ (.tail _ (.head _))).1 hne fun hsh td tk' e h9 e9 x9 d9=>⟨rfl,?_⟩
 ·rw [depth_under_make];show dp+1+2<_;omega
 ·have hf:=but_fr F' N' hm e9
  refine hret _ _ x dx hsh td e hne hf (fun q hq=>?_) l1 l2
  rcases List.mem_cons.mp hq with rfl|hq
  ·exact ⟨x9,(N' _ (.head _)).2⟩
  ·rcases List.mem_cons.mp hq with rfl|hq
   ·exact ⟨d9,(N' _ (.tail _ (.head _))).2⟩
   ·have hq':=N' _ (.tail _ (.tail _ hq))
    have hl:=l1 q hq
    refine ⟨e9 _ _ (fun hi=>?_) hq'.1,hq'.2⟩
    simp only [List.mem_cons,List.not_mem_nil,or_false] at hi
    rcases hi with hi|hi<;>rw [hi] at hl
    ·exact absurd (Nat.lt_trans hl l2) (Nat.lt_irrefl _)
    ·exact absurd hl (Nat.lt_irrefl _)
private theorem c_new0 {h₀:Heap} {L:Addr} {m:Str→Option Value} {news:List (Addr × Obj)} (F:Fr h₀ L s.heap m) (N:News h₀ L s.heap news) (X:(hd.heap_1 w.params).In h₀) (T:Top p loose mean mg mb h₀) (hd:dp+4<recursionLimit)
 (hret:∀ tk' h' x dx hsh td e tk,Apart x dx→Fr h₀ L h' m→News h₀ L h' ((x,accO dx [] 0)::(dx,szD hsh td 0 tk e)::news)→(∀ p∈news,p.1<dx)→dx<x→Q (.ref x) { s with heap:=h',toks:=tk' }) :
 wpAny (model PySem.Challenge.rw_sc0045_01.prog w) (AA dp un gd fr) (call (.ref 136) []) Q E s:=by
 revert X
 k_fill
 intro X
 refine wpAny_call ?_
 refine make_K9 F N (X.keeps F.keep) (ln_args0 _) (by kernel_rfl) (by k_is) (by k_is) fun x dx h' F' N' l1 l2=>?_
 have hm:∀ a∈[x,dx],∃ o,(a,o)∈(x,accO dx [] 0)::(dx,emptyDict)::news:=hide_mem2 (.head _) (.tail _ (.head _))
 have kk:=hide_keep F' N' hm
 have hne:Apart x dx:=Nat.ne_of_gt l2
 refine c_initB (Frag.In.keeps X kk) (Top.keeps T kk) ?_ (N' _ (.head _)).1 (N' _ (.tail _ (.head _))).1 hne fun hsh td tk' e h9 tk e9 x9 d9=>⟨rfl,?_⟩
 ·rw [depth_under_make];show dp+1+2<_;omega
 ·have hf:=but_fr F' N' hm e9
  refine hret _ _ x dx hsh td e tk hne hf (fun q hq=>?_) l1 l2
  rcases List.mem_cons.mp hq with rfl|hq
  ·exact ⟨x9,(N' _ (.head _)).2⟩
  ·rcases List.mem_cons.mp hq with rfl|hq
   ·exact ⟨d9,(N' _ (.tail _ (.head _))).2⟩
   ·have hq':=N' _ (.tail _ (.tail _ hq))
    have hl:=l1 q hq
    refine ⟨e9 _ _ (fun hi=>?_) hq'.1,hq'.2⟩
    simp only [List.mem_cons,List.not_mem_nil,or_false] at hi
    rcases hi with hi|hi<;>rw [hi] at hl
    ·exact absurd (Nat.lt_trans hl l2) (Nat.lt_irrefl _)
    ·exact absurd hl (Nat.lt_irrefl _)
end
end Mine
end
section
open PySem PySem.W PyProof.Rows PySem.Flt PySem.Calls
namespace Mine
theorem Mkrrrrrr:True:=trivial
section
variable {prog:Program} {w:World} {A:Around} {E:Value→Shared→Prop} {s:Shared} {K:Frag} {x dx:Addr} {its:List Value} {n:Nat} {od:Obj}
noncomputable def SeqAt (h:Heap) (a:Addr) (items:Array Value):Prop:=∃ o n,h.get? a=some o∧o.data = .seq items n
private theorem SeqAt.keep {h h':Heap} {a:Addr} {items:Array Value} (z:SeqAt h a items) (k:∀ o,h.get? a=some o→h'.get? a=some o):SeqAt h' a items:=let ⟨o,n,e,d⟩:=z;⟨o,n,k o e,d⟩
private theorem check_slot {M:Model} {i owner nm:String} {self:Value} {rest:List Value} {kw:List (Str × Value)} {Q:Unit→Shared→Prop}
  (hk:builtinKind i=some .slot) (hs:splitId i=some (owner,nm)) (hi:Looks M s.heap (isInstance self (.type owner)) true) (ha:argsOk i ⟨self::rest,kw⟩) (q:Q () s) :
  wpAny M A (checkBuiltinCall i ⟨self::rest,kw⟩) Q E s:=by
 unfold checkBuiltinCall
 rw [hk,hs]
 refine wpAny_bind (hi.here ?_)
 with_reducible refine wi_neg (by decide) ?_
 cases hsig:Manifest.signature? i with
 | none=>exact wpAny_pure q
 | some sig=>
  unfold argsOk at ha
  rw [hsig] at ha
  have h2:Bind.checkArgs i sig ⟨self::rest,kw⟩=pure ():=ha
  show wpAny _ _ (Bind.checkArgs i sig ⟨self::rest,kw⟩) _ _ _
  rw [h2]
  exact wpAny_pure q
private theorem iter_acc {Q:Value→Shared→Prop} (X:K.In s.heap) (hx:s.heap.get? x=some (accO dx its n)) (hd:s.heap.get? dx=some od) (hs:findIn K (.ref 136) "__iter__" = some (some (.builtin "list.__iter__")))
  (hsub:subIn K (.ref 136) (.type "list")=some true)
  (hQ:Q (.ref s.heap.objs.size) { s with heap:=s.heap.push { cls:=.type "list_iterator", data:=.fields #[.ref x,.int 0 0] } }) :
  wpAny (model prog w) A (pyIter (.ref x)) Q E s:=by
 have I:=acc_inst hx hd
 unfold pyIter
 refine wpAny_bind (wpAny_bind (I.type.here ((looks_findIn X hs).here ?_)))
 show wpAny _ _ (callSpecialIfBoundUnlessNone? (.ref x) "__iter__" _ >>= _) _ _ _
 refine wpAny_bind ?_
 unfold callSpecialIfBoundUnlessNone? bindSpecialIfBound?
 refine wpAny_holding (wpAny_bind (wpAny_bind (wpAny_bind (I.type.here ((looks_findIn X hs).here ?_)))))
 refine wpAny_bind (wpAny_askSetting (wpAny_ite ?_))
 have fin:wpAny (model prog w) A (call (.builtin "list.__iter__") [.ref x] >>= fun v=>pure (some v)) (fun r s'=>∃ it,r=some it∧∃ T' r',s'.TypeIs it T'∧typeLookup (.type T') "__next__" = pure (some r')∧Q it s') E s:=by
  refine wpAny_bind ?_
  refine call_bi (id := "list.__iter__") (by decide +kernel) entry_list_iter ?kc ?_
  case kc=>
   intro A' Q' E' q
   exact check_slot (s:=s) (i := "list.__iter__") (self:=.ref x) (rest:=[]) (kw:=[]) (by decide +kernel) (by decide +kernel:splitId "list.__iter__" = some ("list", "__iter__")) (acc_isList X hx hsub) (args_list_iter _) q
  show wpAny _ _ (do ret (← newFields "list_iterator" [.ref x,rawInt 0])) _ _ s
  exact wpAny_bind (wpAny_newObj_type (wpAny_pure (wpAny_pure ⟨_,rfl, "list_iterator", _,⟨_,Heap.get?_push_size _ rfl,rfl⟩,slot_listiter_next.lookup,hQ⟩)))
 have out:∀ r s',(∃ it,r=some it∧∃ T' r',s'.TypeIs it T'∧typeLookup (.type T') "__next__" = pure (some r')∧Q it s')→wpAny (model prog w) A (match r with
   | some it=>(do match←specialOf it "__next__" with
    | none=>rule "iter.non-iterator"; raiseError "TypeError" s!"iter() returned non-iterator of type '{← typeNameOf it}'"
    | some _=>pure it)
   | none=>(do match←bindSpecialIfBound? (.ref x) "__getitem__" with
    | none=>rule "iter.not-iterable"; raiseError "TypeError" s!"'{← typeNameOf (.ref x)}' object is not iterable"
    | some _=>rule "iter.getitem-fallback"; newFields "iterator" [.ref x,←mkInt 0])) Q E s':=by
  rintro r s' ⟨it,rfl,T',r',hT',hl,hq⟩
  exact wpAny_bind (wpAny_specialOf hT' hl (wpAny_pure hq))
 have e1:(Value.builtin "list.__iter__" == Value.none)=false:=by decide
 split
 ·refine wpAny_bind (wpAny_of_eq (slot_list_iter.bind _) ?_)
  refine wpAny_pure ?_
  dsimp only
  with_reducible refine wi_neg (by rw [e1];exact Bool.false_ne_true) ?_
  exact wpAny_mono fin out fun _ _ e=>e
 ·refine wpAny_tryCatch (wpAny_bind (wpAny_of_eq (slot_list_iter.bind _) ?_))
  refine wpAny_pure ?_
  dsimp only
  with_reducible refine wi_neg (by rw [e1];exact Bool.false_ne_true) ?_
  exact wpAny_mono fin out fun _ _ e=>e

private theorem seq_next {it l:Addr} {i:Nat} {items:Array Value} {y:Value} {Q:Option Value→Shared→Prop} (hit:s.heap.IsListIter it l i)
  (hl:SeqAt s.heap l items) (hx:items[i]?=some y)
  (hQ:∀ h',h'.IsListIter it l (i+1)→Heap.SameBut it s.heap h'→Q (some y) { s with heap:=h' }) :
  wpAny (model prog w) A (pyNext (.ref it)) Q E s:=by
 obtain ⟨o,ho,hc,hd⟩:=id hit
 obtain ⟨ol,nl,hol,hdl⟩:=hl
 unfold pyNext
 refine wpAny_bind (wpAny_attempt (wpAny_callSpecial?_slot (name:=Str.ofString "__next__") hit.typeIs slot_listiter_next
  (wpAny_call_entry slot_listiter_next hit.typeIs entry_listiter_next ?_ (args_listiter_next _))))
 show wpAny _ _ (field (.ref it) 0 >>= _) _ _ s
 refine wpAny_bind (wpAny_field ho hd (x:=.ref l) rfl ?_)
 show wpAny _ _ (if (Value.ref l == Value.none)=true then _ else _) _ _ s
 refine wi_neg (show ¬ ((Value.ref l == Value.none)=true) from Bool.false_ne_true) ?_
 show wpAny _ _ (field (.ref it) 1 >>= _) _ _ s
 refine wpAny_bind (wpAny_field ho hd (x:=.int i 0) rfl ?_)
 show wpAny _ _ (seqItems? (.ref l) >>= _) _ _ s
 refine wpAny_bind (wpAny_seqItems hol hdl ?_)
 rw [Int.toNat_natCast]
 dsimp only
 rw [hx]
 dsimp only
 refine wpAny_bind (wpAny_setField ho hd (by simp) (wpAny_pure ⟨y,rfl,wpAny_pure (hQ _ ?_ (Heap.SameBut.update ..))⟩))
 exact ⟨_,Heap.get?_update_self _ ho (Obj.isFreed_of_fields (Obj.data_mapFields hd _)),(Obj.cls_mapFields ..).trans hc,by
  rw [Obj.data_mapFields hd];simp [rawInt]⟩

private theorem seq_end {it l:Addr} {i:Nat} {items:Array Value} {Q:Option Value→Shared→Prop} (hh:A.handled=none)
  (hit:s.heap.IsListIter it l i) (hl:SeqAt s.heap l items) (hx:items[i]?=none)
  (hQ:∀ h',Heap.ExtBut it s.heap h'→Q none { s with heap:=h' }):wpAny (model prog w) A (pyNext (.ref it)) Q E s:=by
 obtain ⟨o,ho,hc,hd⟩:=id hit
 obtain ⟨ol,nl,hol,hdl⟩:=hl
 unfold pyNext
 refine wpAny_bind (wpAny_attempt (wpAny_callSpecial?_slot (name:=Str.ofString "__next__") hit.typeIs slot_listiter_next
  (wpAny_call_entry slot_listiter_next hit.typeIs entry_listiter_next ?_ (args_listiter_next _))))
 show wpAny _ _ (field (.ref it) 0 >>= _) _ _ s
 refine wpAny_bind (wpAny_field ho hd (x:=.ref l) rfl ?_)
 show wpAny _ _ (if (Value.ref l == Value.none)=true then _ else _) _ _ s
 refine wi_neg (show ¬ ((Value.ref l == Value.none)=true) from Bool.false_ne_true) ?_
 show wpAny _ _ (field (.ref it) 1 >>= _) _ _ s
 refine wpAny_bind (wpAny_field ho hd (x:=.int i 0) rfl ?_)
 show wpAny _ _ (seqItems? (.ref l) >>= _) _ _ s
 refine wpAny_bind (wpAny_seqItems hol hdl ?_)
 rw [Int.toNat_natCast]
 dsimp only
 rw [hx]
 dsimp only
 refine wpAny_bind (wpAny_rule (wpAny_bind (wpAny_setField ho hd (by simp) ?_)))
 show wpAny _ _ (newExc (.type "StopIteration") [] >>= _) _ _ _
 refine wpAny_bind ?_
 unfold newExc newTuple
 refine wpAny_bind (wpAny_newObj_type ?_ (by size_fits))
 refine wpAny_bind (m:=firstArgMember _ _) (wpAny_of_eq (a:=Value.none) (by first|rfl|(simp only [firstArgMember];rfl)) ?_)
 refine wpAny_newObj_type ?_ (by size_fits)
 unfold raiseNew
 refine wpAny_bind (wpAny_handled ?_)
 rw [show A.in1.handled=none from hh]
 refine wpAny_bind (wpAny_pure (wpAny_throw ?_))
 refine wpAny_bind (wpAny_isInstance (T := "StopIteration") (b:=true) ⟨_,Heap.get?_push_size _ rfl,rfl⟩ isSubtype_stop ?_)
 exact wpAny_pure (hQ _ (((Heap.SameBut.update ..).extBut.push _).push _))
end

private theorem walks_acc {prog:Program} {w:World} {A:Around} (hh:A.handled=none) (I ax:Addr) (hne:ax≠I) (items:Array Value) (Ts:Nat→Addr) (vals:Nat→Array Value)
  (hit:∀ j,j<items.size→items[j]?=some (.ref (Ts j))) (hTI:∀ j,j<items.size→Ts j≠I) :
  WalksU prog w A I (I::ax::(List.range items.size).map Ts) [I] items.size (fun j v=>v=vals j)
   (fun j h=>h.IsListIter I ax j∧SeqAt h ax items∧∀ k,k<items.size→h.IsTuple (Ts k) (vals k))
   (fun j T h=>(j<items.size∧T=Ts j)∧h.IsListIter I ax (j+1)∧SeqAt h ax items∧∀ k,k<items.size→h.IsTuple (Ts k) (vals k)) where
 sub:=fun b hb=>by simp at hb;simp [hb]
 frame:=fun _ _ _ st hk=>⟨st.1.at fun o e=>hk I (by simp) o e,st.2.1.keep fun o e=>hk ax (by simp) o e,
  fun k hk'=>(st.2.2 k hk').at fun o e=>hk (Ts k) (List.mem_cons_of_mem _ (List.mem_cons_of_mem _ (List.mem_map.mpr ⟨k,List.mem_range.mpr hk',rfl⟩))) o e⟩
 item:=fun i s Q E hi st hQ=>by
  refine seq_next st.1 st.2.1 (y:=.ref (Ts i)) (hit i hi) fun h' hit' hs'=>?_
  have tup:∀ k,k<items.size→h'.IsTuple (Ts k) (vals k):=fun k hk'=>(st.2.2 k hk').extBut hs'.extBut (hTI k hk')
  exact hQ (Ts i) (vals i) h' s.toks rfl (tup i hi) ⟨⟨hi,rfl⟩,hit',st.2.1.keep fun o e=>hs'.extBut ax o hne e,tup⟩ fun b o hb e=>hs'.extBut b o (fun h=>hb (by simp [h])) e
 go:=fun _ _ _ _ _ s Q _ hm hQ=>wpAny_letOwnedTupleGo_listiter hm.2.1 (hQ s.heap hm.2 fun _ _ _ e=>e)
 apart:=fun j T _ hm hmem=>by
  rcases List.mem_cons.mp hmem with e|e
  ·exact hTI j hm.1.1 (hm.1.2▸e)
  ·cases e
 done:=fun s Q E st hQ=>seq_end hh st.1 st.2.1 (by simp) fun h' he'=>hQ h' s.toks fun b o hb e=>he' b o (fun h=>hb (by simp [h])) e
 self:=fun _ _ _ _ st hQ=>wpAny_pyIter_listiter st.1 hQ
end Mine
end
section
open PySem PySem.W PyProof.Rows PySem.Flt PySem.Calls
namespace Mine
noncomputable abbrev tbO (ps:Array Value):Obj:={ cls:=.none,data:=.fields ps }
noncomputable def TabIs (pos:Pos) (ps:Array Value):Prop:=ps=#[]∨∃ c',ps=#[rawInt pos.line,rawInt pos.col,.ref c']
private theorem gcode {M:Model} {A:Around} {E:Value→Shared→Prop} {s:Shared} {env:Env} {pos:Pos} {qual:PySem.Str} {scope:Scope} {c P:Addr} {ps:Array Value} {Q:Value→Shared→Prop} (hc:env.code = .ref c) (h1:s.heap.IsCode c P ps) (h2:s.heap.TableAt c P ps) (hps:TabIs pos ps)
  (hQ:∀ c' h' tk ps',TabIs pos ps'→Heap.ExtBut P s.heap h'→s.heap.objs.size≤h'.objs.size→h'.IsCode c P ps'→h'.TableAt c P ps'→Q (.ref c') { s with heap:=h',toks:=tk }) :
  wpAny M A (genexprCode env pos qual scope) Q E s:=by
 rcases hps with rfl|⟨c',rfl⟩
 ·refine wpAny_genexprCodeX hc h1 h2 rfl fun c' h₃ tk₃ hx₃ hge hlt hcode₃ _ htab₃ _=>?_
  exact hQ c' h₃ tk₃ _ (.inr ⟨c',by simp⟩) hx₃ (Nat.le_trans hge (Nat.le_of_lt hlt)) hcode₃ htab₃
 ·refine wpAny_genexprCode_hit hc h1 (c':=.ref c') (by simp [codeAmong,rawInt]) ?_
  exact hQ c' s.heap s.toks _ (.inr ⟨c',rfl⟩) (fun _ _ _ e=>e) (Nat.le_refl _) h1 h2
private theorem passing_all (n:Nat):passing (fun _=>true) n 0=List.range n:=by
 unfold passing
 rw [List.filter_eq_self.mpr (fun _ _=>rfl)];rfl
private theorem passing_len (n:Nat):(passing (fun _=>true) n 0).length=n:=by rw [passing_all];simp
private theorem passing_at {n j i:Nat} (h:(passing (fun _=>true) n 0)[j]?=some i):i=j:=by
 rw [passing_all] at h
 simp [List.getElem?_eq_some_iff] at h
 exact h.2.symm
noncomputable def GenA (prog:Program) (w:World) (A:Around) (L a:Addr) (n:Nat) (F:Nat→Value→Prop) (s:Shared):Prop:=
 ∃ fp wr g St,WalksS prog w A.in4 a fp wr (GenOnlyQ g) n F St∧St 0 s∧(∀ i s',St i s'→s'.TypeIs (.ref a) "generator")∧a∈fp∧(∀ b∈fp,b<s.heap.objs.size)∧∀ b∈wr,L≤b
private theorem walksS_weak {prog:Program} {w:World} {A:Around} {I:Addr} {fp wr:List Addr} {G:Array GenState→Array GenState→Prop} {n:Nat} {P P':Nat→Value→Prop} {St:Nat→Shared→Prop}
  (W:WalksS prog w A I fp wr G n P St) (h:∀ i v,P i v→P' i v):WalksS prog w A I fp wr G n P' St where
 sub:=W.sub
 grefl:=W.grefl
 gtrans:=W.gtrans
 frame:=W.frame
 item:=fun i s Q E hi st hQ=>W.item i s Q E hi st fun v s' p=>hQ v s' (h i v p)
 done:=W.done
 self:=W.self
section
variable {prog:Program} {w:World} {A:Around} {E:Value→Shared→Prop} {s:Shared} {K:Frag} {x dx:Addr} {its:List Value} {n:Nat} {od:Obj}
private theorem ex9 {α β γ δ ε ζ η θ ι:Type} {p:α→β→γ→δ→ε→ζ→η→θ→ι→Prop} (a:α) (b:β) (c:γ) (d:δ) (e:ε) (f:ζ) (g:η) (h:θ) (i:ι) (H:p a b c d e f g h i):∃ a b c d e f g h i,p a b c d e f g h i:=⟨a,b,c,d,e,f,g,h,i,H⟩
private theorem gexpT {env:Env} {elt iter:PySem.Expr} {xa xb:PySem.Str} {pa pb pt:Pos} {kt:Nat} {scope:Scope} {pos:Pos} {Q:Value→Shared→Prop} {c P bm:Addr} {ob:Obj} {ps:Array Value} {mg:PySem.Str→Option Value}
  (Ts:Nat→Addr) (vals:Nat→Array Value) (F:Nat→Value→Prop)
  (hcode:env.code = .ref c) (h1:s.heap.IsCode c P ps) (h2:s.heap.TableAt c P ps) (hps:TabIs pos ps) (M:BMod s.heap env.globals mg bm ob) (hlim:s.heap.NoLimit) (G:AllBare s.gens)
  (hh:A.handled=none) (hco:scope.isCoroutine=false) (hclos:closureFor scope env=pure []) (hcell:∀ y∈scope.names,y.2≠.cell) (h0:scope.names.lookup (".0" : PySem.Str)=some NameKind.local)
  (hxa:scope.names.lookup xa=some .local) (hxb:scope.names.lookup xb=some .local) (hab:xa≠xb) (hkind:scope.kind = .function) (hroom:A.depth<recursionLimit)
  (hs:∀ v,genFold iter env v=pure v)
  (hiter:∀ Q':Value→Shared→Prop,Q' (.ref x) s→wpAny (model prog w) A (eval iter env) Q' E s)
  (X:K.In s.heap) (hx:s.heap.get? x=some (accO dx its n)) (hd:s.heap.get? dx=some od) (his:findIn K (.ref 136) "__iter__" = some (some (.builtin "list.__iter__")))
  (hsub:subIn K (.ref 136) (.type "list")=some true)
  (hit:∀ j,j<its.length→its[j]?=some (.ref (Ts j))∧s.heap.IsTuple (Ts j) (vals j)) (hv2:∀ j,∃ va vb,vals j=#[va,vb])
  (he:∀ (A':Around) E' i va vb (u:Shared) m₂ code C,A'.handled=none→i<its.length→vals i=#[va,vb]→u.heap.Ns C m₂→m₂ xa=some va→m₂ xb=some vb→(∀ b o,b≠P→s.heap.get? b=some o→u.heap.get? b=some o) →
   wpAny (model prog w) A' (eval elt (genEnv scope [] C code builtinsNs env)) (fun y s₃=>F i y∧Keeps u s₃) E' u)
  (h:∀ a s₅ ps',TabIs pos ps'→Heap.ExtBut P s.heap s₅.heap→s₅.heap.IsCode c P ps'→s₅.heap.TableAt c P ps'→AllBare s₅.gens→s₅.os=s.os→GenA prog w A s.heap.objs.size a its.length F s₅→Q (.ref a) s₅) :
  wpAny (model prog w) A (eval (.GeneratorExp elt [⟨.Tuple [.Name xa pa,.Name xb pb] kt pt,iter,[],0⟩] scope pos) env) Q E s:=by
 refine wpAny_GeneratorExp_walksQT hh hco hclos hcell h0 hxa hxb hab hkind hroom (hiter _ (iter_acc X hx hd his hsub ?_)) hs
 have up₂:∀ b o,s.heap.get? b=some o→(s.heap.push { cls:=.type "list_iterator", data:=.fields #[.ref x,.int 0 0] }).get? b=some o:=fun b o e=>Heap.get?_push_of_some _ e
 refine ⟨hlim.keeps up₂,gcode hcode (h1.keeps up₂) (h2.keeps up₂) hps fun c' h₃ tk₃ ps' hps' hx₃ hsz₃ hcode₃ htab₃=>?_⟩
 have up₃:∀ b o,b≠P→s.heap.get? b=some o→h₃.get? b=some o:=fun b o hb e=>hx₃ b o hb (up₂ b o e)
 have hs₂:(s.heap.push { cls:=.type "list_iterator", data:=.fields #[.ref x,.int 0 0] }).objs.size=s.heap.objs.size+1:=Heap.size_push ..
 have hI:s.heap.objs.size<h₃.objs.size:=Nat.lt_of_lt_of_le (by rw [hs₂];exact Nat.lt_succ_self _) hsz₃
 have hPlt:P<s.heap.objs.size:=h1.lt.2
 have M₃:BMod h₃ env.globals mg bm ob:=M.extBut h2 fun b o hb e=>up₃ b o hb e
 have hcP:cStatics≠P:=fun e=>by
  obtain ⟨_,hns,_⟩:=hlim
  obtain ⟨o,es,ep,ho,hd,_⟩:=hns
  rw [e,h2.2] at ho;cases ho;cases hd
 have hl₃:h₃.NoLimit:=hlim.extBut (fun b o hb e=>up₃ b o hb e) hcP
 have hcw:cStatics ∉ [s.heap.objs.size]:=fun hm=>by
  have e:cStatics=s.heap.objs.size:=List.mem_singleton.mp hm
  obtain ⟨_,hns,_⟩:=hlim
  have:=hns.lt
  rw [e] at this
  exact Nat.lt_irrefl _ this
 refine wpAny_builtinsFor M₃.ns M₃.name M₃.ne M₃.obj M₃.cls M₃.dict M₃.data ?_
 have xP:x≠P:=fun e=>by rw [e,h2.2] at hx;cases hx
 have TP:∀ j,j<its.length→Ts j≠P:=fun j hj e=>by
  obtain ⟨o,ho,hc,_⟩:=(hit j hj).2
  rw [e,h2.2] at ho;cases ho;cases hc
 have hTlt:∀ j,j<its.length→Ts j<s.heap.objs.size:=fun j hj=>let ⟨o,ho,_⟩:=(hit j hj).2;Heap.lt_size ho
 refine ex9 s.heap.objs.size (s.heap.objs.size::x::(List.range its.toArray.size).map Ts) [s.heap.objs.size] its.toArray.size _ _ _ (fun _=>true) F ⟨rfl,
  (fun A' hA=>(walks_acc hA _ x (Nat.ne_of_lt (Heap.lt_size hx)) its.toArray Ts vals (fun j hj=>by simpa using (hit j (by simpa using hj)).1) fun j hj=>Nat.ne_of_lt (hTlt j (by simpa using hj))).bound),
  (fun i v e=>by rw [e.2];exact hv2 i),?_,?_,hl₃,hcw,?_,?_⟩
 ·refine ⟨⟨_,hx₃ _ _ (Nat.ne_of_gt hPlt) (Heap.get?_push_size _ rfl),rfl,rfl⟩,⟨_,n,up₃ _ _ xP hx,rfl⟩,fun k hk=>?_⟩
  have hk':k<its.length:=by simpa using hk
  exact (hit k hk').2.at fun o e=>up₃ _ o (TP k hk') e
 ·intro b hb
  rcases List.mem_cons.mp hb with rfl|hb
  ·exact hI
  ·rcases List.mem_cons.mp hb with rfl|hb
   ·exact Nat.lt_trans (Heap.lt_size hx) hI
   ·obtain ⟨k,hk,rfl⟩:=List.mem_map.mp hb
    exact Nat.lt_trans (hTlt k (by simpa using hk)) hI
 ·intro href hhref
  have low:∀ (u:Shared),(∀ b∈List.range h₃.objs.size,b ∉ [s.heap.objs.size]→∀ o,href.get? b=some o→u.heap.get? b=some o)→∀ b o,b≠P→s.heap.get? b=some o→u.heap.get? b=some o:=by
   intro u hu b o hb e
   have e3:=up₃ b o hb e
   exact hu b (List.mem_range.mpr (Heap.lt_size e3)) (fun hm=>Nat.lt_irrefl _ (List.mem_singleton.mp hm▸Heap.lt_size e)) o (hhref b o e3)
  refine ⟨fun A' E' i va vb u m₂ hA hP hn ha hb hk=>?_,fun A' E' i va vb u m₂ hA hP hpz hn ha hb hk=>?_⟩
  ·simp only [List.forIn_nil]
   exact wpAny_pure ⟨rfl,_,_,rfl,fun _ _ e=>e⟩
  ·exact he A' E' i va vb u m₂ _ _ hA (by simpa using hP.1) hP.2.symm hn ha hb (low u hk)
 ·intro a h₅ tk gs hgb hag hsz₅ hk₅ W hat
  refine h a _ ps' hps' (fun b o hb e=>hk₅ _ _ (up₃ b o hb e)) (hcode₃.keeps hk₅) (htab₃.keeps hk₅) (G.push hgb) rfl ?_
  rw [passing_len] at W
  have e:its.toArray.size=its.length:=by simp
  rw [e] at W hat
  refine ⟨_,_,_,_,walksS_weak W (fun j y hy=>by obtain ⟨i,h9,h8⟩:=hy;rw [← passing_at h9];exact h8),hat,(fun i s' st=>st.1.typeIs),List.mem_cons_self,?_,?_⟩
  ·intro b hb
   show b<h₅.objs.size
   rw [hsz₅]
   rcases List.mem_cons.mp hb with rfl|hb
   ·exact Nat.lt_succ_self _
   ·rcases List.mem_cons.mp hb with rfl|hb
    ·exact Nat.lt_succ_of_lt hag
    ·exact Nat.lt_succ_of_lt (Nat.lt_trans (List.mem_range.mp hb) hag)
  ·intro b hb
   rcases List.mem_cons.mp hb with rfl|hb
   ·exact Nat.le_of_lt hI
   ·exact Nat.le_of_eq (List.mem_singleton.mp hb).symm
end
end Mine
end
section
open PySem PySem.W PyProof.Rows PySem.Flt PySem.Calls
namespace Mine
inductive ItemsAt (h:Heap):List Value→List (PySem.Str × PySem.Str)→Prop
 | nil:ItemsAt h [] []
 | cons {r:Addr} {a b:PySem.Str} {t u:Tok} {vs xs}:h.get? r=some (tup [.str a t,.str b u])→ItemsAt h vs xs→ItemsAt h (.ref r::vs) ((a,b)::xs)
private theorem ItemsAt.length {h:Heap} {vs xs} (z:ItemsAt h vs xs):vs.length=xs.length:=by
 induction z with
 | nil=>rfl
 | cons _ _ ih=>exact congrArg Nat.succ ih
private theorem ItemsAt.get {h:Heap} {vs xs} (z:ItemsAt h vs xs):∀ j,j<vs.length→∃ r a b t u,vs[j]?=some (.ref r)∧xs[j]?=some (a,b)∧h.get? r=some (tup [.str a t,.str b u]):=by
 induction z with
 | nil=>exact fun _ hj=>absurd hj (Nat.not_lt_zero _)
 | cons e z ih=>
  intro j
  cases j with
  | zero=>exact fun _=>⟨_,_,_,_,_,rfl,rfl,e⟩
  | succ j=>exact fun hj=>ih j (Nat.lt_of_succ_lt_succ hj)
private theorem ItemsAt.fns {h:Heap} {vs:List Value} {xs:List (PySem.Str × PySem.Str)} (z:ItemsAt h vs xs):∃ (Ts:Nat→Addr) (vals:Nat→Array Value),(∀ j,j<vs.length→vs[j]?=some (.ref (Ts j))∧h.IsTuple (Ts j) (vals j)) ∧
  (∀ j,∃ va vb,vals j=#[va,vb])∧∀ j,j<vs.length→∃ t u,vals j=#[.str (xs.getD j default).1 t,.str (xs.getD j default).2 u]:=by
 have:∀ j:Nat,∃ (T:Addr) (v:Array Value),(∃ va vb,v=#[va,vb])∧(j<vs.length→(vs[j]?=some (.ref T)∧h.IsTuple T v)∧∃ t u,v=#[.str (xs.getD j default).1 t,.str (xs.getD j default).2 u]):=by
  intro j
  by_cases hj:j<vs.length
  ·refine goalP fun G9 hG9=>?_
   obtain ⟨r,a,b,t,u,h1,h2,h3⟩:=z.get j hj
   refine hG9 ?_
   clear hG9
   exact ⟨r,#[.str a t,.str b u],⟨_,_,rfl⟩,fun _=>⟨⟨h1,_,h3,rfl,_,rfl⟩,t,u,by simp [List.getD,h2]⟩⟩
  ·exact ⟨0,#[.none,.none],⟨_,_,rfl⟩,fun h=>absurd h hj⟩
 exact ⟨fun j=>Classical.choose (this j),fun j=>Classical.choose (Classical.choose_spec (this j)),fun j hj=>((Classical.choose_spec (Classical.choose_spec (this j))).2 hj).1,fun j=>(Classical.choose_spec (Classical.choose_spec (this j))).1,fun j hj=>((Classical.choose_spec (Classical.choose_spec (this j))).2 hj).2⟩
section
variable {prog:Program} {w:World} {A:Around} {E:Value→Shared→Prop} {s:Shared}
private theorem elt_len {env:Env} {scope:Scope} {C:Addr} {code:Value} {p1 p2 p3 p4 p5 p6 p7:Pos} {a b:PySem.Str} {ta tb:Tok} {mg mb m₂:PySem.Str→Option Value} {Q:Value→Shared→Prop}
  (hn:s.heap.Ns C m₂) (ha:m₂ (Str.ofString "fws")=some (.str a ta)) (hb:m₂ (Str.ofString "part")=some (.str b tb)) (hg:s.heap.Ns env.globals mg) (hm:mg (Str.ofString "len")=none) (hB:s.heap.Ns builtinsNs mb) (hl:mb (Str.ofString "len")=some (.builtin "len"))
  (sa:(a.length:Int)<9223372036854775808) (sb:(b.length:Int)<9223372036854775808)
  (hk:scope.kind = .function) (k1:scope.names.lookup (Str.ofString "fws")=some .local) (k2:scope.names.lookup (Str.ofString "part")=some .local) (k3:scope.names.lookup (Str.ofString "len")=some .globalImplicit)
  (h:∀ t k,Q (.int (a.length+b.length) t) { s with toks:=k }) :
  wpAny (model prog w) A (eval (.BinOp (.Call (.Name (Str.ofString "len") p1) [.Name (Str.ofString "fws") p2] [] p3) .Add (.Call (.Name (Str.ofString "len") p4) [.Name (Str.ofString "part") p5] [] p6) p7) (genEnv scope [] C code builtinsNs env)) Q E s:=by
 have e1:(genEnv scope [] C code builtinsNs env).kindOf (Str.ofString "fws")=some .local:=k1
 have e2:(genEnv scope [] C code builtinsNs env).kindOf (Str.ofString "part")=some .local:=k2
 have e3:(genEnv scope [] C code builtinsNs env).kindOf (Str.ofString "len")=some .globalImplicit:=k3
 refine wpAny_BinOp (Call_name1 rfl (Name_function_global hk e3 (loadGlobal_builtin (env:=genEnv scope [] C code builtinsNs env) hg hm hB hl (callWith_builtin1 (wpAny_Name (wpAny_loadName_local hk e1 hn ha (SBL.len sa ?_)) (by decide)))) (by decide)))
 refine Call_name1 rfl (Name_function_global hk e3 (loadGlobal_builtin (env:=genEnv scope [] C code builtinsNs env) hg hm hB hl (callWith_builtin1 (wpAny_Name (wpAny_loadName_local hk e2 hn hb (SBL.len sb ?_)) (by decide)))) (by decide))
 exact wpAny_add_int (h _ _)
private theorem elt_str {env:Env} {scope:Scope} {C:Addr} {code:Value} {p1 p2 p3 p4 p5 p6:Pos} {kt:Nat} {a b:PySem.Str} {ta tb te:Tok} {mg m₂:PySem.Str→Option Value} {Q:Value→Shared→Prop}
  (hn:s.heap.Ns C m₂) (ha:m₂ (Str.ofString "fws")=some (.str a ta)) (hb:m₂ (Str.ofString "part")=some (.str b tb)) (hg:s.heap.Ns env.globals mg) (hm:mg (Str.ofString "EMPTYSTRING")=some (.str (Str.ofString "") te))
  (hw:a.length+b.length≤1000) (hline:(p2.endLine == p6.line)=true)
  (hk:scope.kind = .function) (k1:scope.names.lookup (Str.ofString "fws")=some .local) (k2:scope.names.lookup (Str.ofString "part")=some .local) (k3:scope.names.lookup (Str.ofString "EMPTYSTRING")=some .globalImplicit)
  (h:∀ t k h',(∀ b o,s.heap.get? b=some o→h'.get? b=some o)→Q (.str (Txt.join (Str.ofString "") [a,b]) t) { s with heap:=h',toks:=k }) :
  wpAny (model prog w) A (eval (.Call (.Attribute (.Name (Str.ofString "EMPTYSTRING") p1) (Str.ofString "join") p2) [.Tuple [.Name (Str.ofString "fws") p3,.Name (Str.ofString "part") p4] kt p5] [] p6) (genEnv scope [] C code builtinsNs env)) Q E s:=by
 have e1:(genEnv scope [] C code builtinsNs env).kindOf (Str.ofString "fws")=some .local:=k1
 have e2:(genEnv scope [] C code builtinsNs env).kindOf (Str.ofString "part")=some .local:=k2
 have e3:(genEnv scope [] C code builtinsNs env).kindOf (Str.ofString "EMPTYSTRING")=some .globalImplicit:=k3
 refine Call_method1 rfl rfl hline (Name_function_global hk e3 (loadGlobal_global (env:=genEnv scope [] C code builtinsNs env) hg hm ?_) (by decide))
 refine ⟨"str", "str.join", F.plainAttrs_str,F.slot_str_join,F.type_str_join,typeIs_str _ _ _,(fun _ e=>nomatch e),?_⟩
 refine callWith_builtin (first:=[.str (Str.ofString "") te]) rfl (evalArgs_plain (spliced_cons (Tuple_ ?_)))
 refine spliced_cons (wpAny_Name (wpAny_loadName_local hk e1 hn ha (spliced_cons (wpAny_Name (wpAny_loadName_local hk e2 hn hb (spliced_nil ?_)) (by decide)))) (by decide))
 refine wpAny_newTuple (spliced_nil ?_)
 refine join_tuple (ys:=[a,b]) (items:=#[.str a ta,.str b tb]) ⟨_,Heap.get?_push_size _ rfl,rfl,_,rfl⟩ (.cons _ _ (.cons _ _ .nil)) ?_ fun t' k=>h t' k _ fun b o e=>Heap.get?_push_of_some _ e
 have e0:(Str.ofString "").length=0:=by decide
 simp only [List.map_cons,List.map_nil,List.sum_cons,List.sum_nil,List.length_cons,List.length_nil,e0]
 lia -abstractProof
end
end Mine
end
section
open PySem PySem.W PyProof.Rows PySem.Flt PySem.Calls
namespace Mine
private theorem walksS_shift {prog:Program} {w:World} {A:Around} {I:Addr} {fp wr:List Addr} {G:Array GenState→Array GenState→Prop} {n:Nat} {P:Nat→Value→Prop} {St:Nat→Shared→Prop}
  (W:WalksS prog w A I fp wr G n P St):WalksS prog w A I fp wr G (n+1) (fun i v=>0<i∧P (i-1) v) (fun i s=>0<i∧St (i-1) s) where
 sub:=W.sub
 grefl:=W.grefl
 gtrans:=W.gtrans
 frame:=fun i s h' tk st hk he=>⟨st.1,W.frame _ s h' tk st.2 hk he⟩
 item:=fun i s Q E hi st hQ=>by
  refine W.item (i-1) s Q E (by lia -abstractProof) st.2 fun v s' p st' m=>hQ v s' ⟨st.1,p⟩ ⟨Nat.succ_pos _,?_⟩ m
  have e:i-1+1=i+1-1:=by have:=st.1;lia -abstractProof
  rw [e] at st'
  exact st'
 done:=fun s Q E st hQ=>W.done s Q E st.2 hQ
 self:=fun i s Q E st hQ=>W.self _ s Q E st.2 hQ
private theorem preSum_shift (k:Int) (val:Nat→Int):∀ n,preSum (fun i=>if i=0 then k else val (i-1)) (n+1)=k+preSum val n
 | 0=>by simp [preSum]
 | n+1=>by
  rw [preSum,preSum_shift k val n]
  simp [preSum];lia -abstractProof
private theorem args_sum2 (a b:Value):argsOk "sum" ⟨[a,b],[]⟩:=by unfold argsOk;kernel_rfl
section
variable {prog:Program} {w:World} {A:Around} {E:Value→Shared→Prop} {s:Shared}
private theorem sum_start {a L:Addr} {n:Nat} {F0:Nat→Value→Prop} {k:Int} {tk:Tok} {Q:Value→Shared→Prop} (G:AllBare s.gens) (X:GenA prog w A L a n F0 s) (val:Nat→Int) (hval:∀ j v,F0 j v→∃ t,v = .int (val j) t)
  (hQ:∀ s' t',(∀ b o,b<L→s.heap.get? b=some o→s'.heap.get? b=some o)→AllBare s'.gens→s'.os=s.os→Q (.int (k+preSum val n) t') s') :
  wpAny (model prog w) A (call (.builtin "sum") [.ref a,.int k tk]) Q E s:=by
 obtain ⟨fp,wr,g,St,W,hst,_,_,hfp,hwr⟩:=X
 have W:=W.in4_1
 refine call_function_tree F.kind_sum F.plain_sum F.entry_sum (args_sum2 _ _) ?_
 unfold Builtin.«sum»
 refine wi_neg (Nat.lt_irrefl 2) ?_
 refine wpAny_bind (wpAny_of_eq (show Builtin.Builtins.bindParams "sum" ["start"] 0 ⟨[.int k tk],[]⟩=pure [some (.int k tk)] from rfl) ?_)
 refine wpAny_bind (W.self 0 s _ _ hst ?_)
 have hSf:s.heap.objs.size ∉ fp:=fun hm=>Nat.lt_irrefl _ (hfp _ hm)
 have W':=walksS_shift W
 have e1:preSum (fun i=>if i=0 then k else val (i-1)) 1=k:=by simp [preSum]
 have hv':∀ i v,0<i∧F0 (i-1) v→∃ t,v = .int ((fun i=>if i=0 then k else val (i-1)) i) t:=by
  rintro i v ⟨hi,hp⟩
  obtain ⟨t,rfl⟩:=hval _ v hp
  exact ⟨t,by simp only [];rw [if_neg (by lia -abstractProof)]⟩
 dsimp only
 split
 ·refine wpAny_bind (wpAny_rule (wpAny_bind (wpAny_mkInt (wpAny_bind (wpAny_pure ?_)))))
  simp -iota only [List.forIn_cons,List.forIn_nil]
  refine wpAny_bind (wpAny_bind (wpAny_bind (wpAny_isInstance (T := "int") (b:=false) (typeIs_int _ _ _) PySem.sub_int_str ?_)))
  with_reducible refine wi_neg Bool.false_ne_true ?_
  refine wpAny_pure (wpAny_bind (wpAny_bind (wpAny_isInstance (T := "int") (b:=false) (typeIs_int _ _ _) PySem.sub_int_bytes ?_)))
  with_reducible refine wi_neg Bool.false_ne_true ?_
  refine wpAny_pure (wpAny_bind (wpAny_bind (wpAny_isInstance (T := "int") (b:=false) (typeIs_int _ _ _) PySem.sub_int_bytearray ?_)))
  with_reducible refine wi_neg Bool.false_ne_true ?_
  refine wpAny_pure (wpAny_pure ?_)
  refine wpAny_bind (wpAny_newObj_type ?_)
  refine wpAny_pure ⟨plainId_quiet F.plain_sum_loop _,codeAny_sum_loopAnyS W' (fun i=>if i=0 then k else val (i-1)) hv' s.heap.objs.size hSf n 1 _ s.toks 0 0 (.inl rfl) rfl (by lia -abstractProof)
   (W'.frame 1 s _ _ ⟨Nat.one_pos,hst⟩ (by first|exact Nat.le_refl _|exact Nat.le_succ _|omega) fun b _ o e=>Heap.get?_push_of_some _ e) (by rw [e1];exact Heap.get?_push_size _ rfl) fun s' t' hm=>?_⟩
  rw [preSum_shift]
  have hm':=hm.drop_new (by first|exact Nat.le_refl _|exact Nat.le_succ _|omega)
  exact hQ s' t' (fun b o hb e=>hm'.heap b o (fun hmem=>Nat.lt_irrefl _ (Nat.lt_of_lt_of_le hb (hwr b hmem))) e) (G.movedS hm') hm'.os
 ·refine wpAny_bind (wpAny_pure ?_)
  simp -iota only [List.forIn_cons,List.forIn_nil]
  refine wpAny_bind (wpAny_bind (wpAny_bind (wpAny_isInstance (T := "int") (b:=false) (typeIs_int _ _ _) PySem.sub_int_str ?_)))
  with_reducible refine wi_neg Bool.false_ne_true ?_
  refine wpAny_pure (wpAny_bind (wpAny_bind (wpAny_isInstance (T := "int") (b:=false) (typeIs_int _ _ _) PySem.sub_int_bytes ?_)))
  with_reducible refine wi_neg Bool.false_ne_true ?_
  refine wpAny_pure (wpAny_bind (wpAny_bind (wpAny_isInstance (T := "int") (b:=false) (typeIs_int _ _ _) PySem.sub_int_bytearray ?_)))
  with_reducible refine wi_neg Bool.false_ne_true ?_
  refine wpAny_pure (wpAny_pure ?_)
  refine wpAny_bind (wpAny_newObj_type ?_)
  refine wpAny_pure ⟨plainId_quiet F.plain_sum_loop _,codeAny_sum_loopAnyS W' (fun i=>if i=0 then k else val (i-1)) hv' s.heap.objs.size hSf n 1 _ tk 0 2 (.inr rfl) rfl (by lia -abstractProof)
   (W'.frame 1 s _ _ ⟨Nat.one_pos,hst⟩ (by first|exact Nat.le_refl _|exact Nat.le_succ _|omega) fun b _ o e=>Heap.get?_push_of_some _ e) (by rw [e1];exact Heap.get?_push_size _ rfl) fun s' t' hm=>?_⟩
  rw [preSum_shift]
  have hm':=hm.drop_new (by first|exact Nat.le_refl _|exact Nat.le_succ _|omega)
  exact hQ s' t' (fun b o hb e=>hm'.heap b o (fun hmem=>Nat.lt_irrefl _ (Nat.lt_of_lt_of_le hb (hwr b hmem))) e) (G.movedS hm') hm'.os
end
end Mine
end
section
open PySem PySem.W PyProof.Rows PySem.Flt PySem.Calls
namespace Mine
structure GenBnd (h₀:Heap) (L P B:Addr):Prop where
 l:L<B
 p:P<B
 o:∀ b o,h₀.get? b=some o→b<B
private theorem fr_butTab {h₀ h h':Heap} {L P:Addr} {m:PySem.Str→Option Value} {o o':Obj} (F:Fr h₀ L h m) (N:News h₀ L h [(P,o)]) (e:Heap.ExtBut P h h') (hP:h'.get? P=some o'):Fr h₀ L h' m∧News h₀ L h' [(P,o')]:=by
 have hN:=N _ (.head _)
 refine ⟨⟨F.ns.extBut e (Ne.symm hN.2.1),fun b o q=>e b o (fun z=>?_) (F.keep b o q),F.above⟩,fun p hp=>?_⟩
 ·have:=hN.2.2
  rw [← z,q] at this;cases this
 ·rw [List.mem_singleton.mp hp]
  exact ⟨hP,hN.2⟩
private theorem code_of {K:Frag} {h:Heap} {c P:Addr} {vs ps:Array Value} {pos:Pos} {oc:Option Addr} {sl:Array (Option Value)} (X:K.In h) (hl:K.lookup c=some ⟨.type "code", oc,.fields vs,sl⟩) (h11:vs[11]?=some (.ref P))
  (h18:∃ f t,vs.getD 18 .none = .str f t) (h7:∃ f t,vs.getD 7 .none = .int f t) (h9:∃ b,vs.getD 9 .none = .bool b) (h10:∃ f t,vs.getD 10 .none = .int f t) (hp:h.get? P=some (tbO ps)) (hps:TabIs pos ps) :
  h.IsCode c P ps∧h.TableAt c P ps:=by
 have hc:=X _ _ hl
 have hne:c≠P:=fun e=>by rw [e,hp] at hc;cases hc
 obtain ⟨f,t,h18⟩:=h18
 obtain ⟨f7,t7,h7⟩:=h7
 obtain ⟨b9,h9⟩:=h9
 obtain ⟨f10,t10,h10⟩:=h10
 have e11:vs.getD 11 .none = .ref P:=by rw [Array.getD_eq_getD_getElem?,h11];rfl
 have tr:TriplesOk ps.toList:=by
  rcases hps with rfl|⟨c',rfl⟩
  ·trivial
  ·simp [TriplesOk,rawInt]
 exact ⟨⟨_,vs,f,t,f7,t7,b9,f10,t10,_,hc,rfl,e11,h18,h7,h9,h10,hp,rfl,tr,hne⟩,⟨⟨_,vs,hc,rfl,rfl,h11⟩,hp⟩⟩
section
variable {prog:Program} {w:World} {A:Around} {E:Value→Shared→Prop} {s:Shared} {K:Frag} {x dx:Addr} {its:List Value} {n:Nat} {od:Obj} {h₀:Heap} {L:Addr} {m mg mb:PySem.Str→Option Value} {p:Program} {loose:List PySem.Str} {mean:ExcName→Option Value}
private theorem gexpK {env:Env} {elt iter:PySem.Expr} {xa xb:PySem.Str} {pa pb pt:Pos} {kt:Nat} {scope:Scope} {pos:Pos} {Q:Value→Shared→Prop} {c P:Addr} {ps vs:Array Value} {xs:List (PySem.Str × PySem.Str)} {oc:Option Addr} {sl:Array (Option Value)}
  (F0:Nat→Value→Prop) (F:Fr h₀ L s.heap m) (N:News h₀ L s.heap [(P,tbO ps)]) (X:K.In h₀) (T:Top p loose mean mg mb h₀) (hps:TabIs pos ps) (G:AllBare s.gens)
  (hx:h₀.get? x=some (accO dx its n)) (hd:h₀.get? dx=some od) (hit:ItemsAt h₀ its xs)
  (hcode:env.code = .ref c) (hg:env.globals=mainGlobals) (hl:K.lookup c=some ⟨.type "code", oc,.fields vs,sl⟩) (h11:vs[11]?=some (.ref P))
  (h18:∃ f t,vs.getD 18 .none = .str f t) (h7:∃ f t,vs.getD 7 .none = .int f t) (h9:∃ b,vs.getD 9 .none = .bool b) (h10:∃ f t,vs.getD 10 .none = .int f t)
  (hh:A.handled=none) (hco:scope.isCoroutine=false) (hclos:closureFor scope env=pure []) (hcell:∀ y∈scope.names,y.2≠.cell) (hz0:scope.names.lookup (".0" : PySem.Str)=some NameKind.local)
  (hxa:scope.names.lookup xa=some .local) (hxb:scope.names.lookup xb=some .local) (hab:xa≠xb) (hkind:scope.kind = .function) (hroom:A.depth<recursionLimit)
  (hs:∀ v,genFold iter env v=pure v)
  (hiter:∀ Q':Value→Shared→Prop,Q' (.ref x) s→wpAny (model prog w) A (eval iter env) Q' E s)
  (his:findIn K (.ref 136) "__iter__" = some (some (.builtin "list.__iter__"))) (hsub:subIn K (.ref 136) (.type "list")=some true)
  (he:∀ (A':Around) E' i a b ta tb (u:Shared) m₂ code C,A'.handled=none→i<its.length→xs.getD i default=(a,b)→u.heap.Ns C m₂→m₂ xa=some (.str a ta)→m₂ xb=some (.str b tb)→(∀ b o,h₀.get? b=some o→u.heap.get? b=some o) →
   wpAny (model prog w) A' (eval elt (genEnv scope [] C code builtinsNs env)) (fun y s₃=>F0 i y∧Keeps u s₃) E' u)
  (h:∀ a s₅ ps' B,TabIs pos ps'→Fr h₀ L s₅.heap m→News h₀ L s₅.heap [(P,tbO ps')]→AllBare s₅.gens→s₅.os=s.os→GenBnd h₀ L P B→GenA prog w A B a its.length F0 s₅→Q (.ref a) s₅) :
  wpAny (model prog w) A (eval (.GeneratorExp elt [⟨.Tuple [.Name xa pa,.Name xb pb] kt pt,iter,[],0⟩] scope pos) env) Q E s:=by
 refine goalP fun G9 hG9=>?_
 obtain ⟨bm,ob,M⟩:=bmod_of_top T
 refine hG9 ?_
 clear hG9
 obtain ⟨h1,h2⟩:=code_of (X.keeps F.keep) hl h11 h18 h7 h9 h10 (N.get (.head _)) hps
 refine goalP fun G9 hG9=>?_
 obtain ⟨Ts,vals,t1,t2,t3⟩:=hit.fns
 refine hG9 ?_
 clear hG9
 have hP0:h₀.get? P=none:=(N _ (.head _)).2.2
 refine gexpT Ts vals F0 hcode h1 h2 hps (hg▸M.keeps F.keep) (T.nolimit.keeps F.keep) G hh hco hclos hcell hz0 hxa hxb hab hkind hroom hs hiter (X.keeps F.keep) (F.keep _ _ hx) (F.keep _ _ hd) his hsub
  (fun j hj=>⟨(t1 j hj).1,(t1 j hj).2.at fun o e=>F.keep _ o e⟩) t2 ?_ ?_
 ·intro A' E' i va vb u m₂ code C hA hi hv hn ha hb hk
  refine goalP fun G9 hG9=>?_
  obtain ⟨t,t',e⟩:=t3 i hi
  refine hG9 ?_
  clear hG9
  rw [hv] at e
  have e1:va = .str (xs.getD i default).1 t:=by simpa using congrArg (fun z:Array Value=>z.toList.head?) e
  have e2:vb = .str (xs.getD i default).2 t':=by have:=congrArg (fun z:Array Value=>z.toList.getLast?) e;simpa using this
  subst e1 e2
  exact he A' E' i _ _ t t' u m₂ code C hA hi rfl hn ha hb fun b o q=>hk b o (fun z=>by rw [z,hP0] at q;cases q) (F.keep b o q)
 ·intro a s₅ ps' hps' hx₅ hc₅ ht₅ G₅ os₅ X₅
  obtain ⟨F₅,N₅⟩:=fr_butTab F N hx₅ ht₅.2
  exact h a s₅ ps' _ hps' F₅ N₅ G₅ os₅ ⟨F.ns.lt,h1.lt.2,fun b o q=>Heap.lt_size (F.keep b o q)⟩ X₅
private theorem sum_startK {a B P:Addr} {n:Nat} {F0:Nat→Value→Prop} {k:Int} {tk:Tok} {o:Obj} {Q:Value→Shared→Prop} (F:Fr h₀ L s.heap m) (N:News h₀ L s.heap [(P,o)]) (G:AllBare s.gens) (bd:GenBnd h₀ L P B) (X:GenA prog w A B a n F0 s) (val:Nat→Int) (hval:∀ j v,F0 j v→∃ t,v = .int (val j) t)
  (hQ:∀ s' t',Fr h₀ L s'.heap m→News h₀ L s'.heap [(P,o)]→AllBare s'.gens→s'.os=s.os→Q (.int (k+preSum val n) t') s') :
  wpAny (model prog w) A (call (.builtin "sum") [.ref a,.int k tk]) Q E s:=by
 refine sum_start G X val hval fun s' t' hk G' os'=>hQ s' t' ?_ ?_ G' os'
 ·obtain ⟨oL,es,ep,hL,r⟩:=F.ns
  exact ⟨⟨oL,es,ep,hk _ _ bd.l hL,r⟩,fun b o q=>hk b o (bd.o b o q) (F.keep b o q),F.above⟩
 ·intro q hq
  rw [List.mem_singleton.mp hq]
  have hN:=N _ (.head _)
  exact ⟨hk _ _ bd.p hN.1,hN.2⟩
private theorem join_K {a B P:Addr} {n:Nat} {F0:Nat→Value→Prop} {tk:Tok} {o:Obj} {Q:Value→Shared→Prop} (F:Fr h₀ L s.heap m) (N:News h₀ L s.heap [(P,o)]) (G:AllBare s.gens) (bd:GenBnd h₀ L P B) (X:GenA prog w A B a n F0 s) (tx:Nat→PySem.Str) (htx:∀ j v,F0 j v→∃ u,v = .str (tx j) u)
  (hok:JoinOk (Str.ofString "") ((List.range n).map tx)=true) (hsz:n≤1000)
  (hQ:∀ s' t',Fr h₀ L s'.heap m→News h₀ L s'.heap [(P,o)]→AllBare s'.gens→s'.os=s.os→Q (.str (Txt.join (Str.ofString "") ((List.range n).map tx)) t') s') :
  wpAny (model prog w) A (call (.builtin "str.join") [.str (Str.ofString "") tk,.ref a]) Q E s:=by
 refine goalP fun G9 hG9=>?_
 obtain ⟨fp,wr,g,St,W,hst,hT,ha,hfp,hwr⟩:=X
 refine hG9 ?_
 clear hG9
 have W:=W.in4_2
 refine SC.joinGen W hT hst hfp ha (fun j v hv=>let ⟨u,e⟩:=htx j v hv;⟨_,u,e⟩) (fun s' lt hm hacc=>?_) (by rw [sizeLine_eq];lia -abstractProof)
 have hl:lt.map (·.1)=(List.range n).map tx:=by
  have hsz:lt.length=n:=by simpa [strValues] using hacc.1
  apply List.ext_getElem?
  intro j
  by_cases hj:j<n
  ·have hj':j<lt.length:=hsz▸hj
   obtain ⟨u,hv⟩:=htx j _ (hacc.2 j (.str lt[j].1 lt[j].2) (by simp [strValues,List.getElem?_eq_getElem hj']))
   injection hv with h1 _
   simp [List.getElem?_eq_getElem hj',hj,h1]
  ·rw [List.getElem?_eq_none (by simpa [hsz] using Nat.le_of_not_lt hj),List.getElem?_eq_none (by simpa using Nat.le_of_not_lt hj)]
 rw [hl]
 have hk:∀ b o,b<B→s.heap.get? b=some o→s'.heap.get? b=some o:=fun b o hb e=>hm.heap b o (fun hmem=>Nat.lt_irrefl _ (Nat.lt_of_lt_of_le hb (hwr b hmem))) e
 have G':AllBare s'.gens:=G.movedS hm
 have os':=hm.os
 refine ⟨hok,fun t' k=>hQ { s' with toks:=k } t' ?_ ?_ G' os'⟩
 ·refine goalP fun G9 hG9=>?_
  obtain ⟨oL,es,ep,hL,r⟩:=F.ns
  refine hG9 ?_
  clear hG9
  exact ⟨⟨oL,es,ep,hk _ _ bd.l hL,r⟩,fun b o q=>hk b o (bd.o b o q) (F.keep b o q),F.above⟩
 ·intro q hq
  rw [List.mem_singleton.mp hq]
  have hN:=N _ (.head _)
  exact ⟨hk _ _ bd.p hN.1,hN.2⟩
end
end Mine
end
section
open PySem PySem.W PyProof.Rows PySem.Flt PySem.Calls
namespace Mine
theorem Mkrrrrrrr:True:=by w_top off;trivial
private theorem ctG1 {x0 x1:Nat} (h0:(x0+1)≤x1):x0≤x1:=lqn [x0,x1] (.le (.a T0 Tx) T1 1 (.gle T0 T1 1)) rfl h0
private theorem ctG2 {x0 x1:Int}:(x0+x1)=(x0+(x1+0)):=Int.le_antisymm (lqz [x0,x1] (.gle (.a T0 T1) (.a T0 (.a T1 Tz)) 1) rfl) (lqz [x0,x1] (.gle (.a T0 (.a T1 Tz)) (.a T0 T1) 1) rfl)
private theorem ctG3 {x0 x1 x2:Nat} (h0:(x0+x1)≤1000) (h1:x2≤((x0+(x1+0))+(((0+1)+1)*0))):x2≤1000:=lqn [x0,x1,x2] (.le (.a T0 T1) (.n 1000) 1 (.le T2 (.a (.a T0 (.a T1 Tz)) (.m (.a (.a Tz Tx) Tx) Tz)) 1 (.gle T2 (.n 1000) 1))) rfl h0 h1
private theorem ctG4 {x0 x1 x2:Nat} (h0:x0≤(x1*1000)) (h1:x2≤1000):(x2+x0)≤((x1+1)*1000):=lqn [x0,x1,x2] (.le T0 (.m T1 (.n 1000)) 1 (.le T2 (.n 1000) 1 (.gle (.a T2 T0) (.m (.a T1 Tx) (.n 1000)) 1))) rfl h0 h1
private theorem ctG5 {x0 x1:Nat} (h0:x0≤1000) (h1:x1≤(x0*1000)):x1≤16777216:=lqn [x0,x1] (.le T0 (.n 1000) 1000 (.le T1 (.m T0 (.n 1000)) 1 (.gle T1 (.n 16777216) 1))) rfl h0 h1
private theorem GenA.toks {prog:Program} {w:World} {A:Around} {L a:Addr} {n:Nat} {F:Nat→Value→Prop} {s:Shared} {tk:Nat} (X:GenA prog w A L a n F s) (h:s.toks≤tk):GenA prog w A L a n F { s with toks:=tk }:=
 by obtain ⟨fp,wr,g,St,W,h1,h2⟩:=X;exact ⟨fp,wr,g,St,W,W.frame 0 s s.heap tk h1 h fun _ _ _ e=>e,h2⟩
section
variable {w:World} {p:Program} {loose:List Str} {mean:ExcName→Option Value} {mg mb:Str→Option Value} {dp un:Nat} {gd:Option (List Code)} {fr:Option (List Env)} {s:Shared} {Q E:Value→Shared→Prop}
noncomputable abbrev pLen:Pos:={ line:=119,col:=19,endLine:=119,endCol:=63 }
noncomputable abbrev pStr:Pos:={ line:=122,col:=32,endLine:=122,endCol:=85 }
noncomputable def lenSum (xs:List (PySem.Str × PySem.Str)):Int:=(xs.map fun q=>((q.1.length+q.2.length:Nat):Int)).sum
noncomputable def lenVal (xs:List (PySem.Str × PySem.Str)) (j:Nat):Int:=(((xs.getD j default).1.length+(xs.getD j default).2.length:Nat):Int)
private theorem preSum_lenVal (xs:List (PySem.Str × PySem.Str)):preSum (lenVal xs) xs.length=lenSum xs:=by
 have:∀ k,k≤xs.length→preSum (lenVal xs) k=lenSum (xs.take k):=by
  intro k
  induction k with
  | zero=>intro _;simp [preSum,lenSum]
  | succ k ih=>
   intro hk
   have hk':k<xs.length:=hk
   rw [preSum,ih (by omega),List.take_add_one,List.getElem?_eq_getElem hk']
   have e1:lenVal xs k=(((xs[k]'hk').1.length+(xs[k]'hk').2.length:Nat):Int):=by simp [lenVal,List.getD,List.getElem?_eq_getElem hk']
   rw [e1]
   simp only [lenSum,List.map_append,List.sum_append,Option.toList,List.map_cons,List.map_nil,List.sum_cons,List.sum_nil]
   omega
 rw [this _ (Nat.le_refl _),List.take_length]
noncomputable def strVal (xs:List (PySem.Str × PySem.Str)) (j:Nat):PySem.Str:=Txt.join (Str.ofString "") [(xs.getD j default).1,(xs.getD j default).2]
noncomputable def strJoin (xs:List (PySem.Str × PySem.Str)):PySem.Str:=Txt.join (Str.ofString "") (xs.map fun q=>Txt.join (Str.ofString "") [q.1,q.2])
private theorem join_ok {xs:List (PySem.Str × PySem.Str)} (hz:∀ q∈xs,q.1.length+q.2.length≤1000) (hl:xs.length≤1000):JoinOk (Str.ofString "") (xs.map fun q=>Txt.join (Str.ofString "") [q.1,q.2])=true:=by
 refine joinOk_of ?_
 have e0:(Str.ofString "").length=0:=by decide
 rw [e0,Nat.mul_zero,Nat.add_zero]
 have:∀ l:List (PySem.Str × PySem.Str),(∀ q∈l,q.1.length+q.2.length≤1000)→((l.map fun q=>Txt.join (Str.ofString "") [q.1,q.2]).map (·.length)).sum≤l.length*1000:=by
  intro l
  induction l with
  | nil=>intro _;simp
  | cons q l ih=>
   intro h
   have h1:=h q (.head _)
   have h2:=ih fun z hz=>h z (.tail _ hz)
   have h3:=StrLaws.join_length_le (Str.ofString "") [q.1,q.2]
   simp only [List.map_cons,List.map_nil,List.sum_cons,List.sum_nil,List.length_cons,List.length_nil,e0] at h2 h3 ⊢
   have h4:(Txt.join (Str.ofString "") [q.1,q.2]).length≤1000:=by
    have:Txt.join (Str.ofString "") [q.1,q.2]=Str.join (Str.ofString "") [q.1,q.2]:=rfl
    rw [this];omega
   omega
 have:=this xs hz
 omega
private theorem strVal_list (xs:List (PySem.Str × PySem.Str)):(List.range xs.length).map (strVal xs)=xs.map fun q=>Txt.join (Str.ofString "") [q.1,q.2]:=by
 apply List.ext_getElem?
 intro j
 by_cases hj:j<xs.length
 ·simp [List.getElem?_eq_getElem hj,hj,strVal,List.getD]
 ·rw [List.getElem?_eq_none (by simpa using Nat.le_of_not_lt hj),List.getElem?_eq_none (by simpa using Nat.le_of_not_lt hj)]
private theorem c_len0 {x dx:Addr} {its:List Value} {xs:List (PySem.Str × PySem.Str)} {n e:Nat} {hsh k:Int} {td tk:Tok} {ps:Array Value}
 (X:(hd.heap_1 w.params).In (hideAll s.heap [98])) (T:Top p loose mean mg mb (hideAll s.heap [98])) (hd:dp+3<recursionLimit) (G:AllBare s.gens)
 (hx:(hideAll s.heap [98]).get? x=some (accO dx its n)) (hdx:(hideAll s.heap [98]).get? dx=some (szD hsh td k tk e)) (hit:ItemsAt (hideAll s.heap [98]) its xs) (hz:∀ q∈xs,q.1.length+q.2.length≤1000)
 (hp:s.heap.get? 98=some (tbO ps)) (hps:TabIs pLen ps)
 (hret:∀ s' t ps',TabIs pLen ps'→Heap.ExtBut 98 s.heap s'.heap→s'.heap.get? 98=some (tbO ps')→AllBare s'.gens→s'.os=s.os→Q (.int (k+lenSum xs) t) s') :
 wpAny (model PySem.Challenge.rw_sc0045_01.prog w) (AA dp un gd fr) (call (.ref 103) [.ref x]) Q E s:=by
 revert X
 k_fill
 intro X
 refine wpAny_call ?_
 have hl9:∀ q∈[(98,tbO ps)],s.heap.get? q.1=some q.2∧q.1∈[98]:=by intro p hp';rw [List.mem_singleton.mp hp'];exact ⟨hp,.head _⟩
 walk_at "my enterM"
 k_steps
 rename Fr _ _ _ _=>F1
 rename News _ _ _ _=>N1
 refine gexpK (fun j y=>∃ t,y = .int (lenVal xs j) t) F1 N1 X T hps G hx hdx hit rfl rfl (by k_dflt k_is) rfl ⟨_,_,rfl⟩ ⟨_,_,rfl⟩ ⟨_,rfl⟩ ⟨_,_,rfl⟩ rfl rfl rfl (by decide) rfl rfl rfl (by decide) rfl ?_ (fun _=>rfl) ?_ (by k_dflt k_is) (by k_dflt k_is) ?_ ?_
 ·show dp+1<recursionLimit;omega
 ·intro Q' q
  exact ld F1 rfl q
 ·intro A' E' i a b ta tb u m₂ code C hA hi hab hn ha hb hk
  have hq:=hz (a,b) (by
   have hi':i<xs.length:=hit.length▸hi
   rw [← hab]
   simp [List.getD,List.getElem?_eq_getElem hi'])
  dsimp only at hq
  refine elt_len (mg:=mg) (mb:=mb) hn ha hb (T.g.keeps hk) (mg_none_of X T.g (by k_dflt k_is)) (T.b.keeps hk) ((T.builtins _ (by decide)).trans (by boot_fast)) (by omega) (by omega) rfl rfl rfl rfl fun t k'=>⟨⟨t,?_⟩,u.heap,k',rfl,fun _ _ e=>e⟩
  unfold lenVal
  rw [hab]
  simp
 ·intro a s₅ ps' B hps' F5 N5 G5 os5 bd X5
  clear F1 N1
  k_steps
  refine sum_startK F5 N5 G5 bd (X5.toks (Nat.le_succ _)) (lenVal xs) (fun _ _ z=>z) fun s6 t6 F6 N6 G6 o6=>?_
  rw [hit.length,preSum_lenVal]
  walk_at "Ret"
  refine hret s6 t6 ps' hps' (fun b o hb e=>F6.keep b o (hideAll_get _ e (by simpa using hb))) (N6.get (.head _)) G6 (o6.trans os5)
private theorem c_str0 {x dx:Addr} {its:List Value} {xs:List (PySem.Str × PySem.Str)} {n:Nat} {od:Obj} {ps:Array Value}
 (X:(hd.heap_1 w.params).In (hideAll s.heap [105])) (T:Top p loose mean mg mb (hideAll s.heap [105])) (hd:dp+3<recursionLimit) (G:AllBare s.gens)
 (hx:(hideAll s.heap [105]).get? x=some (accO dx its n)) (hdx:(hideAll s.heap [105]).get? dx=some od) (hit:ItemsAt (hideAll s.heap [105]) its xs) (hz:∀ q∈xs,q.1.length+q.2.length≤1000) (hl:xs.length≤1000)
 (hp:s.heap.get? 105=some (tbO ps)) (hps:TabIs pStr ps)
 (hret:∀ s' t ps',TabIs pStr ps'→Heap.ExtBut 105 s.heap s'.heap→s'.heap.get? 105=some (tbO ps')→AllBare s'.gens→s'.os=s.os→Q (.str (strJoin xs) t) s') :
 wpAny (model PySem.Challenge.rw_sc0045_01.prog w) (AA dp un gd fr) (call (.ref 110) [.ref x]) Q E s:=by
 revert X
 k_fill
 intro X
 refine wpAny_call ?_
 have hl9:∀ q∈[(105,tbO ps)],s.heap.get? q.1=some q.2∧q.1∈[105]:=by intro p hp';rw [List.mem_singleton.mp hp'];exact ⟨hp,.head _⟩
 walk_at "my enterM"
 k_steps
 rename Fr _ _ _ _=>F1
 rename News _ _ _ _=>N1
 refine gexpK (fun j y=>∃ t,y = .str (strVal xs j) t) F1 N1 X T hps G hx hdx hit rfl rfl (by k_dflt k_is) rfl ⟨_,_,rfl⟩ ⟨_,_,rfl⟩ ⟨_,rfl⟩ ⟨_,_,rfl⟩ rfl rfl rfl (by decide) rfl rfl rfl (by decide) rfl ?_ (fun _=>rfl) ?_ (by k_dflt k_is) (by k_dflt k_is) ?_ ?_
 ·show dp+1<recursionLimit;omega
 ·intro Q' q
  exact ld F1 rfl q
 ·intro A' E' i a b ta tb u m₂ code C hA hi hab hn ha hb hk
  have hq:=hz (a,b) (by
   have hi':i<xs.length:=hit.length▸hi
   rw [← hab]
   simp [List.getD,List.getElem?_eq_getElem hi'])
  dsimp only at hq
  refine elt_str (mg:=mg) hn ha hb (T.g.keeps hk) (mg_of X T.g (by k_dflt k_is)) hq rfl rfl rfl rfl rfl fun t k' h9 k9=>⟨⟨t,?_⟩,h9,k',rfl,k9⟩
  unfold strVal
  rw [hab]
 ·intro a s₅ ps' B hps' F5 N5 G5 os5 bd X5
  clear F1 N1
  k_steps
  refine join_K F5 N5 G5 bd X5 (strVal xs) (fun _ _ z=>z) ?_ (by rw [hit.length];exact hl) fun s6 t6 F6 N6 G6 o6=>?_
  ·rw [hit.length,strVal_list]
   exact join_ok hz hl
  ·rw [hit.length,strVal_list]
   walk_at "Ret"
   exact hret s6 t6 ps' hps' (fun b o hb e=>F6.keep b o (hideAll_get _ e (by simpa using hb))) (N6.get (.head _)) G6 (o6.trans os5)
end
end Mine
end
section
open PySem PySem.W PyProof.Rows PySem.Flt PySem.Calls
namespace Mine
theorem Mkrrrrrrrr:True:=trivial
private theorem lgi_kind:builtinKind "list.__getitem__" = some .method:=by decide +kernel
private theorem lgi_split:splitId "list.__getitem__" = some ("list", "__getitem__"):=by decide +kernel
private theorem lsi_split:splitId "list.__setitem__" = some ("list", "__setitem__"):=by decide +kernel
private theorem lsi_kind:builtinKind "list.__setitem__" = some .slot:=by decide +kernel
section
variable {prog:Program} {w:World} {A:Around} {E:Value→Shared→Prop} {s:Shared} {K:Frag} {x dx:Addr} {its:List Value} {n:Nat} {od:Obj}
private theorem special_bi {M:Model} {id:String} {name:PySem.Str} {args:List Value} {ox:Obj} {od:Option Obj} {Q:Option Value→Shared→Prop} (X:K.In s.heap) (I:W.InstAt s.heap x ox 136 od)
  (hs:findIn K (.ref 136) name=some (some (.builtin id))) (hb:bindSpecial (.builtin id) (.ref x)=pure (.builtin id,[.ref x])) (h:wpAny M A (call (.builtin id) (.ref x::args)) (fun v=>Q (some v)) E s) :
  wpAny M A (callSpecial? (.ref x) name args) Q E s:=
 wpAny_bind (wpAny_bind (I.type.here ((looks_findIn X hs).here (wpAny_holding (wpAny_bind (wpAny_of_eq hb (wpAny_bind (wpAny_mono h (fun _ _ z=>wpAny_pure z) fun _ _ z=>z))))))))
private theorem acc_key {k:Value} {name:PySem.Str} {ox:Obj} {od:Option Obj} {Q:Value→Shared→Prop} (X:K.In s.heap) (I:W.InstAt s.heap x ox 136 od) (hq:subIn K (.ref 136) (.type "collections.deque")=some false) (h:Q k s) :
  wpAny (model prog w) A (sequenceKey (.ref x) k name) Q E s:=by
 unfold sequenceKey
 refine wpAny_bind (I.type.here ?_)
 dsimp only
 refine wpAny_bind ?_
 unfold seqItemTypes
 refine wpAny_bind ((looks_subIn X hq).here ?_)
 exact wpAny_pure (wpAny_pure h)
private theorem b_getslice {sl:Addr} {items:Array Value} {vl vu vs:Value} {lo hi st:Option Int} {Q:Value→Shared→Prop} (hl:SeqAt s.heap x items)
  (hs:s.heap.IsSliceOf sl vl vu vs) (pl:IsPart vl lo) (pu:IsPart vu hi) (ps:IsPart vs st) (h0:st≠some 0)
  (h:Q (.ref s.heap.objs.size) { s with heap:=s.heap.push { cls:=.type "list", data:=.seq (slicePick items lo hi st) } })
  (hsz:items.size≤sizeLine):wpAny (model prog w) A (Builtin.«list.__getitem__» ⟨[.ref x,.ref sl],[]⟩) (FinTo Q) E s:=by
 obtain ⟨o,ne,ho,hd⟩:=id hl
 obtain ⟨os,hos,hcs,hds⟩:=id hs
 have hTs:s.TypeIs (.ref sl) "slice" := ⟨os,hos,hcs⟩
 show wpAny _ _ (Builtin.List.listSubscript? (.ref sl) >>= _) _ _ s
 refine wpAny_bind ?_
 unfold Builtin.List.listSubscript?
 refine wpAny_bind (wpAny_specialOf hTs slice_no_index ?_)
 with_reducible refine wi_pos rfl ?_
 refine wpAny_pure ?_
 show wpAny _ _ (typeOf (.ref sl) >>= _) _ _ s
 refine wpAny_bind (wpAny_typeOf hTs ?_)
 with_reducible refine wi_neg (by decide +kernel) ?_
 rw [listSliceParts_eq]
 have hstep:¬ ((rawPart st == rawInt 0)=true):=by
  cases st with
  | none=>exact Bool.false_ne_true
  | some c=>
   intro hh
   have:c=0:=by simpa [rawPart,rawInt] using hh
   exact h0 (by rw [this])
 refine wpAny_bind (wpAny_bind (wpAny_field hos hds (x:=vs) rfl (wpAny_bind (wpAny_listPart ps ?_))))
 with_reducible refine wi_neg hstep ?_
 refine wpAny_bind (wpAny_field hos hds (x:=vl) rfl (wpAny_bind (wpAny_listPart pl ?_)))
 refine wpAny_bind (wpAny_field hos hds (x:=vu) rfl (wpAny_bind (wpAny_listPart pu (wpAny_pure ?_))))
 refine wpAny_bind (m:=Builtin.List.listItems (.ref x)) ?_
 unfold Builtin.List.listItems
 refine wpAny_bind (wpAny_seqItems ho hd (wpAny_pure ?_))
 refine wpAny_bind (wpAny_of_eq (sliceIndices_raw lo hi st items.size h0) ?_)
 exact wpAny_bind (wpAny_newObj_type (wpAny_pure h) (Nat.le_trans (slicePick_size_le items lo hi st) hsz))
private theorem acc_getItem {sl:Addr} {vl vu:Value} {lo hi:Option Int} {Q:Value→Shared→Prop} (X:K.In s.heap) (hx:s.heap.get? x=some (accO dx its n)) (hd:s.heap.get? dx=some od)
  (hgi:findIn K (.ref 136) "__getitem__" = some (some (.builtin "list.__getitem__"))) (hsub:subIn K (.ref 136) (.type "list")=some true) (hq:subIn K (.ref 136) (.type "collections.deque")=some false)
  (hs:s.heap.IsSliceOf sl vl vu .none) (pl:IsPart vl lo) (pu:IsPart vu hi)
  (h:Q (.ref s.heap.objs.size) { s with heap:=s.heap.push { cls:=.type "list", data:=.seq (slicePick its.toArray lo hi none) } }) (hz:its.length≤1000):wpAny (model prog w) A (getItem (.ref x) (.ref sl)) Q E s:=by
 have I:=acc_inst hx hd
 have hc:∀ (A':Around) (Q':Unit→Shared→Prop) (E':Value→Shared→Prop),Q' () s→wpAny (model prog w) A' (checkBuiltinCall "list.__getitem__" ⟨[.ref x,.ref sl],[]⟩) Q' E' s:=
  fun A' Q' E' q=>check_meth (i := "list.__getitem__") (owner := "list") (nm := "__getitem__") (self:=.ref x) (rest:=[.ref sl]) (kw:=[]) lgi_kind lgi_split (acc_isList X hx hsub) (args_list_getitem _ _) q
 have hb:wpAny (model prog w) A.in1 (Builtin.«list.__getitem__» ⟨[.ref x,.ref sl],[]⟩) (FinTo Q) E s:=
  b_getslice (Q:=Q) (items:=its.toArray) ⟨_,n,hx,rfl⟩ hs pl pu .none (by simp) h (by rw [List.size_toArray,sizeLine_eq];exact lqn [_] (.le T0 (.n 1000) 1 (.gle T0 (.n 16777216) 1)) rfl hz)
 unfold getItem
 try with_reducible refine wpAny_holding ?_
 first|refine wpAny_bind (wpAny_pure ?_)|skip
 refine wpAny_bind (acc_key X I hq ?_)
 refine wpAny_bind (special_bi (id := "list.__getitem__") X I hgi (slot_list_getitem.bind _) ?_)
 refine wpAny_mono (call_bi (id := "list.__getitem__") (by decide +kernel) entry_list_getitem hc hb) (fun v s' z=>wpAny_pure z) fun _ _ z=>z
private theorem acc_tail {value slice:PySem.Expr} {i:Value} {ops:List Value} {Q:Value→Shared→Prop} (X:K.In s.heap) (hx:s.heap.get? x=some (accO dx its n)) (hd:s.heap.get? dx=some od)
  (hgi:findIn K (.ref 136) "__getitem__" = some (some (.builtin "list.__getitem__")))
  (h:wpAny (model prog w) A (getItem (.ref x) i) Q E s)
  (hs:subscripted slice false (.ref x) i=operate ops (getItem (.ref x) i)):wpAny (model prog w) A (subscriptTail value slice (.ref x) i) Q E s:=by
 have I:=acc_inst hx hd
 unfold subscriptTail getitemInPython
 refine wpAny_bind (wpAny_bind (wpAny_bind (I.type.here ((looks_findIn X hgi).here ?_))))
 refine wpAny_pure ?_
 rw [hs]
 refine wpAny_bind (wpAny_operating ?_)
 exact wpAny_mono h (fun r s' z=>wpAny_bind (wpAny_letTemporaryGo (wpAny_pure z))) fun _ _ z=>z
private theorem b_setslice {sl r:Addr} {items new:Array Value} {vl vu:Value} {lo hi:Option Int} {st en:Nat} {Q:Value→Shared→Prop} (hl:SeqAt s.heap x items) (hr:s.heap.IsList r new) (hxr:x≠r)
  (hs:s.heap.IsSliceOf sl vl vu .none) (pl:IsPart vl lo) (pu:IsPart vu hi) (hb:sliceBounds lo hi none items.size=((st:Int),(en:Int),1)) (hse:st≤en)
  (h:Q .none { s with heap:=s.heap.update x (Obj.mapSeq fun xs=>xs.extract 0 st++new++xs.extract en xs.size) })
  (hsz:items.size≤1000) (hsn:new.size≤1000):wpAny (model prog w) A (Builtin.«list.__setitem__» ⟨[.ref x,.ref sl,.ref r],[]⟩) (FinTo Q) E s:=by
 obtain ⟨o,ne,ho,hd⟩:=id hl
 obtain ⟨os,hos,hcs,hds⟩:=id hs
 obtain ⟨orr,hor,hcr,nr,hdr⟩:=id hr
 have hTs:s.TypeIs (.ref sl) "slice" := ⟨os,hos,hcs⟩
 show wpAny _ _ (Builtin.List.listSubscript? (.ref sl) >>= _) _ _ s
 refine wpAny_bind ?_
 unfold Builtin.List.listSubscript?
 refine wpAny_bind (wpAny_specialOf hTs slice_no_index ?_)
 with_reducible refine wi_pos rfl ?_
 refine wpAny_pure ?_
 show wpAny _ _ (typeOf (.ref sl) >>= _) _ _ s
 refine wpAny_bind (wpAny_typeOf hTs ?_)
 with_reducible refine wi_neg (by decide +kernel) ?_
 refine wpAny_bind (wpAny_eqm (listSliceParts_eq _) ?_)
 refine wpAny_bind (wpAny_field hos hds (x:=.none) rfl (wpAny_bind (wpAny_listPart .none ?_)))
 with_reducible refine wi_neg (by decide +kernel) ?_
 refine wpAny_bind (wpAny_field hos hds (x:=vl) rfl (wpAny_bind (wpAny_listPart pl ?_)))
 refine wpAny_bind (wpAny_field hos hds (x:=vu) rfl (wpAny_bind (wpAny_listPart pu (wpAny_pure ?_))))
 dsimp only
 have esr:Builtin.List.listSameRef (.ref x) (.ref r)=false:=by
  show (x == r)=false
  simpa using hxr
 with_reducible refine wi_neg (by rw [esr];exact Bool.false_ne_true) ?_
 refine wpAny_bind ?_
 unfold Builtin.List.listAllItems
 refine wpAny_bind (wpAny_typeOf hr.typeIs ?_)
 with_reducible refine wi_pos (by decide +kernel) ?_
 unfold Builtin.List.listItems
 refine wpAny_bind (wpAny_seqItems hor hdr (wpAny_pure ?_))
 refine wpAny_bind (wpAny_bind (wpAny_seqItems ho hd (wpAny_pure ?_)))
 have hi0:=sliceIndices_raw lo hi none items.size (by simp)
 rw [hb] at hi0
 refine wpAny_bind (wpAny_of_eq hi0 ?_)
 dsimp only
 with_reducible refine wi_pos (by decide +kernel) ?_
 refine wpAny_bind (wpAny_rule ?_)
 have hlong:Builtin.List.listTooLong (items.size+new.size)=false:=by
  unfold Builtin.List.listTooLong
  rw [decide_eq_false]
  rw [sizeLine_eq];exact Nat.not_lt.mpr (lqn [_,_] (.le T0 (.n 1000) 1 (.le T1 (.n 1000) 1 (.gle (.a T0 T1) (.n 16777216) 1))) rfl hsz hsn)
 with_reducible refine wi_neg (by rw [hlong];exact Bool.false_ne_true) ?_
 have e1:(max (st:Int) (en:Int)).toNat=en:=by lia -abstractProof
 rw [e1,Int.toNat_natCast]
 refine wpAny_bind ?_
 show wpAny _ _ (updateSeq x _) _ _ _
 refine wpAny_updateSeq ho hd (wpAny_bind (wpAny_letGo (wpAny_pure h))) ?_ ?_
 ·rw [sizeLine_eq];exact lqn [_] (.le T0 (.n 1000) 1 (.gle T0 (.n 16777216) 1)) rfl hsz
 ·simp only [Array.size_append,Array.size_extract];rw [sizeLine_eq];lia -abstractProof
private theorem acc_setItem {sl r:Addr} {new:List Value} {vl vu:Value} {lo hi:Option Int} {st en:Nat} {Q:Unit→Shared→Prop} (X:K.In s.heap) (hx:s.heap.get? x=some (accO dx its n)) (hd:s.heap.get? dx=some od)
  (hgi:findIn K (.ref 136) "__setitem__" = some (some (.builtin "list.__setitem__"))) (hsub:subIn K (.ref 136) (.type "list")=some true) (hq:subIn K (.ref 136) (.type "collections.deque")=some false)
  (hr:s.heap.IsList r new.toArray) (hs:s.heap.IsSliceOf sl vl vu .none) (pl:IsPart vl lo) (pu:IsPart vu hi) (hb:sliceBounds lo hi none its.toArray.size=((st:Int),(en:Int),1)) (hse:st≤en)
  (hz:its.length≤1000) (hzn:new.length≤1000) (hxr:x≠r)
  (h:Q () { s with heap:=s.heap.update x (Obj.mapSeq fun xs=>xs.extract 0 st++new.toArray++xs.extract en xs.size) }):wpAny (model prog w) A (setItem (.ref x) (.ref sl) (.ref r)) Q E s:=by
 have I:=acc_inst hx hd
 have hc:∀ (A':Around) (Q':Unit→Shared→Prop) (E':Value→Shared→Prop),Q' () s→wpAny (model prog w) A' (checkBuiltinCall "list.__setitem__" ⟨[.ref x,.ref sl,.ref r],[]⟩) Q' E' s:=
  fun A' Q' E' q=>check_slot (i := "list.__setitem__") (owner := "list") (nm := "__setitem__") (self:=.ref x) (rest:=[.ref sl,.ref r]) (kw:=[]) lsi_kind lsi_split (acc_isList X hx hsub) (args_list_setitem _ _ _) q
 have hbb:wpAny (model prog w) A.in1 (Builtin.«list.__setitem__» ⟨[.ref x,.ref sl,.ref r],[]⟩) (FinTo (fun _ s'=>Q () s')) E s:=
  b_setslice (Q:=fun _ s'=>Q () s') (items:=its.toArray) ⟨_,n,hx,rfl⟩ hr hxr hs pl pu hb hse h (by simpa using hz) (by simpa using hzn)
 unfold setItem
 try with_reducible refine wpAny_holding ?_
 first|refine wpAny_bind (wpAny_pure ?_)|skip
 refine wpAny_bind (acc_key X I hq ?_)
 refine wpAny_bind (special_bi (id := "list.__setitem__") X I hgi (slot_list_setitem.bind _) ?_)
 refine wpAny_mono (call_bi (id := "list.__setitem__") (by decide +kernel) entry_list_setitem hc hbb) (fun v s' z=>wpAny_pure z) fun _ _ z=>z
variable {h₀:Heap} {L:Addr} {m:PySem.Str→Option Value} {news news':List (Addr × Obj)}
private theorem acc_sliceK {value slice:PySem.Expr} {vl vu:Value} {lo hi:Option Int} {zs:List Value} {Q:Value→Shared→Prop} (F:Fr h₀ L s.heap m) (X₀:K.In h₀) (N:News h₀ L s.heap news) (hx:s.heap.get? x=some (accO dx its n)) (hd:s.heap.get? dx=some od)
  (hgi:findIn K (.ref 136) "__getitem__" = some (some (.builtin "list.__getitem__"))) (hsub:subIn K (.ref 136) (.type "list")=some true) (hq:subIn K (.ref 136) (.type "collections.deque")=some false)
  (pl:IsPart vl lo) (pu:IsPart vu hi) (e:(slicePick its.toArray lo hi none).toList=zs)
  (hs:subscripted slice false (.ref x) (.ref s.heap.objs.size)=operate [.ref s.heap.objs.size,.ref x] (getItem (.ref x) (.ref s.heap.objs.size)))
  (hz:its.length≤1000)
  (h:∀ D h',Fr h₀ L h' m→News h₀ L h' ((D,listOf zs.toArray 0)::news)→(∀ p∈news,p.1<D)→Q (.ref D) { s with heap:=h' }) :
  wpAny (model prog w) A (subscriptTail value slice (.ref x) (.ref s.heap.objs.size)) Q E { s with heap:=s.heap.push { cls:=.type "slice", data:=.fields #[vl,vu,.none] } }:=by
 have up:∀ b o,s.heap.get? b=some o→(s.heap.push { cls:=.type "slice", data:=.fields #[vl,vu,.none] }).get? b=some o:=fun b o e=>Heap.get?_push_of_some _ e
 refine acc_tail (s:={ s with heap:=s.heap.push { cls:=.type "slice", data:=.fields #[vl,vu,.none] } }) ((X₀.keeps F.keep).keeps up) (up _ _ hx) (up _ _ hd) hgi ?_ hs
 refine acc_getItem (s:={ s with heap:=s.heap.push { cls:=.type "slice", data:=.fields #[vl,vu,.none] } }) ((X₀.keeps F.keep).keeps up) (up _ _ hx) (up _ _ hd) hgi hsub hq (Heap.IsSliceOf.new ..) pl pu ?_ hz
 have N1:=News.push (F.push { cls:=.type "slice", data:=.fields #[vl,vu,.none] }) (N.grown fun _ _ e=>Heap.get?_push_of_some _ e) { cls:=.type "list", data:=.seq (slicePick its.toArray lo hi none) }
 have e2:slicePick its.toArray lo hi none=zs.toArray:=by rw [← e,Array.toArray_toList]
 rw [e2] at N1 ⊢
 refine h _ _ ((F.push _).push _) N1 fun p hp=>?_
 show p.1<(s.heap.push _).objs.size
 rw [Heap.size_push]
 exact Nat.lt_succ_of_lt (Heap.lt_size (N p hp).1)
private theorem updF_upd {d:Addr} {o o':Obj} {l:List (Addr × Obj)} {g:Obj→List (Addr × Obj)} (u:UpdF d o l g):Upd d o o' l (g o'):=by
 induction u with
 | head h=>exact .head h
 | tail h _ ih=>exact .tail h ih
private theorem mapSeq_acc (f:Array Value→Array Value) {its':List Value} (e:f its.toArray=its'.toArray):∃ n',Obj.mapSeq f (accO dx its n)=accO dx its' n':=by
 unfold Obj.mapSeq
 dsimp only
 rw [e]
 exact ⟨_,rfl⟩
private theorem acc_setK {r:Addr} {vl vu:Value} {lo hi:Option Int} {st en:Nat} {new its':List Value} {g:Obj→List (Addr × Obj)} {Q:Unit→Shared→Prop} (F:Fr h₀ L s.heap m) (X₀:K.In h₀) (N:News h₀ L s.heap news) (U:UpdF x (accO dx its n) news g) (hd:s.heap.get? dx=some od)
  (hgi:findIn K (.ref 136) "__setitem__" = some (some (.builtin "list.__setitem__"))) (hsub:subIn K (.ref 136) (.type "list")=some true) (hq:subIn K (.ref 136) (.type "collections.deque")=some false)
  (hr:s.heap.IsList r new.toArray) (pl:IsPart vl lo) (pu:IsPart vu hi) (hb:sliceBounds lo hi none its.toArray.size=((st:Int),(en:Int),1)) (hse:st≤en) (he:its.take st++new++its.drop en=its')
  (hz:its.length≤1000) (hzn:new.length≤1000) (hxr:x≠r)
  (h:∀ h' n',Fr h₀ L h' m→News h₀ L h' (g (accO dx its' n'))→Q () { s with heap:=h' }) :
  wpAny (model prog w) A (setItem (.ref x) (.ref s.heap.objs.size) (.ref r)) Q E { s with heap:=s.heap.push { cls:=.type "slice", data:=.fields #[vl,vu,.none] } }:=by
 have up:∀ b o,s.heap.get? b=some o→(s.heap.push { cls:=.type "slice", data:=.fields #[vl,vu,.none] }).get? b=some o:=fun b o e=>Heap.get?_push_of_some _ e
 obtain ⟨n',e'⟩:=mapSeq_acc (dx:=dx) (n:=n) (its:=its) (fun xs=>xs.extract 0 st++new.toArray++xs.extract en xs.size) (its':=its') (by
  rw [← he]
  apply Array.ext'
  simp
  rw [List.take_of_length_le (by rw [List.length_drop];exact lqn [_] (.gle T0 T0 1) rfl)])
 have U1:=updF_upd (o':=accO dx its' n') U
 have hx:=(N _ (upd_mem U1)).1
 have F1:=F.push { cls:=.type "slice", data:=.fields #[vl,vu,.none] }
 have N1:News h₀ L (s.heap.push { cls:=.type "slice", data:=.fields #[vl,vu,.none] }) news:=N.grown up
 obtain ⟨F',N'⟩:=upd_heap F1 N1 U1 e' rfl
 refine acc_setItem (s:={ s with heap:=s.heap.push { cls:=.type "slice", data:=.fields #[vl,vu,.none] } }) (dx:=dx) (its:=its) (n:=n) ((X₀.keeps F.keep).keeps up) (up _ _ hx) (up _ _ hd) hgi hsub hq (hr.at fun o e=>up _ _ e) (Heap.IsSliceOf.new ..) pl pu hb hse hz hzn hxr ?_
 exact h _ n' F' N'
private theorem bounds_from1 (l:List Value):sliceBounds (some 1) none none l.toArray.size=(((min 1 l.length:Nat):Int),((l.length:Nat):Int),1):=by
 simp only [sliceBounds,Option.getD_none,show (1:Int)>0 by decide,if_true,if_neg (show ¬ ((1:Int)<0) by decide),List.size_toArray]
 congr 1
 lia -abstractProof
private theorem bounds_all (l:List Value):sliceBounds none none none l.toArray.size=(((0:Nat):Int),((l.length:Nat):Int),1):=by
 simp only [sliceBounds,Option.getD_none,show (1:Int)>0 by decide,if_true,List.size_toArray]
 rfl
private theorem pick_from1 (l:List Value):(slicePick l.toArray (some 1) none none).toList=l.drop 1:=by
 rw [kmk_pick_nat _ (bounds_from1 l)]
 show (l.drop (min 1 l.length)).take (l.length-min 1 l.length)=_
 rw [kmk_drop_min,List.take_of_length_le (by rw [List.length_drop];lia -abstractProof)]
end
end Mine
end
section
open PySem PySem.W PyProof.Rows PySem.Flt PySem.Calls
namespace Mine
theorem Mkrrrrrrrrr:True:=by w_top off;trivial
private theorem ctP1 {x0:Nat}:0≤x0:=lqn [x0] (.gle Tz T0 1) rfl
private theorem put_size {hsh hsh' k:Int} {td tk tn:Tok} {v:Value} {e:Nat}:(putL (Str.ofString "_initial_size") hsh' (.str (Str.ofString "_initial_size") tn) v [⟨hsh,.str (Str.ofString "_initial_size") td,.int k tk⟩],putN (Str.ofString "_initial_size") [⟨hsh,.str (Str.ofString "_initial_size") td,.int k tk⟩] e)=([⟨hsh,.str (Str.ofString "_initial_size") td,v⟩],e):=by
 have h:(Value.str (Str.ofString "_initial_size") td).isStr (Str.ofString "_initial_size")=true:=by
  simp [Value.isStr]
 simp [putL,putN,h]
section
variable {w:World} {p:Program} {loose:List Str} {mean:ExcName→Option Value} {mg mb:Str→Option Value} {dp un:Nat} {gd:Option (List Code)} {fr:Option (List Env)} {s:Shared} {Q E:Value→Shared→Prop}
private theorem c_popfrom {x dx:Addr} {its:List Value} {n e:Nat} {hsh k:Int} {td tk ti:Tok}
 (X:(hd.heap_1 w.params).In (hideAll s.heap [x])) (T:Top p loose mean mg mb (hideAll s.heap [x])) (hd:dp+2<recursionLimit) (hz:its.length≤1000)
 (hx:s.heap.get? x=some (accO dx its n)) (hdx:(hideAll s.heap [x]).get? dx=some (szD hsh td k tk e))
 (hret:∀ r h' tk' n',ButExt [x] s.heap h'→s.heap.get? r=none→h'.get? r=some (lst (its.drop 1) 0)→h'.get? x=some (accO dx (its.take 1) n')→Q (.ref r) { s with heap:=h',toks:=tk' }) :
 wpAny (model PySem.Challenge.rw_sc0045_01.prog w) (AA dp un gd fr) (call (.ref 88) [.ref x,.int 1 ti]) Q E s:=by
 revert X
 k_fill
 intro X
 refine wpAny_call ?_
 have hl9:∀ q∈[(x,accO dx its n)],s.heap.get? q.1=some q.2∧q.1∈[x]:=by intro p hp;rw [List.mem_singleton.mp hp];exact ⟨hx,.head _⟩
 walk_at "my enterM"
 k_steps
 rename News _ _ _ _=>N5
 have h9:=N5.get (.tail _ (.tail _ (.head _)))
 have e9:its.take (min 1 its.length)++[]++its.drop its.length=its.take 1:=by
  rw [kmk_take_min,List.append_nil,List.drop_length,List.append_nil]
 rw [e9] at h9
 refine hret _ _ _ _ (but_of (by assumption)) (fresh_of N5 (.tail _ (.head _)) ?_) (N5.get (.tail _ (.head _))) h9
 intro hh
 exact absurd (List.mem_singleton.mp hh) (neN (by omega))
private theorem c_reset {x dx r:Addr} {its new:List Value} {n e nr:Nat} {hsh k:Int} {td tk:Tok}
 (X:(hd.heap_1 w.params).In (hideAll s.heap [x,dx])) (T:Top p loose mean mg mb (hideAll s.heap [x,dx])) (hd:dp+2<recursionLimit) (hz:its.length≤1000) (hzn:new.length≤1000) (hxr:x≠r)
 (hx:s.heap.get? x=some (accO dx its n)) (hdx:s.heap.get? dx=some (szD hsh td k tk e)) (hr:(hideAll s.heap [x,dx]).get? r=some (lst new nr)) (hne:Apart x dx)
 (hret:∀ h' tk' n' td' tk2,ButExt [x,dx] s.heap h'→h'.get? x=some (accO dx new n')→h'.get? dx=some (szD hsh td' 0 tk2 e)→Q .none { s with heap:=h',toks:=tk' }) :
 wpAny (model PySem.Challenge.rw_sc0045_01.prog w) (AA dp un gd fr) (call (.ref 118) [.ref x,.ref r]) Q E s:=by
 revert X
 k_fill
 intro X
 refine wpAny_call ?_
 have hl9:∀ q∈[(x,accO dx its n),(dx,szD hsh td k tk e)],s.heap.get? q.1=some q.2∧q.1∈[x,dx]:=by
  intro p hp
  rcases List.mem_cons.mp hp with rfl|hp
  ·exact ⟨hx,.head _⟩
  ·rw [List.mem_singleton.mp hp];exact ⟨hdx,.tail _ (.head _)⟩
 walk_at "my enterM"
 k_steps
 rename News _ _ _ _=>N5
 have h9:=N5.get (.head _)
 have e9:its.take 0++new++its.drop its.length=new:=by
  rw [List.take_zero,List.nil_append,List.drop_length,List.append_nil]
 rw [e9] at h9
 refine hret _ _ _ _ _ (but_of (by assumption)) h9 (N5.get (.tail _ (.head _)))
end
end Mine
end
section
open PySem PySem.W PyProof.Rows PySem.Flt PySem.Calls
namespace Mine
theorem Mkrrrrrrrrrr:True:=trivial
section
variable {prog:Program} {w:World} {A:Around} {E:Value→Shared→Prop} {s:Shared} {env:Env} {h₀:Heap} {Q:Flow→Shared→Prop}
inductive MLoopEnd {σ:Type} (h₀:Heap) (L:Addr) (os₀:OsState) (I:Addr) (oI:Obj) (led:σ→List (Addr × Obj)) (ps:σ→List (PySem.Str × Value)) (stored:List PySem.Str) (m₀:PySem.Str→Option Value) (Inv:σ→Prop) (s₃:Shared):Prop
 | mk (c':σ) (m':PySem.Str→Option Value) (news':List (Addr × Obj)) (F:Fr h₀ L s₃.heap m') (N:News h₀ L s₃.heap news') (hn:∀ p∈(I,oI)::led c',p∈news') (hO:∀ p∈led c',p.1≠I) (G:AllBare s₃.gens) (o:s₃.os=os₀) (hk:∀ p∈ps c',m' p.1=some p.2) (hr:∀ z,(∀ p∈ps c',z≠p.1)→stored.contains z=false→m' z=m₀ z) (J:Inv c'):MLoopEnd h₀ L os₀ I oI led ps stored m₀ Inv s₃
noncomputable def MLoopPost {σ:Type} (h₀:Heap) (L:Addr) (s:Shared) (I:Addr) (oI:Obj) (led:σ→List (Addr × Obj)) (ps:σ→List (PySem.Str × Value)) (stored:List PySem.Str) (m₀:PySem.Str→Option Value) (Inv:σ→Prop) (Q:Flow→Shared→Prop) (f:Flow) (s₃:Shared):Prop:=
 match f with
 | .ret v=>Q (.ret v) s₃
 | .brk=>Q .next s₃
 | _=>MLoopEnd h₀ L s.os I oI led ps stored m₀ Inv s₃
noncomputable abbrev mMap (stored:List PySem.Str) (u m₀:PySem.Str→Option Value) (ps:List (PySem.Str × Value)):PySem.Str→Option Value:=kstB (fun z=>if stored.contains z then u z else m₀ z) ps
private theorem Same.map0 {S:List PySem.Str} {u m₀:PySem.Str→Option Value}:Same S (mMap S u m₀ []) m₀:=fun z hz=>by show (if S.contains z then u z else m₀ z)=m₀ z;rw [hz];rfl
private theorem Same.mapc {S S':List PySem.Str} {u m m₀:PySem.Str→Option Value} {x:PySem.Str} {v:Value} {ps:List (PySem.Str × Value)} (hx:S.contains x=true) (h:Same S (mMap S' u m ps) m₀):Same S (mMap S' u m ((x,v)::ps)) m₀:=fun z hz=>by
 show (if z=x then some v else mMap S' u m ps z)=m₀ z
 by_cases e:z=x
 ·rw [e,hx] at hz;cases hz
 ·rw [if_neg e];exact h z hz
private theorem Same.map2 {S S':List PySem.Str} {u m m₀:PySem.Str→Option Value} (h1:S'.all (S.contains ·)=true) (h:Same S m m₀):Same S (mMap S' u m []) m₀:=by
 intro z hz
 show (if S'.contains z then u z else m z)=m₀ z
 rw [if_neg ?_]
 ·exact h z hz
 ·intro q
  rw [List.contains_iff_mem] at q
  rw [List.all_eq_true.mp h1 z q] at hz
  cases hz
private theorem for_K {σ:Type} {x:PySem.Str} {px:Pos} {body:List Stmt} {I:Addr} {n:Nat} {P:Nat→Value→Prop} {St:Nat→Heap→Prop} {m₀:PySem.Str→Option Value}
  (led:σ→List (Addr × Obj)) (ps:σ→List (PySem.Str × Value)) (stored:List PySem.Str) (Inv:Nat→σ→Prop) (c₀:σ)
  (W:Walks prog w A I [I] [I] n P St) (hlive:∀ i h,St i h→∃ o,h.get? I=some o) (hx:env.kindOf x=some .local) (hp:(env.scope.kind == .class || (env.scope.kind == .module && env.locals != env.globals))=false)
  (hL:env.locals≠I) (hI:h₀.get? I=none) (hst:St 0 s.heap) (F:Fr h₀ env.locals s.heap m₀) (N:News h₀ env.locals s.heap (led c₀)) (hO:∀ p∈led c₀,p.1≠I) (G:AllBare s.gens)
  (hk:∀ p∈ps c₀,m₀ p.1=some p.2) (i0:Inv 0 c₀)
  (turn:∀ i v c u oI (s':Shared),i<n→P i v→Inv i c→(∀ p∈led c,p.1≠I)→Fr h₀ env.locals s'.heap (mi x v (mMap stored u m₀ (ps c)))→News h₀ env.locals s'.heap ((I,oI)::led c)→AllBare s'.gens→s'.os=s.os →
   wpAny (model prog w) A (execs body env) (MLoopPost h₀ env.locals s I oI led ps stored m₀ (Inv (i+1)) Q) E s')
  (done:∀ c u (s':Shared),Inv n c→Fr h₀ env.locals s'.heap (mMap stored u m₀ (ps c))→News h₀ env.locals s'.heap (led c)→AllBare s'.gens→s'.os=s.os→Q .next s')
  (hE:PassesOwn (model prog w) A env E) :
  codeAny (model prog w) A (.forLoop (.Name x px) (.ref I) body [] env) (fun r s'=>match r with | .ok f=>Q f s' | .error e=>cameBackBy (model prog w) A env E e s') s:=by
 refine codeAny_forLoop
  (fun k s'=>∃ i c u,Inv i c∧St i s'.heap∧Fr h₀ env.locals s'.heap (mMap stored u m₀ (ps c))∧News h₀ env.locals s'.heap (led c)∧(∀ p∈led c,p.1≠I)∧AllBare s'.gens∧s'.os=s.os∧i≤n∧k=n+1-i) ?_ (n+1)
  ⟨0,c₀,m₀,i0,hst,?_,N,hO,G,rfl,Nat.zero_le _,rfl⟩
 ·intro k s' hJ9
  refine goalP fun G9 hG9=>?_
  obtain ⟨i,c,u,hJ,hst',F',N',hO',G',os',hi,rfl⟩:=hJ9
  refine hG9 ?_
  clear hG9
  have next:∀ h₁:Heap,(∀ b o,b ∉ [I]→s'.heap.get? b=some o→h₁.get? b=some o)→Fr h₀ env.locals h₁ (mMap stored u m₀ (ps c))∧News h₀ env.locals h₁ (led c):=fun h₁ hk₁=>
   ⟨⟨F'.ns.at' fun o e=>hk₁ _ o (by simpa using hL) e,fun b o e=>hk₁ b o (fun hb=>by rw [List.mem_singleton.mp hb,hI] at e;cases e) (F'.keep b o e),F'.above⟩,fun p hp=>⟨hk₁ _ _ (by simpa using hO' p hp) (N' p hp).1,(N' p hp).2⟩⟩
  by_cases hlt:i<n
  ·refine W.item i _ _ _ hlt hst' fun v h₁ tk₁ hP hst₁ hk₁=>?_
   obtain ⟨F₁,N₁⟩:=next h₁ hk₁
   refine wpAny_assign_Name (wpAny_storeName_local hx F₁.ns (fun h₂ hn₂ hs₂=>?_) hp)
   have F₂:=F₁.set hn₂ hs₂
   have N₂:=N₁.set hs₂
   have hst₂:St (i+1) h₂:=W.frame _ _ _ hst₁ fun b hb o e=>(hs₂.2 b fun q=>hL (by rw [← List.mem_singleton.mp hb,q])).trans e
   obtain ⟨oI,hoI⟩:=hlive _ _ hst₂
   have N₃:News h₀ env.locals h₂ ((I,oI)::led c):=fun p hp=>by
    rcases List.mem_cons.mp hp with rfl|hp
    ·exact ⟨hoI,Ne.symm hL,hI⟩
    ·exact N₂ p hp
   refine wpAny_mono (wpAny_passesOwn hE (turn i v c u oI { s' with heap:=h₂,toks:=tk₁+1 } hlt hP hJ hO' F₂ N₃ G' os')) (fun f s₃ h₃=>?_) fun _ _ e=>e
   have fin:MLoopEnd h₀ env.locals s.os I oI led ps stored m₀ (Inv (i+1)) s₃→∃ m,m<n+1-i∧∃ i c u,Inv i c∧St i s₃.heap∧Fr h₀ env.locals s₃.heap (mMap stored u m₀ (ps c))∧News h₀ env.locals s₃.heap (led c)∧(∀ p∈led c,p.1≠I)∧AllBare s₃.gens∧s₃.os=s.os∧i≤n∧m=n+1-i:=by
    rintro ⟨c',m',news',F9,N9,hn9,hO9,G9,o9,hk9,hr9,J9⟩
    refine ⟨n+1-(i+1),by lia -abstractProof,i+1,c',m',J9,?_,ksw_fr hk9 hr9 F9,fun p hp=>N9 p (hn9 p (.tail _ hp)),hO9,G9,o9,hlt,rfl⟩
    refine W.frame _ _ _ hst₂ fun b hb o e=>?_
    rw [List.mem_singleton.mp hb] at e ⊢
    rw [hoI] at e
    cases e
    exact (N9 _ (hn9 _ (.head _))).1
   cases f with
   | ret v=>exact h₃
   | brk=>exact h₃
   | cont=>exact fin h₃
   | next=>exact fin h₃
  ·have hin:i=n:=by lia -abstractProof
   subst hin
   refine W.done _ _ _ hst' fun h₁ tk₁ hk₁=>wpAny_execs_nil ?_
   obtain ⟨F₁,N₁⟩:=next h₁ hk₁
   exact done c u { s' with heap:=h₁,toks:=tk₁ } hJ F₁ N₁ G' os'
 ·exact ksw_fr (m₁:=m₀) hk (fun _ _ _=>rfl) F
private theorem range_K {σ:Type} {x:PySem.Str} {px:Pos} {body:List Stmt} {r:Addr} {n:Nat} {z:Int} {t u v:Tok} {m₀:PySem.Str→Option Value} {news:List (Addr × Obj)}
  (led:σ→List (Addr × Obj)) (ps:σ→List (PySem.Str × Value)) (stored:List PySem.Str) (Inv:Nat→σ→Prop) (c₀:σ)
  (hr:IsRange s.heap r 0 z 1 t u v) (hz:z=(n:Int)) (hn:n<1000000) (hh:A.handled=none) (hx:env.kindOf x=some .local) (hp:(env.scope.kind == .class || (env.scope.kind == .module && env.locals != env.globals))=false)
  (F:Fr h₀ env.locals s.heap m₀) (N:News h₀ env.locals s.heap news) (hN:∀ p∈led c₀,p∈news) (G:AllBare s.gens)
  (hk:∀ p∈ps c₀,m₀ p.1=some p.2) (i0:Inv 0 c₀)
  (turn:∀ i t c u I oI (s':Shared),i<n→Inv i c→(∀ p∈led c,p.1≠I)→Fr h₀ env.locals s'.heap (mi x (.int i t) (mMap stored u m₀ (ps c)))→News h₀ env.locals s'.heap ((I,oI)::led c)→AllBare s'.gens→s'.os=s.os →
   wpAny (model prog w) A (execs body env) (MLoopPost h₀ env.locals s I oI led ps stored m₀ (Inv (i+1)) Q) E s')
  (done:∀ c u (s':Shared),Inv n c→Fr h₀ env.locals s'.heap (mMap stored u m₀ (ps c))→News h₀ env.locals s'.heap (led c)→AllBare s'.gens→s'.os=s.os→Q .next s')
  (hE:PassesOwn (model prog w) A env E:=by passes_own) :
  wpAny (model prog w) A (pyIter (.ref r)) (fun it s₂=>codeAny (model prog w) A (.forLoop (.Name x px) it body [] env) (fun r s'=>match r with | .ok f=>Q f s' | .error e=>cameBackBy (model prog w) A env E e s') s₂) E s:=by
 subst hz
 refine wpAny_pyIter_range hr (small_one (by lia -abstractProof) (by lia -abstractProof) (by lia -abstractProof) (by lia -abstractProof)) ?_
 have up:∀ b o,s.heap.get? b=some o→(s.heap.push { cls:=.type "range_iterator", data:=.fields #[rawInt 0,rawInt (Builtin.Range.rangeSize 0 n 1),rawInt 1] }).get? b=some o:=fun b o e=>Heap.get?_push_of_some _ e
 have hI:h₀.get? s.heap.objs.size=none:=by
  cases q:h₀.get? s.heap.objs.size with
  | none=>rfl
  | some o=>exact absurd (Heap.lt_size (F.keep _ _ q)) (Nat.lt_irrefl _)
 refine for_K (s:={ s with heap:=s.heap.push { cls:=.type "range_iterator", data:=.fields #[rawInt 0,rawInt (Builtin.Range.rangeSize 0 n 1),rawInt 1] } }) led ps stored Inv c₀
  (Walks.range hh s.heap.objs.size 0 1 n) (fun i h st=>⟨_,st⟩) hx hp (Nat.ne_of_lt F.ns.lt) hI ?_ (F.push _) (fun p hp=>⟨up _ _ (N p (hN p hp)).1,(N p (hN p hp)).2⟩) (fun p hp=>Nat.ne_of_lt (Heap.lt_size (N p (hN p hp)).1)) G hk i0
  (fun i v c u oI s' hi hP hJ hO F' N' G' o'=>?_) (fun c u s' hJ F' N' G' o'=>done c u s' hJ F' N' G' o') hE
 ·have e1:Builtin.Range.rangeSize 0 n 1=(n:Int):=by rw [rangeSize_nat];lia -abstractProof
  rw [e1]
  show IsRangeIter _ _ _ _ _
  have:=Heap.get?_push_size s.heap (o:={ cls:=.type "range_iterator", data:=.fields #[rawInt 0,rawInt (n:Int),rawInt 1] }) rfl
  simpa [IsRangeIter] using this
 ·obtain ⟨t',rfl⟩:=hP
  have e:(0:Int)+(i:Int)*1=(i:Int):=by lia -abstractProof
  rw [e] at F'
  exact turn i t' c u _ oI s' hi hJ hO F' N' G' o'
private theorem str_K {σ:Type} {x:PySem.Str} {px:Pos} {body:List Stmt} {str:PySem.Str} {t:Tok} {m₀:PySem.Str→Option Value} {news:List (Addr × Obj)}
  (led:σ→List (Addr × Obj)) (ps:σ→List (PySem.Str × Value)) (stored:List PySem.Str) (Inv:Nat→σ→Prop) (c₀:σ)
  (hh:A.handled=none) (hx:env.kindOf x=some .local) (hp:(env.scope.kind == .class || (env.scope.kind == .module && env.locals != env.globals))=false)
  (F:Fr h₀ env.locals s.heap m₀) (N:News h₀ env.locals s.heap news) (hN:∀ p∈led c₀,p∈news) (G:AllBare s.gens)
  (hk:∀ p∈ps c₀,m₀ p.1=some p.2) (i0:Inv 0 c₀)
  (turn:∀ i cd t c u I oI (s':Shared),str.cps[i]?=some cd→Inv i c→(∀ p∈led c,p.1≠I)→Fr h₀ env.locals s'.heap (mi x (.str ⟨#[cd]⟩ t) (mMap stored u m₀ (ps c)))→News h₀ env.locals s'.heap ((I,oI)::led c)→AllBare s'.gens→s'.os=s.os →
   wpAny (model prog w) A (execs body env) (MLoopPost h₀ env.locals s I oI led ps stored m₀ (Inv (i+1)) Q) E s')
  (done:∀ c u (s':Shared),Inv str.cps.size c→Fr h₀ env.locals s'.heap (mMap stored u m₀ (ps c))→News h₀ env.locals s'.heap (led c)→AllBare s'.gens→s'.os=s.os→Q .next s')
  (hE:PassesOwn (model prog w) A env E:=by passes_own) :
  wpAny (model prog w) A (pyIter (.str str t)) (fun it s₂=>codeAny (model prog w) A (.forLoop (.Name x px) it body [] env) (fun r s'=>match r with | .ok f=>Q f s' | .error e=>cameBackBy (model prog w) A env E e s') s₂) E s:=by
 have hI:h₀.get? s.heap.objs.size=none:=by
  cases q:h₀.get? s.heap.objs.size with
  | none=>rfl
  | some o=>exact absurd (Heap.lt_size (F.keep _ _ q)) (Nat.lt_irrefl _)
 have fin:∀ (o:Obj) (St:Nat→Heap→Prop),Walks prog w A s.heap.objs.size [s.heap.objs.size] [s.heap.objs.size] str.cps.size (SignAt str) St→(∀ i h,St i h→∃ o,h.get? s.heap.objs.size=some o)→St 0 (s.heap.push o) →
   codeAny (model prog w) A (.forLoop (.Name x px) (.ref s.heap.objs.size) body [] env) (fun r s'=>match r with | .ok f=>Q f s' | .error e=>cameBackBy (model prog w) A env E e s') { s with heap:=s.heap.push o }:=by
  intro o St W hl hst
  have up:∀ b ob,s.heap.get? b=some ob→(s.heap.push o).get? b=some ob:=fun b ob e=>Heap.get?_push_of_some _ e
  refine for_K (s:={ s with heap:=s.heap.push o }) led ps stored Inv c₀ W hl hx hp (Nat.ne_of_lt F.ns.lt) hI hst (F.push _) (fun p hp=>⟨up _ _ (N p (hN p hp)).1,(N p (hN p hp)).2⟩) (fun p hp=>Nat.ne_of_lt (Heap.lt_size (N p (hN p hp)).1)) G hk i0
   (fun i v c u oI s' hi hP hJ hO F' N' G' o'=>?_) (fun c u s' hJ F' N' G' o'=>done c u s' hJ F' N' G' o') hE
  refine goalP fun G9 hG9=>?_
  obtain ⟨cd,t',h1,rfl⟩:=hP
  refine hG9 ?_
  clear hG9
  exact turn i cd t' c u _ oI s' h1 hJ hO F' N' G' o'
 cases ha:str.cps.all (·<128)
 ·exact wpAny_pyIter_wide ha (fin _ _ (Walks.strWide hh _ str t) (fun i h st=>let ⟨o,ho,_⟩:=st;⟨o,ho⟩) ⟨_,Heap.get?_push_size _ rfl,rfl,rfl⟩)
 ·exact wpAny_pyIter_ascii ha (fin _ _ (Walks.strAscii hh _ str t) (fun i h st=>let ⟨o,ho,_⟩:=st;⟨o,ho⟩) ⟨_,Heap.get?_push_size _ rfl,rfl,rfl⟩)
end
end Mine
end
section
open PySem PySem.W PyProof.Rows PySem.Flt
namespace Mine
theorem Mkrrrrrrrrrrr:True:=by w_top off;trivial
section
variable {w:World} {p:Program} {loose:List Str} {mean:ExcName→Option Value} {mg mb:Str→Option Value} {dp un:Nat} {gd:Option (List Code)} {fr:Option (List Env)} {s:Shared} {Q E:Value→Shared→Prop}
private theorem c_push {x dx:Addr} {its:List Value} {n e:Nat} {hsh k:Int} {td tk tf tp:Tok} {f q:PySem.Str}
 (X:(hd.heap_1 w.params).In (hideAll s.heap [x])) (T:Top p loose mean mg mb (hideAll s.heap [x])) (hd:dp+2<recursionLimit) (hz:its.length≤1000)
 (hx:s.heap.get? x=some (accO dx its n)) (hdx:(hideAll s.heap [x]).get? dx=some (szD hsh td k tk e))
 (hret:∀ r h' tk',ButExt [x] s.heap h'→s.heap.get? r=none→h'.get? r=some (tup [.str f tf,.str q tp])→h'.get? x=some (accO dx (its++[.ref r]) (n+1))→Q .none { s with heap:=h',toks:=tk' }) :
 wpAny (model PySem.Challenge.rw_sc0045_01.prog w) (AA dp un gd fr) (call (.ref 80) [.ref x,.str f tf,.str q tp]) Q E s:=by
 revert X
 k_fill
 intro X
 refine wpAny_call ?_
 have hl9:∀ q∈[(x,accO dx its n)],s.heap.get? q.1=some q.2∧q.1∈[x]:=by intro p hp;rw [List.mem_singleton.mp hp];exact ⟨hx,.head _⟩
 walk_at "my enterM"
 k_steps
 rename News _ _ _ _=>N5
 refine hret _ _ _ (but_of (by assumption)) (fresh_of N5 (.head _) ?_) (N5.get (.head _)) (N5.get (.tail _ (.head _)))
 intro hh
 exact absurd (List.mem_singleton.mp hh) (neN (by omega))
end
end Mine
end
section
open PySem PySem.W PyProof.Rows PySem.Flt PySem.Calls
namespace Mine
theorem Mkrrrrrrrrrrrr:True:=trivial
inductive ItemsL (l:List (Addr × Obj)):List Value→List (PySem.Str × PySem.Str)→Prop
 | nil:ItemsL l [] []
 | cons {r:Addr} {a b:PySem.Str} {t u:Tok} {vs xs}:(r,tup [.str a t,.str b u])∈l→ItemsL l vs xs→ItemsL l (.ref r::vs) ((a,b)::xs)
private theorem ItemsL.mono {l l':List (Addr × Obj)} (k:∀ p∈l,p∈l') {vs xs} (z:ItemsL l vs xs):ItemsL l' vs xs:=by
 induction z with
 | nil=>exact .nil
 | cons e _ ih=>exact .cons (k _ e) ih
private theorem ItemsL.length {l:List (Addr × Obj)} {vs xs} (z:ItemsL l vs xs):vs.length=xs.length:=by
 induction z with
 | nil=>rfl
 | cons _ _ ih=>exact congrArg Nat.succ ih
private theorem ItemsL.append {l:List (Addr × Obj)} {vs xs vs' xs'} (y:ItemsL l vs xs) (z:ItemsL l vs' xs'):ItemsL l (vs++vs') (xs++xs'):=by
 induction y with
 | nil=>exact z
 | cons e _ ih=>exact .cons e ih
private theorem ItemsL.snoc {l l':List (Addr × Obj)} {vs xs} {r:Addr} {a b:PySem.Str} {t u:Tok} (z:ItemsL l vs xs) (k:∀ p∈l,p∈l') (hm:(r,tup [.str a t,.str b u])∈l'):ItemsL l' (vs++[.ref r]) (xs++[(a,b)]):=
 (z.mono k).append (.cons hm .nil)
private theorem ItemsL.take {l:List (Addr × Obj)} {vs xs} (z:ItemsL l vs xs):∀ k,ItemsL l (vs.take k) (xs.take k):=by
 induction z with
 | nil=>intro k;rw [List.take_nil,List.take_nil];exact .nil
 | cons e _ ih=>
  intro k
  cases k with
  | zero=>exact .nil
  | succ k=>exact .cons e (ih k)
private theorem ItemsL.drop {l:List (Addr × Obj)} {vs xs} (z:ItemsL l vs xs):∀ k,ItemsL l (vs.drop k) (xs.drop k):=by
 induction z with
 | nil=>intro k;rw [List.drop_nil,List.drop_nil];exact .nil
 | cons e z ih=>
  intro k
  cases k with
  | zero=>exact .cons e z
  | succ k=>exact ih k
private theorem ItemsL.last0 {l:List (Addr × Obj)} {vs:List Value} {ys:List (PySem.Str × PySem.Str)} (z:ItemsL l vs ys):∀ {xs q},ys=xs++[q]→∃ vs' r t u,vs=vs'++[.ref r]∧ItemsL l vs' xs∧(r,tup [.str q.1 t,.str q.2 u])∈l:=by
 induction z with
 | nil=>intro xs q h;cases xs<;>cases h
 | cons e z ih=>
  intro xs q h
  cases xs with
  | nil=>
   cases h
   cases z
   exact ⟨[],_,_,_,rfl,.nil,e⟩
  | cons x xs=>
   have h1:_=x:=(List.cons.inj h).1
   have h2:_=xs++[q]:=(List.cons.inj h).2
   cases h1
   obtain ⟨vs',r,t,u,rfl,z1,m1⟩:=ih h2
   exact ⟨_::vs',r,t,u,rfl,.cons e z1,m1⟩
private theorem ItemsL.last {l:List (Addr × Obj)} {vs:List Value} {xs:List (PySem.Str × PySem.Str)} {q:PySem.Str × PySem.Str} (z:ItemsL l vs (xs++[q])):∃ vs' r t u,vs=vs'++[.ref r]∧ItemsL l vs' xs∧(r,tup [.str q.1 t,.str q.2 u])∈l:=z.last0 rfl
private theorem ItemsL.at {l:List (Addr × Obj)} {h:Heap} (k:∀ p∈l,p.2.cls≠.none→h.get? p.1=some p.2) {vs xs} (z:ItemsL l vs xs):ItemsAt h vs xs:=by
 induction z with
 | nil=>exact .nil
 | cons e _ ih=>exact .cons (k _ e nofun) ih
private theorem off1_all {D:Addr} {l:List (Addr × Obj)} (h:LCg.Off1 D l):∀ p∈l,p.1≠D:=by
 induction l with
 | nil=>intro p hp;cases hp
 | cons q l ih=>
  intro p hp
  rcases List.mem_cons.mp hp with rfl|hp
  ·exact h.1
  ·exact ih h.2 p hp
private theorem off1_mk {D a:Addr} {o:Obj} {l:List (Addr × Obj)} (h:Apart a D) (z:LCg.Off1 D l):LCg.Off1 D ((a,o)::l):=⟨h,z⟩
private theorem ownOff_cons {r:Addr} {o:Obj} {old:List (Addr × Obj)} {adr:List Addr} (h:∀ b∈adr,Apart b r) (z:OwnOff old adr):OwnOff ((r,o)::old) adr:=by
 intro p hp b hb
 rcases List.mem_cons.mp hp with rfl|hp
 ·exact (h b hb).ne'
 ·exact z p hp b hb
section
variable {h₀ h h':Heap} {L x dx P:Addr} {m:PySem.Str→Option Value} {news news':List (Addr × Obj)} {o o' od:Obj} {ps:Array Value}
private theorem hid_get (N:News h₀ L h news) (hm:(x,o)∈news) (hp:(P,tbO ps)∈news) (hc:o.cls≠.none):(hideAll h [P]).get? x=some o:=by
 refine hideAll_get _ (N.get hm) fun hi=>?_
 have e:=List.mem_singleton.mp hi
 have h1:=N.get hm
 have h2:=N.get hp
 rw [e,h2] at h1
 cases h1
 exact hc rfl
private theorem but_upd2 {o2 od2:Obj} {l1 l2:List (Addr × Obj)} (F:Fr h₀ L h m) (N:News h₀ L h news) (U1:Upd x o o2 news l1) (U2:Upd dx od od2 l1 l2) (hne:x≠dx) (hb:ButExt [x,dx] h h') (hx':h'.get? x=some o2) (hd':h'.get? dx=some od2) :
  Fr h₀ L h' m∧News h₀ L h' l2:=by
 have hx:=upd_mem U1
 obtain ⟨pre,post,rfl,rfl,a,b⟩:=U1.split
 have hd1:=upd_mem U2
 have hd:∃ od',(dx,od')∈pre++(x,o)::post:=by
  rcases List.mem_append.mp hd1 with h1|h1
  ·exact ⟨_,List.mem_append_left _ h1⟩
  ·rcases List.mem_cons.mp h1 with h2|h2
   ·exact absurd (congrArg Prod.fst h2) (Ne.symm hne)
   ·exact ⟨_,List.mem_append_right _ (.tail _ h2)⟩
 obtain ⟨od',hd⟩:=hd
 have F':=but_fr F N (hide_mem2 hx hd) hb
 have base:∀ p∈pre++(x,o2)::post,(p.1≠dx→h'.get? p.1=some p.2)∧p.1≠L∧h₀.get? p.1=none:=by
  intro p hp
  rcases List.mem_append.mp hp with hp|hp
  ·have q:=List.mem_append_left ((x,o)::post) hp
   exact ⟨fun e2=>hb _ _ (by simp [a p hp,e2]) (N p q).1,(N p q).2⟩
  ·rcases List.mem_cons.mp hp with rfl|hp
   ·exact ⟨fun _=>hx',(N _ hx).2⟩
   ·have q:=List.mem_append_right pre (List.mem_cons_of_mem (x,o) hp)
    exact ⟨fun e2=>hb _ _ (by simp [b p hp,e2]) (N p q).1,(N p q).2⟩
 generalize pre++(x,o2)::post=l1 at U2 hd1 base
 obtain ⟨pre2,post2,rfl,rfl,a2,b2⟩:=U2.split
 refine ⟨F',fun p hp=>?_⟩
 rcases List.mem_append.mp hp with hp|hp
 ·have q:=base p (List.mem_append_left _ hp)
  exact ⟨q.1 (a2 p hp),q.2⟩
 ·rcases List.mem_cons.mp hp with rfl|hp
  ·exact ⟨hd',(base _ (List.mem_append_right _ (.head _))).2⟩
  ·have q:=base p (List.mem_append_right _ (.tail _ hp))
   exact ⟨q.1 (b2 p hp),q.2⟩
end
section
variable {w:World} {p:Program} {loose:List Str} {mean:ExcName→Option Value} {mg mb:Str→Option Value} {dp un:Nat} {gd:Option (List Code)} {fr:Option (List Env)} {s:Shared} {Q E:Value→Shared→Prop}
variable {h₀:Heap} {L x dx:Addr} {m:PySem.Str→Option Value} {news old:List (Addr × Obj)} {g:Obj→List (Addr × Obj)} {its:List Value} {xs:List (PySem.Str × PySem.Str)} {n e:Nat} {hsh k:Int} {td tk:Tok} {od:Obj} {ps:Array Value}
private theorem c_strK (F:Fr h₀ L s.heap m) (N:News h₀ L s.heap news) (X:(hd.heap_1 w.params).In h₀) (T:Top p loose mean mg mb h₀) (hdp:dp+4<recursionLimit) (hu:un+100<cLine) (G:AllBare s.gens)
  (U:UpdF 105 (tbO ps) news g) (hps:TabIs pStr ps) (hx:(x,accO dx its n)∈news) (hdx:(dx,szD hsh td k tk e)∈news) (hit:ItemsL old its xs) (hold:∀ p∈old,p∈news) (hz:∀ q∈xs,q.1.length+q.2.length≤1000) (hl:xs.length≤1000)
  (his:findIn (hd.heap_1 w.params) (.ref 136) "__str__" = some (some (.ref 110))) (hif:isFn (hd.heap_1 w.params) (.ref 110)=true)
  (hret:∀ s' t ps',TabIs pStr ps'→Fr h₀ L s'.heap m→News h₀ L s'.heap (g (tbO ps'))→AllBare s'.gens→s'.os=s.os→Q (.str (strJoin xs) t) s') :
  wpAny (model PySem.Challenge.rw_sc0045_01.prog w) (AA dp un gd fr) (call (.type "str") [.ref x]) Q E s:=by
 have hp:=upd_mem (updF_upd (o':=tbO ps) U)
 refine kso_call (od:=some (szD hsh td k tk e)) ?_ (X.keeps F.keep) (acc_inst (N.get hx) (N.get hdx)) his hif ?_
 ·show (AA dp un gd fr).in1.in1.units<cLine
  simp only [Around.in1_units]
  lia -abstractProof
 ·refine c_str0 (dp:=dp) (n:=n) (od:=szD hsh td k tk e) (X.keeps (hide_keep F N (hide_mem1 hp))) (T.keeps (hide_keep F N (hide_mem1 hp))) (by lia -abstractProof) G (hid_get N hx hp (by simp)) (hid_get N hdx hp (by simp)) (hit.at fun q hq hc=>hid_get N (hold q hq) hp hc) hz hl (N.get hp) hps fun s' t ps' hps' hx' hp' G' os'=>?_
  have hb:ButExt [105] s.heap s'.heap:=fun b o hb e=>hx' b o (by simpa using hb) e
  obtain ⟨F',N'⟩:=but_upd1 F N (updF_upd (o':=tbO ps') U) hb hp'
  exact hret s' t ps' hps' F' N' G' os'
private theorem c_lenK (F:Fr h₀ L s.heap m) (N:News h₀ L s.heap news) (X:(hd.heap_1 w.params).In h₀) (T:Top p loose mean mg mb h₀) (hdp:dp+4<recursionLimit) (G:AllBare s.gens)
  (U:UpdF 98 (tbO ps) news g) (hps:TabIs pLen ps) (hx:(x,accO dx its n)∈news) (hdx:(dx,szD hsh td k tk e)∈news) (hit:ItemsL old its xs) (hold:∀ p∈old,p∈news) (hz:∀ q∈xs,q.1.length+q.2.length≤1000) (hl:xs.length≤1000) (hk:0≤k∧k≤1000)
  (his:findIn (hd.heap_1 w.params) (.ref 136) "__len__" = some (some (.ref 103))) (hif:isFn (hd.heap_1 w.params) (.ref 103)=true)
  (hret:∀ s' t ps',TabIs pLen ps'→Fr h₀ L s'.heap m→News h₀ L s'.heap (g (tbO ps'))→AllBare s'.gens→s'.os=s.os→Q (.int (k+lenSum xs) t) s') :
  wpAny (model PySem.Challenge.rw_sc0045_01.prog w) (AA dp un gd fr) (call (.builtin "len") [.ref x]) Q E s:=by
 have hp:=upd_mem (updF_upd (o':=tbO ps) U)
 refine len_K (od:=some (szD hsh td k tk e)) F X (acc_inst (N.get hx) (N.get hdx)) his hif ?_
 refine c_len0 (dp:=dp) (n:=n) (hsh:=hsh) (td:=td) (tk:=tk) (e:=e) (k:=k) (X.keeps (hide_keep F N (hide_mem1 hp))) (T.keeps (hide_keep F N (hide_mem1 hp))) (by lia -abstractProof) G (hid_get N hx hp (by simp)) (hid_get N hdx hp (by simp)) (hit.at fun q hq hc=>hid_get N (hold q hq) hp hc) hz (N.get hp) hps fun s' t ps' hps' hx' hp' G' os'=>?_
 have hb:ButExt [98] s.heap s'.heap:=fun b o hb e=>hx' b o (by simpa using hb) e
 obtain ⟨F',N'⟩:=but_upd1 F N (updF_upd (o':=tbO ps') U) hb hp'
 have h1:∀ l:List (PySem.Str × PySem.Str),(∀ q∈l,q.1.length+q.2.length≤1000)→0≤lenSum l∧lenSum l≤l.length*1000:=by
  intro l
  induction l with
  | nil=>intro _;simp [lenSum]
  | cons q l ih=>
   intro h
   have h2:=ih fun z hz=>h z (.tail _ hz)
   have h3:=h q (.head _)
   simp only [lenSum,List.map_cons,List.sum_cons,List.length_cons] at h2 ⊢
   lia -abstractProof
 have h2:=h1 xs hz
 refine ⟨⟨by lia -abstractProof,by lia -abstractProof⟩,?_⟩
 exact hret { s' with toks:=s'.toks+1 } _ ps' hps' F' N' G' os'
private theorem c_pushK {f q:PySem.Str} {tf tp:Tok} (F:Fr h₀ L s.heap m) (N:News h₀ L s.heap news) (X:(hd.heap_1 w.params).In h₀) (T:Top p loose mean mg mb h₀) (hdp:dp+2<recursionLimit)
  (U:UpdF x (accO dx its n) news g) (hdx:(dx,szD hsh td k tk e)∈news) (hz:its.length≤1000) (hne:Apart x dx)
  (hret:∀ r h' tk',Fr h₀ L h' m→News h₀ L h' ((r,tup [.str f tf,.str q tp])::g (accO dx (its++[.ref r]) (n+1)))→(∀ p∈news,p.1≠r)→Q .none { s with heap:=h',toks:=tk' }) :
  wpAny (model PySem.Challenge.rw_sc0045_01.prog w) (AA dp un gd fr) (call (.ref 80) [.ref x,.str f tf,.str q tp]) Q E s:=by
 have hx:=upd_mem (updF_upd (o':=accO dx its n) U)
 have hk:=hide_keep F N (hide_mem1 hx)
 refine c_push (X.keeps hk) (T.keeps hk) hdp hz (N.get hx) (hideAll_get _ (N.get hdx) (fun hi=>hne (List.mem_singleton.mp hi).symm)) fun r h' tk' hb hr hr' hx'=>?_
 obtain ⟨F',N'⟩:=but_upd1 F N (updF_upd (o':=accO dx (its++[.ref r]) (n+1)) U) hb hx'
 exact hret r h' tk' F' (but_new F N' hr' hr) fun p hp e=>by have:=(N p hp).1;rw [e,hr] at this;cases this
private theorem c_popfromK {ti:Tok} (F:Fr h₀ L s.heap m) (N:News h₀ L s.heap news) (X:(hd.heap_1 w.params).In h₀) (T:Top p loose mean mg mb h₀) (hdp:dp+2<recursionLimit)
  (U:UpdF x (accO dx its n) news g) (hdx:(dx,szD hsh td k tk e)∈news) (hz:its.length≤1000) (hne:Apart x dx)
  (hret:∀ r h' tk' n',Fr h₀ L h' m→News h₀ L h' ((r,lst (its.drop 1) 0)::g (accO dx (its.take 1) n'))→(∀ p∈news,p.1≠r)→Q (.ref r) { s with heap:=h',toks:=tk' }) :
  wpAny (model PySem.Challenge.rw_sc0045_01.prog w) (AA dp un gd fr) (call (.ref 88) [.ref x,.int 1 ti]) Q E s:=by
 have hx:=upd_mem (updF_upd (o':=accO dx its n) U)
 have hk:=hide_keep F N (hide_mem1 hx)
 refine c_popfrom (X.keeps hk) (T.keeps hk) hdp hz (N.get hx) (hideAll_get _ (N.get hdx) (fun hi=>hne (List.mem_singleton.mp hi).symm)) fun r h' tk' n' hb hr hr' hx'=>?_
 obtain ⟨F',N'⟩:=but_upd1 F N (updF_upd (o':=accO dx (its.take 1) n') U) hb hx'
 exact hret r h' tk' n' F' (but_new F N' hr' hr) fun p hp e=>by have:=(N p hp).1;rw [e,hr] at this;cases this
private theorem c_resetK {r:Addr} {new:List Value} {nr:Nat} {g2:Obj→Obj→List (Addr × Obj)} (F:Fr h₀ L s.heap m) (N:News h₀ L s.heap news) (X:(hd.heap_1 w.params).In h₀) (T:Top p loose mean mg mb h₀) (hdp:dp+2<recursionLimit)
  (U:UpdF x (accO dx its n) news g) (U2:∀ o,UpdF dx (szD hsh td k tk e) (g o) (g2 o)) (hdx:(dx,szD hsh td k tk e)∈news) (hr:(r,lst new nr)∈news) (hz:its.length≤1000) (hzn:new.length≤1000) (hne:Apart x dx) (hxr:Apart x r) (hdr:Apart dx r)
  (hret:∀ h' tk' n' td' tk2,Fr h₀ L h' m→News h₀ L h' (g2 (accO dx new n') (szD hsh td' 0 tk2 e))→Q .none { s with heap:=h',toks:=tk' }) :
  wpAny (model PySem.Challenge.rw_sc0045_01.prog w) (AA dp un gd fr) (call (.ref 118) [.ref x,.ref r]) Q E s:=by
 have hx:=upd_mem (updF_upd (o':=accO dx its n) U)
 have hk:=hide_keep F N (hide_mem2 hx hdx)
 refine c_reset (X.keeps hk) (T.keeps hk) hdp hz hzn hxr (N.get hx) (N.get hdx) (hideAll_get _ (N.get hr) (fun hi=>?_)) hne fun h' tk' n' td' tk2 hb hx' hd'=>?_
 ·rcases List.mem_cons.mp hi with e1|hi
  ·exact hxr e1.symm
  ·exact hdr (List.mem_singleton.mp hi).symm
 ·obtain ⟨F',N'⟩:=but_upd2 F N (updF_upd (o':=accO dx new n') U) (updF_upd (o':=szD hsh td' 0 tk2 e) (U2 _)) hne hb hx' hd'
  exact hret h' tk' n' td' tk2 F' N'
private theorem c_pop1K {v:Value} (F:Fr h₀ L s.heap m) (N:News h₀ L s.heap news) (X:(hd.heap_1 w.params).In h₀) (T:Top p loose mean mg mb h₀) (hdp:dp+4<recursionLimit)
  (U:UpdF x (accO dx (its++[v]) n) news g) (hdx:(dx,szD hsh td k tk e)∈news) (hz:its.length≤1000) (hne:Apart x dx)
  (hret:∀ h' tk',Fr h₀ L h' m→News h₀ L h' (g (accO dx its (n+1)))→Q v { s with heap:=h',toks:=tk' }) :
  wpAny (model PySem.Challenge.rw_sc0045_01.prog w) (AA dp un gd fr) (call (.ref 96) [.ref x]) Q E s:=by
 have hx:=upd_mem (updF_upd (o':=accO dx its n) U)
 have hk:=hide_keep F N (hide_mem2 hx hdx)
 refine c_pop1 (X.keeps hk) (T.keeps hk) hdp hz (N.get hx) (N.get hdx) hne fun tk' h' hb hx' hd'=>?_
 obtain ⟨F',N'⟩:=but_upd F N (updF_upd (o':=accO dx its (n+1)) U) hdx hb hx' hd'
 exact hret h' tk' F' N'
private theorem c_pop0K (F:Fr h₀ L s.heap m) (N:News h₀ L s.heap news) (X:(hd.heap_1 w.params).In h₀) (T:Top p loose mean mg mb h₀) (hdp:dp+4<recursionLimit)
  (hx:(x,accO dx [] n)∈news) (hdx:(dx,szD hsh td k tk e)∈news) (hne:Apart x dx)
  (hret:∀ r h' tk' t1 t2,Fr h₀ L h' m→News h₀ L h' ((r,tup [.str "" t1,.str "" t2])::news)→(∀ p∈news,p.1≠r)→Q (.ref r) { s with heap:=h',toks:=tk' }) :
  wpAny (model PySem.Challenge.rw_sc0045_01.prog w) (AA dp un gd fr) (call (.ref 96) [.ref x]) Q E s:=by
 have hk:=hide_keep F N (hide_mem2 hx hdx)
 refine c_pop0 (X.keeps hk) (T.keeps hk) hdp (N.get hx) (N.get hdx) hne fun tk' h' r t1 t2 hb hx' hd' hr hr'=>?_
 obtain ⟨F',N'⟩:=but_same F N hx hdx hb hx' hd'
 exact hret r h' tk' t1 t2 F' (but_new F N' hr' hr) fun p hp e=>by have:=(N p hp).1;rw [e,hr] at this;cases this
end
end Mine
end
section
open PySem PySem.W PyProof.Rows PySem.Flt
namespace Mine
section
variable {prog:Program} {w:World} {A:Around} {E:Value→Shared→Prop} {s:Shared} {h₀:Heap} {L:Addr} {m:Str→Option Value} {news:List (Addr × Obj)} {Q:Value→Shared→Prop}

private theorem args_min3 (a b c:Value):argsOk "min" ⟨[a,b,c],[]⟩:=by unfold argsOk;kernel_rfl

private theorem call_min_three {a b c:Value}
  (h:wpAny (model prog w) A.in1 (pyIter (.ref s.heap.objs.size)) (fun it s₂=>∃ I fp wr n P St bt,it = .ref I∧Walks prog w A.in1 I fp wr n P St∧St 0 s₂.heap∧(∀ b∈fp,b<s₂.heap.objs.size)∧0<n∧CmpOf prog w A.in1 .Lt P bt ∧
   ∀ v h' tk,P (argBest bt (n-1)) v→(∀ b o,b ∉ wr→s₂.heap.get? b=some o→h'.get? b=some o)→Q v { s₂ with heap:=h',toks:=tk }) E
   { s with heap:=s.heap.push { cls:=.type "tuple", data:=.seq #[a,b,c] } }) :
  wpAny (model prog w) A (call (.builtin "min") [a,b,c]) Q E s:=by
 have nm:(toString "min" ++ toString ".loop" : String) = "min.loop" := by decide
 refine PySem.call_function_tree PySem.F.kind_min PySem.F.plain_min PySem.F.entry_min (args_min3 _ _ _) ?_
 show wpAny _ A.in1 (Builtin.Builtins.bindParams "min" ["key", "default"] 0 ⟨[],[]⟩ >>= _) _ _ s
 refine wpAny_bind (wpAny_of_eq (show Builtin.Builtins.bindParams "min" ["key", "default"] 0 ⟨[],[]⟩=pure [none,none] from rfl) ?_)
 show wpAny _ A.in1 (newTuple [a,b,c] >>= _) _ _ s
 refine wpAny_bind (wpAny_newObj_type ?_)
 refine wpAny_bind (wpAny_mono h (fun it s₂ h₂=>?_) fun _ _ e=>e)
 obtain ⟨I,fp,wr,n,P,St,bt,rfl,W,hst,hfp,hn,hcmp,hQ⟩:=h₂
 refine wpAny_bind (wpAny_newObj_type ?_)
 have off:s₂.heap.objs.size ∉ fp:=fun hm=>Nat.lt_irrefl _ (hfp _ hm)
 rw [nm]
 refine wpAny_pure ⟨plainId_quiet PySem.F.plain_min_loop _,codeAny_min_loop_first W bt hcmp s₂.heap.objs.size off hn (W.frame _ _ _ hst fun b _ o e=>Heap.get?_push_of_some _ e) (Heap.get?_push_size _ rfl) fun v h' tk hP hk=>?_⟩
 exact hQ v h' tk hP fun b o hb e=>hk b o hb (Nat.ne_of_lt (Heap.lt_size e)) (Heap.get?_push_of_some _ e)

private theorem three_get {x y z:UInt64} {t u v:Tok} {i:Nat} {r:Value} (h:(#[Value.float x t,.float y u,.float z v]:Array Value)[i]?=some r):∃ b k,r = .float b k∧[x,y,z].getD i 0=b:=by
 match i,h with
 | 0,h=>exact ⟨x,t,by simpa using h.symm,rfl⟩
 | 1,h=>exact ⟨y,u,by simpa using h.symm,rfl⟩
 | 2,h=>exact ⟨z,v,by simpa using h.symm,rfl⟩
 | n+3,h=>simp at h

private theorem max3f {x y z:UInt64} {t u v:Tok} (hh:A.handled=none) (F:Fr h₀ L s.heap m) (N:News h₀ L s.heap news)
  (h:∀ h' tk k,Fr h₀ L h' m→News h₀ L h' news→Q (.float (bestBits gtB x [y,z]) k) { s with heap:=h',toks:=tk }) :
  wpAny (model prog w) A (call (.builtin "max") [.float x t,.float y u,.float z v]) Q E s:=by
 have hT:(s.heap.push { cls:=.type "tuple", data:=.seq #[.float x t,.float y u,.float z v] }).IsTuple s.heap.objs.size #[.float x t,.float y u,.float z v]:=⟨_,Heap.get?_push_size _ rfl,rfl,0,rfl⟩
 refine call_max_three (wpAny_pyIter_tuple hT ?_)
 have hsz:(s.heap.push { cls:=.type "tuple", data:=.seq #[.float x t,.float y u,.float z v] }).objs.size=s.heap.objs.size+1:=Heap.size_push ..
 refine ⟨_,[_,s.heap.objs.size],[_],_,_,_,fun i j=>gtB ([x,y,z].getD i 0) ([x,y,z].getD j 0),rfl,Walks.tuple (A:=A.in1) hh _ s.heap.objs.size (by rw [hsz];exact Nat.ne_of_lt (Nat.lt_succ_self _)) #[.float x t,.float y u,.float z v],
  ⟨⟨_,Heap.get?_push_size _ rfl,rfl,rfl⟩,hT.push _⟩,fun d hd=>?_,by simp,fun i j vi vj s Q E hi hj h=>?_,fun r h' tk hP hk=>?_⟩
 ·show d<((s.heap.push _).push _).objs.size
  rw [Heap.size_push,hsz]
  rcases List.mem_cons.mp hd with rfl|hd
  ·rw [hsz];exact Nat.lt_succ_self _
  ·rcases List.mem_cons.mp hd with rfl|hd
   ·exact Nat.lt_succ_of_lt (Nat.lt_succ_self _)
   ·cases hd
 ·obtain ⟨b,k,rfl,e1⟩:=three_get hi
  obtain ⟨c,k',rfl,e2⟩:=three_get hj
  dsimp only at h;rw [e1,e2] at h
  exact AutoFloatOps.gt_0 (by rw [cmp_gt];exact h)
 ·have old:∀ d o,s.heap.get? d=some o→h'.get? d=some o:=fun d o e=>by
   refine hk d o (fun hm=>?_) (Heap.get?_push_of_some _ (Heap.get?_push_of_some _ e))
   rcases List.mem_cons.mp hm with e1|hm
   ·have:=Heap.lt_size e;rw [e1,hsz] at this;exact Nat.lt_irrefl _ (Nat.lt_of_succ_lt this)
   ·cases hm
  obtain ⟨b,k,rfl,e1⟩:=three_get hP
  have e2:=argBest_bits gtB [x,y,z] 2 (by simp)
  have e3:([x,y,z].tail.take 2)=[y,z]:=rfl
  rw [e3] at e2
  have e4:((#[Value.float x t,.float y u,.float z v]:Array Value).size-1)=2:=rfl
  rw [e4] at e1
  rw [e2] at e1
  have:=h h' tk k (F.grownK old) (N.grown old)
  rw [← e1];exact this

private theorem min3f {x y z:UInt64} {t u v:Tok} (hh:A.handled=none) (F:Fr h₀ L s.heap m) (N:News h₀ L s.heap news)
  (h:∀ h' tk k,Fr h₀ L h' m→News h₀ L h' news→Q (.float (bestBits ltB x [y,z]) k) { s with heap:=h',toks:=tk }) :
  wpAny (model prog w) A (call (.builtin "min") [.float x t,.float y u,.float z v]) Q E s:=by
 have hT:(s.heap.push { cls:=.type "tuple", data:=.seq #[.float x t,.float y u,.float z v] }).IsTuple s.heap.objs.size #[.float x t,.float y u,.float z v]:=⟨_,Heap.get?_push_size _ rfl,rfl,0,rfl⟩
 refine call_min_three (wpAny_pyIter_tuple hT ?_)
 have hsz:(s.heap.push { cls:=.type "tuple", data:=.seq #[.float x t,.float y u,.float z v] }).objs.size=s.heap.objs.size+1:=Heap.size_push ..
 refine ⟨_,[_,s.heap.objs.size],[_],_,_,_,fun i j=>ltB ([x,y,z].getD i 0) ([x,y,z].getD j 0),rfl,Walks.tuple (A:=A.in1) hh _ s.heap.objs.size (by rw [hsz];exact Nat.ne_of_lt (Nat.lt_succ_self _)) #[.float x t,.float y u,.float z v],
  ⟨⟨_,Heap.get?_push_size _ rfl,rfl,rfl⟩,hT.push _⟩,fun d hd=>?_,by simp,fun i j vi vj s Q E hi hj h=>?_,fun r h' tk hP hk=>?_⟩
 ·show d<((s.heap.push _).push _).objs.size
  rw [Heap.size_push,hsz]
  rcases List.mem_cons.mp hd with rfl|hd
  ·rw [hsz];exact Nat.lt_succ_self _
  ·rcases List.mem_cons.mp hd with rfl|hd
   ·exact Nat.lt_succ_of_lt (Nat.lt_succ_self _)
   ·cases hd
 ·obtain ⟨b,k,rfl,e1⟩:=three_get hi
  obtain ⟨c,k',rfl,e2⟩:=three_get hj
  dsimp only at h;rw [e1,e2] at h
  exact AutoFloatOps.lt_0 h
 ·have old:∀ d o,s.heap.get? d=some o→h'.get? d=some o:=fun d o e=>by
   refine hk d o (fun hm=>?_) (Heap.get?_push_of_some _ (Heap.get?_push_of_some _ e))
   rcases List.mem_cons.mp hm with e1|hm
   ·have:=Heap.lt_size e;rw [e1,hsz] at this;exact Nat.lt_irrefl _ (Nat.lt_of_succ_lt this)
   ·cases hm
  obtain ⟨b,k,rfl,e1⟩:=three_get hP
  have e2:=argBest_bits ltB [x,y,z] 2 (by simp)
  have e3:([x,y,z].tail.take 2)=[y,z]:=rfl
  rw [e3] at e2
  have e4:((#[Value.float x t,.float y u,.float z v]:Array Value).size-1)=2:=rfl
  rw [e4] at e1
  rw [e2] at e1
  have:=h h' tk k (F.grownK old) (N.grown old)
  rw [← e1];exact this

private theorem max3i {a b c:Int} {t u v:Tok} {l:Addr} (hh:A.handled=none) (F:Fr h₀ L s.heap m) (N:News h₀ L s.heap news) (hl:s.heap.IsList l [Value.int a t,.int b u,.int c v].toArray)
  (h:∀ h' tk k,Fr h₀ L h' m→News h₀ L h' news→Q (.int (max a (max b c)) k) { s with heap:=h',toks:=tk }) :
  wpAny (model prog w) A (call (.builtin "max") [.ref l]) Q E s:=by
 have hl':s.heap.IsList l (intItems #[(a,t),(b,u),(c,v)]):=by
  have e:intItems #[(a,t),(b,u),(c,v)]=[Value.int a t,.int b u,.int c v].toArray:=by simp [intItems]
  rw [e];exact hl
 refine max_intList (xs:=#[(a,t),(b,u),(c,v)]) hh hl' (by simp) fun r h' tk hv hk=>?_
 have key:=fun k=>h h' tk k (F.grownK hk) (N.grown hk)
 have hs2:(#[(a,t),(b,u),(c,v)]:Array (Int × Tok)).size-1=2:=rfl
 rw [hs2] at hv
 by_cases hba:b>a
 ·by_cases hc:c>b
  ·have e:argBest (fun i j=>decide (numAt #[(a,t),(b,u),(c,v)] i>numAt #[(a,t),(b,u),(c,v)] j)) 2=2:=by simp [argBest,numAt,hba,hc]
   rw [e] at hv
   have e2:r = .int c v:=by simpa [intItems] using hv.symm
   have e3:max a (max b c)=c:=by lia -abstractProof
   rw [e2,←e3];exact key v
  ·have e:argBest (fun i j=>decide (numAt #[(a,t),(b,u),(c,v)] i>numAt #[(a,t),(b,u),(c,v)] j)) 2=1:=by simp [argBest,numAt,hba,hc]
   rw [e] at hv
   have e2:r = .int b u:=by simpa [intItems] using hv.symm
   have e3:max a (max b c)=b:=by lia -abstractProof
   rw [e2,←e3];exact key u
 ·by_cases hc:c>a
  ·have e:argBest (fun i j=>decide (numAt #[(a,t),(b,u),(c,v)] i>numAt #[(a,t),(b,u),(c,v)] j)) 2=2:=by simp [argBest,numAt,hba,hc]
   rw [e] at hv
   have e2:r = .int c v:=by simpa [intItems] using hv.symm
   have e3:max a (max b c)=c:=by lia -abstractProof
   rw [e2,←e3];exact key v
  ·have e:argBest (fun i j=>decide (numAt #[(a,t),(b,u),(c,v)] i>numAt #[(a,t),(b,u),(c,v)] j)) 2=0:=by simp [argBest,numAt,hba,hc]
   rw [e] at hv
   have e2:r = .int a t:=by simpa [intItems] using hv.symm
   have e3:max a (max b c)=a:=by lia -abstractProof
   rw [e2,←e3];exact key t
private theorem min3i {a b c:Int} {t u v:Tok} {l:Addr} (hh:A.handled=none) (F:Fr h₀ L s.heap m) (N:News h₀ L s.heap news) (hl:s.heap.IsList l [Value.int a t,.int b u,.int c v].toArray)
  (h:∀ h' tk k,Fr h₀ L h' m→News h₀ L h' news→Q (.int (min a (min b c)) k) { s with heap:=h',toks:=tk }) :
  wpAny (model prog w) A (call (.builtin "min") [.ref l]) Q E s:=by
 have hl':s.heap.IsList l (intItems #[(a,t),(b,u),(c,v)]):=by
  have e:intItems #[(a,t),(b,u),(c,v)]=[Value.int a t,.int b u,.int c v].toArray:=by simp [intItems]
  rw [e];exact hl
 refine min_intList (xs:=#[(a,t),(b,u),(c,v)]) hh hl' (by simp) fun r h' tk hv hk=>?_
 have key:=fun k=>h h' tk k (F.grownK hk) (N.grown hk)
 have hs2:(#[(a,t),(b,u),(c,v)]:Array (Int × Tok)).size-1=2:=rfl
 rw [hs2] at hv
 by_cases hba:b<a
 ·by_cases hc:c<b
  ·have e:argBest (fun i j=>decide (numAt #[(a,t),(b,u),(c,v)] i<numAt #[(a,t),(b,u),(c,v)] j)) 2=2:=by simp [argBest,numAt,hba,hc]
   rw [e] at hv
   have e2:r = .int c v:=by simpa [intItems] using hv.symm
   have e3:min a (min b c)=c:=by lia -abstractProof
   rw [e2,←e3];exact key v
  ·have e:argBest (fun i j=>decide (numAt #[(a,t),(b,u),(c,v)] i<numAt #[(a,t),(b,u),(c,v)] j)) 2=1:=by simp [argBest,numAt,hba,hc]
   rw [e] at hv
   have e2:r = .int b u:=by simpa [intItems] using hv.symm
   have e3:min a (min b c)=b:=by lia -abstractProof
   rw [e2,←e3];exact key u
 ·by_cases hc:c<a
  ·have e:argBest (fun i j=>decide (numAt #[(a,t),(b,u),(c,v)] i<numAt #[(a,t),(b,u),(c,v)] j)) 2=2:=by simp [argBest,numAt,hba,hc]
   rw [e] at hv
   have e2:r = .int c v:=by simpa [intItems] using hv.symm
   have e3:min a (min b c)=c:=by lia -abstractProof
   rw [e2,←e3];exact key v
  ·have e:argBest (fun i j=>decide (numAt #[(a,t),(b,u),(c,v)] i<numAt #[(a,t),(b,u),(c,v)] j)) 2=0:=by simp [argBest,numAt,hba,hc]
   rw [e] at hv
   have e2:r = .int a t:=by simpa [intItems] using hv.symm
   have e3:min a (min b c)=a:=by lia -abstractProof
   rw [e2,←e3];exact key t
end
end Mine
end
section
open PySem PySem.W PyProof.Rows PySem.Flt
namespace Mine
theorem Mkrrrrrrrrrrrrr:True:=by w_top off;trivial
section
variable {w:World} {p:Program} {loose:List Str} {mean:ExcName→Option Value} {mg mb:Str→Option Value} {dp un:Nat} {gd:Option (List Code)} {fr:Option (List Env)} {s:Shared} {Q E:Value→Shared→Prop}
noncomputable def vF (m1 m2 h:UInt64):UInt64:=
 let hue:=(Float64.divmod h 4607182418800017408).2
 if (Float64.cmp hue 4595172819793696085 == some Ordering.lt)=true then
  Float64.add m1 (Float64.mul (Float64.mul (Float64.sub m2 m1) hue) 4618441417868443648)
 else if (Float64.cmp hue 4602678819172646912 == some Ordering.lt)=true then m2
 else if (Float64.cmp hue 4604180019048437077 == some Ordering.lt)=true then
  Float64.add m1 (Float64.mul (Float64.mul (Float64.sub m2 m1) (Float64.sub 4604180019048437077 hue)) 4618441417868443648)
 else m1
noncomputable def hlsF (x y z:UInt64):UInt64 × UInt64 × UInt64:=
 if (Float64.cmp z 0 == some Ordering.eq)=true then (y,y,y) else
 let m2:=if (Float64.cmp y 4602678819172646912 == some Ordering.lt || Float64.cmp y 4602678819172646912 == some Ordering.eq)=true then Float64.mul y (Float64.add 4607182418800017408 z) else Float64.sub (Float64.add y z) (Float64.mul y z)
 let m1:=Float64.sub (Float64.mul 4611686018427387904 y) m2
 (vF m1 m2 (Float64.add x 4599676419421066581),vF m1 m2 x,vF m1 m2 (Float64.sub x 4599676419421066581))
noncomputable def rgbF (x y z:UInt64):UInt64 × UInt64 × UInt64:=
 let mx:=bestBits gtB x [y,z]
 let mn:=bestBits ltB x [y,z]
 let l:=Float64.div (Float64.add mx mn) 4611686018427387904
 if (Float64.cmp mn mx == some Ordering.eq)=true then (0,l,0) else
 let sh:=if (Float64.cmp l 4602678819172646912 == some Ordering.lt || Float64.cmp l 4602678819172646912 == some Ordering.eq)=true then Float64.div (Float64.sub mx mn) (Float64.add mx mn)
  else Float64.div (Float64.sub mx mn) (Float64.sub (Float64.sub 4611686018427387904 mx) mn)
 let rc:=Float64.div (Float64.sub mx x) (Float64.sub mx mn)
 let gc:=Float64.div (Float64.sub mx y) (Float64.sub mx mn)
 let bc:=Float64.div (Float64.sub mx z) (Float64.sub mx mn)
 let h:=if (Float64.cmp x mx == some Ordering.eq)=true then Float64.sub bc gc
  else if (Float64.cmp y mx == some Ordering.eq)=true then Float64.sub (Float64.add 4611686018427387904 rc) bc
  else Float64.sub (Float64.add 4616189618054758400 gc) rc
 ((Float64.divmod (Float64.div h 4618441417868443648) 4607182418800017408).2,l,sh)

noncomputable def RgbOk (x y z:UInt64):Prop:=
 (Float64.isZero (Float64.add (bestBits gtB x [y,z]) (bestBits ltB x [y,z]))=true→False) ∧
 (Float64.isZero (Float64.sub (Float64.sub 4611686018427387904 (bestBits gtB x [y,z])) (bestBits ltB x [y,z]))=true→False) ∧
 ((Float64.cmp (bestBits ltB x [y,z]) (bestBits gtB x [y,z]) == some Ordering.eq)=false→Float64.isZero (Float64.sub (bestBits gtB x [y,z]) (bestBits ltB x [y,z]))=true→False)

private theorem c_v {x y z:UInt64} {tx ty tz:Tok} (X:(hd.heap_1 w.params).In s.heap) (T:Top p loose mean mg mb s.heap) (hd:dp+2<recursionLimit)
 (hret:∀ t h' tk',Ext s.heap h'→Q (.float (vF x y z) t) { s with heap:=h',toks:=tk' }) :
 wpAny (model PySem.Challenge.rw_sc0045_01.prog w) (AA dp un gd fr) (call (.ref 56) [.float x tx,.float y ty,.float z tz]) Q E s:=by
 revert X
 k_fill
 intro X
 unfold vF at hret
 refine wpAny_call ?_
 walk_at "my enter"
 rename Fr _ _ _ _=>F0
 replace F0:Fr _ _ _ (ml [(Str.ofString "hue", Value.float z tz),(Str.ofString "m2", Value.float y ty),(Str.ofString "m1", Value.float x tx)]):=F0
 k_steps
 all_goals (dsimp only at hret;simp only [*,if_true,if_false,Bool.false_eq_true] at hret;apply hret;exact Fr.keep (by assumption))
private theorem c_hls {x y z:UInt64} {tx ty tz:Tok} (X:(hd.heap_1 w.params).In s.heap) (T:Top p loose mean mg mb s.heap) (hd:dp+6<recursionLimit)
 (hret:∀ t1 t2 t3 r h' tk',Ext s.heap h'→h'.get? r=some (tup [.float (hlsF x y z).1 t1,.float (hlsF x y z).2.1 t2,.float (hlsF x y z).2.2 t3])→s.heap.get? r=none→Q (.ref r) { s with heap:=h',toks:=tk' }) :
 wpAny (model PySem.Challenge.rw_sc0045_01.prog w) (AA dp un gd fr) (call (.ref 49) [.float x tx,.float y ty,.float z tz]) Q E s:=by
 revert X
 k_fill
 intro X
 unfold hlsF at hret
 refine wpAny_call ?_
 walk_at "my enter"
 rename Fr _ _ _ _=>F0
 replace F0:Fr _ _ _ (ml [(Str.ofString "s", Value.float z tz),(Str.ofString "l", Value.float y ty),(Str.ofString "h", Value.float x tx)]):=F0
 k_steps
 all_goals (dsimp only at hret;simp only [*,if_true,if_false,Bool.false_eq_true] at hret;rename News _ _ _ _=>N5;refine hret _ _ _ _ _ _ (Fr.keep (by assumption)) (N5 _ (.head _)).1 (N5 _ (.head _)).2.2)
private theorem c_rgb {x y z:UInt64} {tx ty tz:Tok} (X:(hd.heap_1 w.params).In s.heap) (T:Top p loose mean mg mb s.heap) (hd:dp+6<recursionLimit)
 (z0:RgbOk x y z)
 (hret:∀ t1 t2 t3 r h' tk',Ext s.heap h'→h'.get? r=some (tup [.float (rgbF x y z).1 t1,.float (rgbF x y z).2.1 t2,.float (rgbF x y z).2.2 t3])→s.heap.get? r=none→Q (.ref r) { s with heap:=h',toks:=tk' }) :
 wpAny (model PySem.Challenge.rw_sc0045_01.prog w) (AA dp un gd fr) (call (.ref 42) [.float x tx,.float y ty,.float z tz]) Q E s:=by
 revert X
 k_fill
 intro X
 unfold rgbF at hret
 obtain ⟨z1,z2,z3⟩:=z0
 refine wpAny_call ?_
 walk_at "my enter"
 rename Fr _ _ _ _=>F0
 replace F0:Fr _ _ _ (ml [(Str.ofString "b", Value.float z tz),(Str.ofString "g", Value.float y ty),(Str.ofString "r", Value.float x tx)]):=F0
 k_steps
 all_goals first
  | exact (z1 (by assumption)).elim
  | exact (z2 (by assumption)).elim
  | exact (z3 (by assumption) (by assumption)).elim
  | (dsimp only at hret;simp only [*,if_true,if_false,Bool.false_eq_true] at hret;rename News _ _ _ _=>N5;refine hret _ _ _ _ _ _ (Fr.keep (by assumption)) (N5 _ (.head _)).1 (N5 _ (.head _)).2.2)
end
end Mine
end
section
open PySem PySem.W PyProof.Rows PySem.Flt PySem.Calls
namespace Mine
theorem Mkrrrrrrrrrrrrrr:True:=trivial
section
variable {prog:Program} {w:World} {A:Around} {E:Value→Shared→Prop} {s:Shared} {Q:Value→Shared→Prop} {a b:Addr}
private theorem ints3 (x0 x1 x2:Int) (t0 t1 t2:Tok):IntsAre [.int x0 t0,.int x1 t1,.int x2 t2] [x0,x1,x2]:=.cons _ _ (.cons _ _ (.cons _ _ .nil))
private theorem eq3 {x0 x1 x2 y0 y1 y2:Int} {t0 t1 t2 u0 u1 u2:Tok} (ha:s.heap.IsList a [Value.int x0 t0,.int x1 t1,.int x2 t2].toArray) (hb:s.heap.IsList b [Value.int y0 u0,.int y1 u1,.int y2 u2].toArray)
  (hu:A.units+64<cLine) (h:Q (.bool (decide ([x0,x1,x2]=[y0,y1,y2]))) s):wpAny (model prog w) A (compareOp .Eq (.ref a) (.ref b)) Q E s:=
 ke_eq_ints ha hb (ints3 ..) (ints3 ..) hu h
private theorem ne3 {x0 x1 x2 y0 y1 y2:Int} {t0 t1 t2 u0 u1 u2:Tok} (ha:s.heap.IsList a [Value.int x0 t0,.int x1 t1,.int x2 t2].toArray) (hb:s.heap.IsList b [Value.int y0 u0,.int y1 u1,.int y2 u2].toArray)
  (hu:A.units+64<cLine) (h:Q (.bool (!decide ([x0,x1,x2]=[y0,y1,y2]))) s):wpAny (model prog w) A (compareOp .NotEq (.ref a) (.ref b)) Q E s:=
 ke_ne_ints ha hb (ints3 ..) (ints3 ..) hu h
private theorem eq3_true {x0 x1 x2 y0 y1 y2:Int} {t0 t1 t2 u0 u1 u2:Tok} (ha:s.heap.IsList a [Value.int x0 t0,.int x1 t1,.int x2 t2].toArray) (hb:s.heap.IsList b [Value.int y0 u0,.int y1 u1,.int y2 u2].toArray)
  (e0:x0=y0) (e1:x1=y1) (e2:x2=y2) (hu:A.units+64<cLine) (h:Q (.bool true) s):wpAny (model prog w) A (compareOp .Eq (.ref a) (.ref b)) Q E s:=by
 subst e0 e1 e2
 exact eq3 ha hb hu (by simpa using h)
end
end Mine
end
section
open PySem PySem.W PyProof.Rows PySem.Flt
namespace Mine
noncomputable def Elt (K:Value→Shared→Prop) (v:Value) (s:Shared):Prop:=K v s
noncomputable def StopC (P:Prop):Prop:=P
private theorem StopC.of {P:Prop} (h:StopC P):P:=h
section
variable {prog:Program} {w:World} {A:Around} {h₀:Heap} {L:Addr} {m:PySem.Str→Option Value} {env:Env} {elt:PySem.Expr} {x:PySem.Str} {scope:Scope} {cl:List (PySem.Str × Addr)} {s:Shared} {S:List (Addr × Obj)→Prop} {P:Nat→Value→Prop} {Fin:List Value→List (Addr × Obj)→Prop} {news:List (Addr × Obj)}
private theorem lc_rest {n:Nat} (R:Nat→Value→Prop)
  (turn:∀ i v I oI C oC D m₂ ys h tk (E':Value→Shared→Prop),i<n→P i v→LCg.NsObj oC m₂→m₂ x=some v→Fr h₀ L h m→News h₀ L h ((I,oI)::(C,oC)::(D,LCg.lst ys)::news)→LCg.Off3 I C D news →
   ∀ K:Value→Shared→Prop,(∀ y h' tk',Fr h₀ L h' m→News h₀ L h' ((I,oI)::(C,oC)::(D,LCg.lst ys)::news)→R i y→K y { s with heap:=h',toks:=tk' }) →
   wpAny (model prog w) A (eval elt (compEnvC scope cl C env)) (Elt K) E' { s with heap:=h,toks:=tk })
  (hS:S news) (fin:∀ ys,ys.length=n→(∀ i y,ys[i]?=some y→R i y)→Fin ys news):LCg.CompRest prog w A h₀ L m env elt x scope cl s S P Fin n 0 [] news:=by
 have key:∀ (j i:Nat) (ys:List Value),i+j=n→ys.length=i→(∀ i y,ys[i]?=some y→R i y)→LCg.CompRest prog w A h₀ L m env elt x scope cl s S P Fin j i ys news:=by
  intro j
  induction j with
  | zero=>exact fun i ys hi hl hy=>LCg.CompRest.zero (fin ys (by lia -abstractProof) hy)
  | succ j ih=>
   intro i ys hi hl hy
   refine LCg.CompRest.succ ?_
   intro v I oI C oC D m₂ h tk E' hv hC hx F N off ne
   refine turn i v I oI C oC D m₂ ys h tk E' (by lia -abstractProof) hv hC hx F N off _ fun y h' tk' F' N' hr=>?_
   refine ⟨h',tk',news,rfl,F',N',off,hS,ih (i+1) _ (by lia -abstractProof) (by simp [hl]) fun i' y' e=>?_⟩
   rw [List.getElem?_append] at e
   split at e
   ·exact hy _ _ e
   ·rename_i hlt
    by_cases q:i'=i
    ·subst q
     rw [hl,Nat.sub_self] at e
     cases e
     exact hr
    ·rw [List.getElem?_singleton,if_neg (by lia -abstractProof)] at e
     cases e
 exact key n 0 [] (by lia -abstractProof) rfl fun i y e=>by simp at e
private theorem three {ys:List Value} (h:ys.length=3):∃ a b c,ys=[a,b,c]:=by
 obtain ⟨a,ys,rfl⟩:=List.exists_cons_of_length_eq_add_one h
 replace h:=Nat.succ.inj h
 obtain ⟨b,ys,rfl⟩:=List.exists_cons_of_length_eq_add_one h
 replace h:=Nat.succ.inj h
 obtain ⟨c,ys,rfl⟩:=List.exists_cons_of_length_eq_add_one h
 exact ⟨a,b,c,by rw [List.eq_nil_of_length_eq_zero (Nat.succ.inj h)]⟩
private theorem fin3 {P:_root_.Fin 3→Prop} (h0:P 0) (h1:P 1) (h2:P 2) (j:_root_.Fin 3):P j:=match j with|0=>h0|1=>h1|2=>h2
private theorem fo3 (j:_root_.Fin 3):_root_.Fin.ofNat 3 j.val=j:=fin3 (P:=fun j=>_root_.Fin.ofNat 3 j.val=j) rfl rfl rfl j
private theorem lc_3 {src:_root_.Fin 3→Tok→Value} (mk:_root_.Fin 3→Tok→Value) (hP:∀ (i:_root_.Fin 3) (v:Value),P i.val v→∃ t,v=src i t)
  (turn:∀ (j:_root_.Fin 3) t I oI C oC D m₂ ys h tk (E':Value→Shared→Prop),LCg.NsObj oC m₂→m₂ x=some (src j t)→Fr h₀ L h m→News h₀ L h ((I,oI)::(C,oC)::(D,LCg.lst ys)::news)→LCg.Off3 I C D news →
   ∀ K:Value→Shared→Prop,(∀ y h' tk',Fr h₀ L h' m→News h₀ L h' ((I,oI)::(C,oC)::(D,LCg.lst ys)::news)→(∃ t,y=mk j t)→K y { s with heap:=h',toks:=tk' }) →
   wpAny (model prog w) A (eval elt (compEnvC scope cl C env)) (Elt K) E' { s with heap:=h,toks:=tk })
  (hS:S news) (fin:∀ ta tb tc,Fin [mk 0 ta,mk 1 tb,mk 2 tc] news):LCg.CompRest prog w A h₀ L m env elt x scope cl s S P Fin 3 0 [] news:=by
 refine lc_rest (fun i y=>∃ t,y=mk (_root_.Fin.ofNat 3 i) t) ?_ hS ?_
 ·intro i v I oI C oC D m₂ ys h tk E' hlt hv hC hx F N off K hK
  obtain ⟨t,rfl⟩:=hP ⟨i,hlt⟩ v hv
  exact turn ⟨i,hlt⟩ t I oI C oC D m₂ ys h tk E' hC hx F N off K fun y h' tk' F' N' hr=>hK y h' tk' F' N' (by rw [show _root_.Fin.ofNat 3 i=⟨i,hlt⟩ from fo3 ⟨i,hlt⟩];exact hr)
 ·intro ys hy hr
  obtain ⟨a,b,c,rfl⟩:=three hy
  obtain ⟨ta,rfl⟩:=hr 0 _ rfl
  obtain ⟨tb,rfl⟩:=hr 1 _ rfl
  obtain ⟨tc,rfl⟩:=hr 2 _ rfl
  exact fin ta tb tc
private theorem lc_3n {src:Nat→Tok→Value} (mk:Nat→Tok→Value) (hP:∀ (i:Nat) (v:Value),i<3→P i v→∃ t,v=src i t)
  (turn:∀ (i:Nat) t I oI C oC D m₂ ys h tk (E':Value→Shared→Prop),i<3→LCg.NsObj oC m₂→m₂ x=some (src i t)→Fr h₀ L h m→News h₀ L h ((I,oI)::(C,oC)::(D,LCg.lst ys)::news)→LCg.Off3 I C D news →
   ∀ K:Value→Shared→Prop,(∀ y h' tk',Fr h₀ L h' m→News h₀ L h' ((I,oI)::(C,oC)::(D,LCg.lst ys)::news)→(∃ t,y=mk i t)→K y { s with heap:=h',toks:=tk' }) →
   wpAny (model prog w) A (eval elt (compEnvC scope cl C env)) (Elt K) E' { s with heap:=h,toks:=tk })
  (hS:S news) (fin:∀ ta tb tc,Fin [mk 0 ta,mk 1 tb,mk 2 tc] news):LCg.CompRest prog w A h₀ L m env elt x scope cl s S P Fin 3 0 [] news:=
 lc_3 (src:=fun j t=>src j.val t) (fun j t=>mk j.val t) (fun i v h=>hP i.val v i.isLt h) (fun j t I oI C oC D m₂ ys h tk E'=>turn j.val t I oI C oC D m₂ ys h tk E' j.isLt) hS fin
private theorem lc_3z {src:Nat→Tok→Value} (hP:∀ (i:Nat) (v:Value),i<3→P i v→∃ t,v=src i t)
  (turn:∀ (i:Nat) t I oI C oC D m₂ ys h tk (E':Value→Shared→Prop),i<3→LCg.NsObj oC m₂→m₂ x=some (src i t)→Fr h₀ L h m→News h₀ L h ((I,oI)::(C,oC)::(D,LCg.lst ys)::news)→LCg.Off3 I C D news →
   ∀ K:Value→Shared→Prop,(∀ y h' tk',Fr h₀ L h' m→News h₀ L h' ((I,oI)::(C,oC)::(D,LCg.lst ys)::news)→(∃ z t,y = .int z t)→K y { s with heap:=h',toks:=tk' }) →
   wpAny (model prog w) A (eval elt (compEnvC scope cl C env)) (Elt K) E' { s with heap:=h,toks:=tk })
  (hS:S news) (fin:∀ za ta zb tb zc tc,Fin [.int za ta,.int zb tb,.int zc tc] news):LCg.CompRest prog w A h₀ L m env elt x scope cl s S P Fin 3 0 [] news:=by
 refine lc_rest (fun i y=>∃ z t,y = .int z t) ?_ hS ?_
 ·intro i v I oI C oC D m₂ ys h tk E' hlt hv hC hx F N off K hK
  obtain ⟨t,rfl⟩:=hP i v hlt hv
  exact turn i t I oI C oC D m₂ ys h tk E' hlt hC hx F N off K hK
 ·intro ys hy hr
  obtain ⟨a,b,c,rfl⟩:=three hy
  obtain ⟨za,ta,rfl⟩:=hr 0 _ rfl
  obtain ⟨zb,tb,rfl⟩:=hr 1 _ rfl
  obtain ⟨zc,tc,rfl⟩:=hr 2 _ rfl
  exact fin za ta zb tb zc tc
private theorem Elt.mk {K:Value→Shared→Prop} {y:Value} {h':Heap} {g:Array GenState} {d:Drawn} {tk':Nat} {o:OsState} {R:Value→Prop} {all news':List (Addr × Obj)}
  (hK:∀ y h' tk',Fr h₀ L h' m→News h₀ L h' all→R y→K y { heap:=h',gens:=g,drawn:=d,toks:=tk',os:=o }) (F:Fr h₀ L h' m) (N:News h₀ L h' news') (hs:∀ p∈all,p∈news') (r:R y):Elt K y { heap:=h',gens:=g,drawn:=d,toks:=tk',os:=o }:=hK y h' tk' F (fun p hp=>N p (hs p hp)) r
end
end Mine
end
section
namespace Mine
structure P3 where
 a:Int
 b:Int
 c:Int
private theorem P3.ext' {p q:P3} (h1:p.a=q.a) (h2:p.b=q.b) (h3:p.c=q.c):p=q:=by
 cases p;cases q;simp_all
noncomputable def D0 (p:P3):P3:=if p.a<0 then ⟨-p.a,p.b+p.a,p.c+p.a⟩ else p
noncomputable def D1 (p:P3):P3:=if p.b<0 then ⟨p.a+p.b,-p.b,p.c+p.b⟩ else p
noncomputable def D2 (p:P3):P3:=if p.c<0 then ⟨p.a+p.c,p.b+p.c,-p.c⟩ else p
private theorem idem0 (p:P3):D0 (D0 p)=D0 p:=by
 unfold D0;by_cases h:p.a<0
 ·rw [if_pos h,if_neg (by simp only;exact Int.not_lt.mpr (lqz [_] (.lt T0 Tz 1 (.gle Tz (.g T0) 1)) rfl h))]
 ·rw [if_neg h,if_neg h]
private theorem idem1 (p:P3):D1 (D1 p)=D1 p:=by
 unfold D1;by_cases h:p.b<0
 ·rw [if_pos h,if_neg (by simp only;exact Int.not_lt.mpr (lqz [_] (.lt T0 Tz 1 (.gle Tz (.g T0) 1)) rfl h))]
 ·rw [if_neg h,if_neg h]
private theorem idem2 (p:P3):D2 (D2 p)=D2 p:=by
 unfold D2;by_cases h:p.c<0
 ·rw [if_pos h,if_neg (by simp only;exact Int.not_lt.mpr (lqz [_] (.lt T0 Tz 1 (.gle Tz (.g T0) 1)) rfl h))]
 ·rw [if_neg h,if_neg h]
private theorem braid01 (p:P3):D0 (D1 (D0 p))=D1 (D0 (D1 p)):=by
 obtain ⟨a,b,c⟩:=p
 by_cases ha:a<0<;>by_cases hb:b<0<;>by_cases hab:a+b<0<;>simp only [D0,D1,ha,hb,if_true,if_false]<;>(repeat' split)<;>first|(exfalso;simp only at *;lia -abstractProof)|(apply P3.ext'<;>simp only<;>(first|exact Int.le_antisymm (lqz [_,_] (.gle (.g (.a (.g T0) (.a T1 T0))) (.a (.g (.a T0 T1)) (.a (.g T1) (.a T0 T1))) 1) rfl) (lqz [_,_] (.gle (.a (.g (.a T0 T1)) (.a (.g T1) (.a T0 T1))) (.g (.a (.g T0) (.a T1 T0))) 1) rfl)|exact Int.le_antisymm (lqz [_,_] (.gle (.a (.g (.a T0 T1)) (.a (.g T1) (.a T0 T1))) (.g (.a (.g T0) (.a T1 T0))) 1) rfl) (lqz [_,_] (.gle (.g (.a (.g T0) (.a T1 T0))) (.a (.g (.a T0 T1)) (.a (.g T1) (.a T0 T1))) 1) rfl)|exact Int.le_antisymm (lqz [_,_,_] (.gle (.a (.a (.a T0 T1) (.a T2 T1)) (.a (.g T1) (.a T2 T1))) (.a (.a (.a T0 T2) (.a T1 T2)) (.a (.g T2) (.a T1 T2))) 1) rfl) (lqz [_,_,_] (.gle (.a (.a (.a T0 T1) (.a T2 T1)) (.a (.g T1) (.a T2 T1))) (.a (.a (.a T0 T2) (.a T1 T2)) (.a (.g T2) (.a T1 T2))) 1) rfl)))
private theorem braid02 (p:P3):D0 (D2 (D0 p))=D2 (D0 (D2 p)):=by
 obtain ⟨a,b,c⟩:=p
 by_cases ha:a<0<;>by_cases hb:c<0<;>by_cases hab:a+c<0<;>simp only [D0,D2,ha,hb,if_true,if_false]<;>(repeat' split)<;>first|(exfalso;simp only at *;lia -abstractProof)|(apply P3.ext'<;>simp only<;>(first|exact Int.le_antisymm (lqz [_,_] (.gle (.g (.a (.g T0) (.a T1 T0))) (.a (.g (.a T0 T1)) (.a (.g T1) (.a T0 T1))) 1) rfl) (lqz [_,_] (.gle (.a (.g (.a T0 T1)) (.a (.g T1) (.a T0 T1))) (.g (.a (.g T0) (.a T1 T0))) 1) rfl)|exact Int.le_antisymm (lqz [_,_,_] (.gle (.a (.a (.a T0 T1) (.a T2 T1)) (.a (.g T1) (.a T2 T1))) (.a (.a (.a T0 T2) (.a T1 T2)) (.a (.g T2) (.a T1 T2))) 1) rfl) (lqz [_,_,_] (.gle (.a (.a (.a T0 T1) (.a T2 T1)) (.a (.g T1) (.a T2 T1))) (.a (.a (.a T0 T2) (.a T1 T2)) (.a (.g T2) (.a T1 T2))) 1) rfl)|exact Int.le_antisymm (lqz [_,_] (.gle (.a (.g (.a T0 T1)) (.a (.g T1) (.a T0 T1))) (.g (.a (.g T0) (.a T1 T0))) 1) rfl) (lqz [_,_] (.gle (.g (.a (.g T0) (.a T1 T0))) (.a (.g (.a T0 T1)) (.a (.g T1) (.a T0 T1))) 1) rfl)))
private theorem braid12 (p:P3):D1 (D2 (D1 p))=D2 (D1 (D2 p)):=by
 obtain ⟨a,b,c⟩:=p
 by_cases ha:b<0<;>by_cases hb:c<0<;>by_cases hab:b+c<0<;>simp only [D1,D2,ha,hb,if_true,if_false]<;>(repeat' split)<;>first|(exfalso;simp only at *;lia -abstractProof)|(apply P3.ext'<;>simp only<;>(first|exact Int.le_antisymm (lqz [_,_,_] (.gle (.a (.a (.a T0 T1) (.a T2 T1)) (.a (.g T1) (.a T2 T1))) (.a (.a (.a T0 T2) (.a T1 T2)) (.a (.g T2) (.a T1 T2))) 1) rfl) (lqz [_,_,_] (.gle (.a (.a (.a T0 T1) (.a T2 T1)) (.a (.g T1) (.a T2 T1))) (.a (.a (.a T0 T2) (.a T1 T2)) (.a (.g T2) (.a T1 T2))) 1) rfl)|exact Int.le_antisymm (lqz [_,_] (.gle (.g (.a (.g T0) (.a T1 T0))) (.a (.g (.a T0 T1)) (.a (.g T1) (.a T0 T1))) 1) rfl) (lqz [_,_] (.gle (.a (.g (.a T0 T1)) (.a (.g T1) (.a T0 T1))) (.g (.a (.g T0) (.a T1 T0))) 1) rfl)|exact Int.le_antisymm (lqz [_,_] (.gle (.a (.g (.a T0 T1)) (.a (.g T1) (.a T0 T1))) (.g (.a (.g T0) (.a T1 T0))) 1) rfl) (lqz [_,_] (.gle (.g (.a (.g T0) (.a T1 T0))) (.a (.g (.a T0 T1)) (.a (.g T1) (.a T0 T1))) 1) rfl)))
end Mine
end
section
namespace Mine
noncomputable def nOf (W x:Int):Int:=if x<0 then -(x/W) else (max 0 (x-1))/W
private theorem neg_div {W:Int} (hW:0<W) (x:Int):(-x)/W = -((x-1)/W)-1:=by
 have h1:=Int.mul_ediv_add_emod (x-1) W
 have h2:=Int.emod_nonneg (x-1) (Int.ne_of_gt hW)
 have h3:=Int.emod_lt_of_pos (x-1) hW
 have:=(Int.ediv_emod_unique (a := -x) (b:=W) (q := -((x-1)/W)-1) (r:=W-1-(x-1) % W) hW).mpr
  ⟨by rw [Int.mul_sub,Int.mul_neg,Int.mul_one];exact Int.le_antisymm (lqz [_,_,_,_] (.eq (.a T0 T1) (.s T2 Tx) (-1) (.gle (.a (.s (.s T3 Tx) T1) (.s (.g T0) T3)) (.g T2) 1)) rfl h1) (lqz [_,_,_,_] (.eq (.a T0 T1) (.s T2 Tx) 1 (.gle (.g T2) (.a (.s (.s T3 Tx) T1) (.s (.g T0) T3)) 1)) rfl h1),by exact lqz [_,_] (.lt T0 T1 1 (.gle Tz (.s (.s T1 Tx) T0) 1)) rfl h3,by exact lqz [_,_] (.le Tz T0 1 (.glt (.s (.s T1 Tx) T0) T1 1)) rfl h2⟩
 exact this.1
private theorem nOf_neg {W:Int} (hW:0<W) {x:Int} (hx:x<0):nOf W (-x)=nOf W x-1:=by
 unfold nOf
 rw [if_neg (by exact Int.not_lt.mpr (lqz [_] (.lt T0 Tz 1 (.gle Tz (.g T0) 1)) rfl hx)),if_pos hx,Int.max_eq_right (by exact lqz [_] (.lt T0 Tz 1 (.gle Tz (.s (.g T0) Tx) 1)) rfl hx)]
 have:=neg_div hW (-x)
 rw [Int.neg_neg] at this
 exact Int.le_antisymm (lqz [_,_] (.eq T0 (.s (.g T1) Tx) 1 (.gle T1 (.s (.g T0) Tx) 1)) rfl this) (lqz [_,_] (.eq T0 (.s (.g T1) Tx) (-1) (.gle (.s (.g T0) Tx) T1 1)) rfl this)
private theorem nOf_refl {W:Int} (hW:0<W) (c:Int):nOf W (W-c)=nOf W c:=by
 have e:(W-c)/W=1+(-c)/W:=by
  rw [show W-c = -c+1*W by exact Int.le_antisymm (lqz [_,_] (.gle (.s T0 T1) (.a (.g T1) (.m Tx T0)) 1) rfl) (lqz [_,_] (.gle (.a (.g T0) (.m Tx T1)) (.s T1 T0) 1) rfl),Int.add_mul_ediv_right _ _ (Int.ne_of_gt hW)];exact Int.le_antisymm (lqz [_] (.gle (.a T0 Tx) (.a Tx T0) 1) rfl) (lqz [_] (.gle (.a Tx T0) (.a T0 Tx) 1) rfl)
 unfold nOf
 by_cases h1:W-c<0
 ·rw [if_pos h1,if_neg (by exact Int.not_lt.mpr (lqz [_,_] (.lt Tz T0 1 (.lt (.s T0 T1) Tz 1 (.gle Tz T1 1))) rfl hW h1)),Int.max_eq_right (by exact lqz [_,_] (.lt Tz T0 1 (.lt (.s T0 T1) Tz 1 (.gle Tz (.s T1 Tx) 1))) rfl hW h1),e,neg_div hW];exact Int.le_antisymm (lqz [_] (.gle (.g (.a Tx (.s (.g T0) Tx))) T0 1) rfl) (lqz [_] (.gle T0 (.g (.a Tx (.s (.g T0) Tx))) 1) rfl)
 ·rw [if_neg h1]
  by_cases h2:c<0
  ·rw [if_pos h2,Int.max_eq_right (by exact lqz [_,_] (.lt Tz T0 1 (.lt T1 Tz 1 (.gle Tz (.s (.s T0 T1) Tx) 1))) rfl hW h2),show W-c-1=(-c-1)+1*W by exact Int.le_antisymm (lqz [_,_] (.gle (.s (.s T0 T1) Tx) (.a (.s (.g T1) Tx) (.m Tx T0)) 1) rfl) (lqz [_,_] (.gle (.a (.s (.g T0) Tx) (.m Tx T1)) (.s (.s T1 T0) Tx) 1) rfl),Int.add_mul_ediv_right _ _ (Int.ne_of_gt hW)]
   have:=neg_div hW (-c)
   rw [Int.neg_neg] at this
   exact Int.le_antisymm (lqz [_,_] (.eq T0 (.s (.g T1) Tx) 1 (.gle (.a T1 Tx) (.g T0) 1)) rfl this) (lqz [_,_] (.eq T0 (.s (.g T1) Tx) (-1) (.gle (.g T0) (.a T1 Tx) 1)) rfl this)
  ·rw [if_neg h2,Int.ediv_eq_zero_of_lt (by omega) (by omega),Int.ediv_eq_zero_of_lt (by omega) (by omega)]
private theorem nOf_nonneg {W:Int} (hW:0<W) (x:Int):0≤nOf W x:=by
 unfold nOf
 by_cases h:x<0
 ·rw [if_pos h]
  have:=Int.ediv_neg_of_neg_of_pos h hW
  exact lqz [_] (.lt T0 Tz 1 (.gle Tz (.g T0) 1)) rfl this
 ·rw [if_neg h];exact Int.ediv_nonneg (by omega) (by exact lqz [_] (.lt Tz T0 1 (.gle Tz T0 1)) rfl hW)
noncomputable def nP (W:Int) (p:P3):Int:=nOf W p.a+nOf W p.b+nOf W p.c
private theorem nP0 {W:Int} (hW:0<W) (p:P3) (hs:p.a+p.b+p.c=W) (h:p.a<0):nP W (D0 p)=nP W p-1:=by
 unfold nP D0
 rw [if_pos h]
 show nOf W (-p.a)+nOf W (p.b+p.a)+nOf W (p.c+p.a)=_
 rw [nOf_neg hW h,show p.b+p.a=W-p.c by exact Int.le_antisymm (lqz [_,_,_,_] (.eq (.a (.a T0 T1) T2) T3 1 (.gle (.a T1 T0) (.s T3 T2) 1)) rfl hs) (lqz [_,_,_,_] (.eq (.a (.a T0 T1) T2) T3 (-1) (.gle (.s T3 T2) (.a T1 T0) 1)) rfl hs),show p.c+p.a=W-p.b by exact Int.le_antisymm (lqz [_,_,_,_] (.eq (.a (.a T0 T1) T2) T3 1 (.gle (.a T2 T0) (.s T3 T1) 1)) rfl hs) (lqz [_,_,_,_] (.eq (.a (.a T0 T1) T2) T3 (-1) (.gle (.s T3 T1) (.a T2 T0) 1)) rfl hs),nOf_refl hW,nOf_refl hW]
 exact Int.le_antisymm (lqz [_,_,_] (.gle (.a (.a (.s T0 Tx) T1) T2) (.s (.a (.a T0 T2) T1) Tx) 1) rfl) (lqz [_,_,_] (.gle (.s (.a (.a T0 T1) T2) Tx) (.a (.a (.s T0 Tx) T2) T1) 1) rfl)
private theorem nP1 {W:Int} (hW:0<W) (p:P3) (hs:p.a+p.b+p.c=W) (h:p.b<0):nP W (D1 p)=nP W p-1:=by
 unfold nP D1
 rw [if_pos h]
 show nOf W (p.a+p.b)+nOf W (-p.b)+nOf W (p.c+p.b)=_
 rw [nOf_neg hW h,show p.a+p.b=W-p.c by exact Int.le_antisymm (lqz [_,_,_,_] (.eq (.a (.a T0 T1) T2) T3 1 (.gle (.a T0 T1) (.s T3 T2) 1)) rfl hs) (lqz [_,_,_,_] (.eq (.a (.a T0 T1) T2) T3 (-1) (.gle (.s T3 T2) (.a T0 T1) 1)) rfl hs),show p.c+p.b=W-p.a by exact Int.le_antisymm (lqz [_,_,_,_] (.eq (.a (.a T0 T1) T2) T3 1 (.gle (.a T2 T1) (.s T3 T0) 1)) rfl hs) (lqz [_,_,_,_] (.eq (.a (.a T0 T1) T2) T3 (-1) (.gle (.s T3 T0) (.a T2 T1) 1)) rfl hs),nOf_refl hW,nOf_refl hW]
 exact Int.le_antisymm (lqz [_,_,_] (.gle (.a (.a T0 (.s T1 Tx)) T2) (.s (.a (.a T2 T1) T0) Tx) 1) rfl) (lqz [_,_,_] (.gle (.s (.a (.a T0 T1) T2) Tx) (.a (.a T2 (.s T1 Tx)) T0) 1) rfl)
private theorem nP2 {W:Int} (hW:0<W) (p:P3) (hs:p.a+p.b+p.c=W) (h:p.c<0):nP W (D2 p)=nP W p-1:=by
 unfold nP D2
 rw [if_pos h]
 show nOf W (p.a+p.c)+nOf W (p.b+p.c)+nOf W (-p.c)=_
 rw [nOf_neg hW h,show p.a+p.c=W-p.b by exact Int.le_antisymm (lqz [_,_,_,_] (.eq (.a (.a T0 T1) T2) T3 1 (.gle (.a T0 T2) (.s T3 T1) 1)) rfl hs) (lqz [_,_,_,_] (.eq (.a (.a T0 T1) T2) T3 (-1) (.gle (.s T3 T1) (.a T0 T2) 1)) rfl hs),show p.b+p.c=W-p.a by exact Int.le_antisymm (lqz [_,_,_,_] (.eq (.a (.a T0 T1) T2) T3 1 (.gle (.a T1 T2) (.s T3 T0) 1)) rfl hs) (lqz [_,_,_,_] (.eq (.a (.a T0 T1) T2) T3 (-1) (.gle (.s T3 T0) (.a T1 T2) 1)) rfl hs),nOf_refl hW,nOf_refl hW]
 exact Int.le_antisymm (lqz [_,_,_] (.gle (.a (.a T0 T1) (.s T2 Tx)) (.s (.a (.a T1 T0) T2) Tx) 1) rfl) (lqz [_,_,_] (.gle (.s (.a (.a T0 T1) T2) Tx) (.a (.a T1 T0) (.s T2 Tx)) 1) rfl)
end Mine
end
section
namespace Mine
private theorem ct_Game3_1 {x0:Int} {x1:Int} {x2:Int} (h0:0≤x0) (h1:0≤x1) (h2:0≤x2):0≤((x0+x1)+x2):=lqz [x0,x1,x2] (.le Tz T0 1 (.le Tz T1 1 (.le Tz T2 1 (.gle Tz (.a (.a T0 T1) T2) 1)))) rfl h0 h1 h2
private theorem ct_Game3_2 {x0:Int} {x1:Int} (h0:x0≤0) (h1:x1=(x0-1)) (h2:0≤x1):False:=lqz [x0,x1] (.le T0 Tz 1 (.eq T1 (.s T0 Tx) 1 (.le Tz T1 1 (.o)))) rfl h0 h1 h2
private theorem ct_Game3_3 {x0:Int} {n1:Nat} {x2:Int} (h0:x0≤((n1:Int)+1)) (h1:x2=(x0-1)):x2≤(n1:Int):=lqz [x0,(n1:Int),x2] (.le T0 (.a T1 Tx) 1 (.eq T2 (.s T0 Tx) 1 (.gle T2 T1 1))) rfl h0 h1
noncomputable def DD (k:Fin 3) (p:P3):P3:=match k with|0=>D0 p|1=>D1 p|2=>D2 p
noncomputable def part (k:Fin 3) (p:P3):Int:=match k with|0=>p.a|1=>p.b|2=>p.c
noncomputable def ops (u:List (Fin 3)) (q:P3):P3:=u.foldl (fun q k=>DD k q) q
noncomputable def sum3 (p:P3):Int:=p.a+p.b+p.c
noncomputable def Full:P3→List (Fin 3)→Prop
 | p,[]=>∀ k,¬ part k p<0
 | p,k::u=>part k p<0∧Full (DD k p) u
private theorem sumD (k:Fin 3) (p:P3):sum3 (DD k p)=sum3 p:=by
 unfold sum3 DD D0 D1 D2
 match k with
 | 0=>dsimp only;split<;>dsimp only<;>exact Int.le_antisymm (lqz [_,_,_] (.gle (.a (.a (.g T0) (.a T1 T0)) (.a T2 T0)) (.a (.a T0 T1) T2) 1) rfl) (lqz [_,_,_] (.gle (.a (.a T0 T1) T2) (.a (.a (.g T0) (.a T1 T0)) (.a T2 T0)) 1) rfl)
 | 1=>dsimp only;split<;>dsimp only<;>exact Int.le_antisymm (lqz [_,_,_] (.gle (.a (.a (.a T0 T1) (.g T1)) (.a T2 T1)) (.a (.a T0 T1) T2) 1) rfl) (lqz [_,_,_] (.gle (.a (.a T0 T1) T2) (.a (.a (.a T0 T1) (.g T1)) (.a T2 T1)) 1) rfl)
 | 2=>dsimp only;split<;>dsimp only<;>exact Int.le_antisymm (lqz [_,_,_] (.gle (.a (.a (.a T0 T1) (.a T2 T1)) (.g T1)) (.a (.a T0 T2) T1) 1) rfl) (lqz [_,_,_] (.gle (.a (.a T0 T1) T2) (.a (.a (.a T0 T2) (.a T1 T2)) (.g T2)) 1) rfl)
private theorem nD {W:Int} (hW:0<W) (k:Fin 3) (p:P3) (hs:sum3 p=W) (h:part k p<0):nP W (DD k p)=nP W p-1:=by
 match k with
 | 0=>exact nP0 hW p hs h
 | 1=>exact nP1 hW p hs h
 | 2=>exact nP2 hW p hs h
private theorem nP_nonneg {W:Int} (hW:0<W) (p:P3):0≤nP W p:=by
 have:=nOf_nonneg hW p.a;have:=nOf_nonneg hW p.b;have:=nOf_nonneg hW p.c
 unfold nP;exact ct_Game3_1 (by assumption) (by assumption) this
private theorem braid (s t:Fin 3) (p:P3):DD s (DD t (DD s p))=DD t (DD s (DD t p)):=by
 match s,t with
 | 0,0=>rfl
 | 1,1=>rfl
 | 2,2=>rfl
 | 0,1=>exact braid01 p
 | 1,0=>exact (braid01 p).symm
 | 0,2=>exact braid02 p
 | 2,0=>exact (braid02 p).symm
 | 1,2=>exact braid12 p
 | 2,1=>exact (braid12 p).symm
private theorem partD (s t:Fin 3) (p:P3) (hne:s≠t) (hs:part s p<0):part t (DD s p)=part t p+part s p∧part s (DD s p) = - part s p:=by
 match s,t with
 | 0,0=>exact absurd rfl hne
 | 1,1=>exact absurd rfl hne
 | 2,2=>exact absurd rfl hne
 | 0,1=>simp only [part] at hs;unfold DD D0 part;dsimp only;rw [if_pos hs];constructor<;>dsimp only<;>omega
 | 1,0=>simp only [part] at hs;unfold DD D1 part;dsimp only;rw [if_pos hs];constructor<;>dsimp only<;>omega
 | 0,2=>simp only [part] at hs;unfold DD D0 part;dsimp only;rw [if_pos hs];constructor<;>dsimp only<;>omega
 | 2,0=>simp only [part] at hs;unfold DD D2 part;dsimp only;rw [if_pos hs];constructor<;>dsimp only<;>omega
 | 1,2=>simp only [part] at hs;unfold DD D1 part;dsimp only;rw [if_pos hs];constructor<;>dsimp only<;>omega
 | 2,1=>simp only [part] at hs;unfold DD D2 part;dsimp only;rw [if_pos hs];constructor<;>dsimp only<;>omega
private theorem idem (s:Fin 3) (p:P3):DD s (DD s p)=DD s p:=by
 match s with
 | 0=>exact idem0 p
 | 1=>exact idem1 p
 | 2=>exact idem2 p
private theorem full_exists {W:Int} (hW:0<W):∀ (n:Nat) (p:P3),sum3 p=W→nP W p≤n→∃ u,Full p u:=by
 intro n
 induction n with
 | zero=>
  intro p hs hn
  refine ⟨[],fun k hk=>?_⟩
  have h1:=nD hW k p hs hk
  have h2:=nP_nonneg hW (DD k p)
  exact ct_Game3_2 hn h1 h2
 | succ n ih=>
  intro p hs hn
  by_cases h:∃ k,part k p<0
  ·obtain ⟨k,hk⟩:=h
   have h1:=nD hW k p hs hk
   obtain ⟨u,hu⟩:=ih (DD k p) ((sumD k p).trans hs) (by exact ct_Game3_3 hn h1)
   exact ⟨k::u,hk,hu⟩
  ·exact ⟨[],fun k hk=>h ⟨k,hk⟩⟩
private theorem exch {W:Int} (hW:0<W):∀ (n:Nat) (p:P3),sum3 p=W→nP W p≤n→∀ u v,Full p u→Full p v→u.length=v.length∧∀ q,ops u q=ops v q:=by
 intro n
 induction n with
 | zero=>
  intro p hs hn u v hu hv
  have no:∀ k,¬ part k p<0:=fun k hk=>by
   have h1:=nD hW k p hs hk
   have h2:=nP_nonneg hW (DD k p)
   exact ct_Game3_2 hn h1 h2
  cases u with
  | cons k u=>exact absurd hu.1 (no k)
  | nil=>cases v with
   | cons k v=>exact absurd hv.1 (no k)
   | nil=>exact ⟨rfl,fun _=>rfl⟩
 | succ n ih=>
  intro p hs hn u v hu hv
  cases u with
  | nil=>cases v with
   | cons k v=>exact absurd hv.1 (hu k)
   | nil=>exact ⟨rfl,fun _=>rfl⟩
  | cons s u=>cases v with
   | nil=>exact absurd hu.1 (hv s)
   | cons t v=>
    have ns:=nD hW s p hs hu.1
    have nt:=nD hW t p hs hv.1
    by_cases e:s=t
    ·subst e
     obtain ⟨h1,h2⟩:=ih (DD s p) ((sumD s p).trans hs) (by exact ct_Game3_3 hn ns) u v hu.2 hv.2
     exact ⟨by simp [h1],fun q=>h2 (DD s q)⟩
    ·obtain ⟨a1,a2⟩:=partD s t p e hu.1
     obtain ⟨b1,b2⟩:=partD t s p (Ne.symm e) hv.1
     have hs1:=(sumD s p).trans hs
     have ht1:=(sumD t p).trans hs
     have hps:=hu.1
     have hpt:=hv.1
     have vt:part t (DD s p)<0:=by exact lqz [_,_,_] (.eq T0 (.a T1 T2) 1 (.lt T2 Tz 1 (.lt T1 Tz 1 (.glt T0 Tz 1)))) rfl a1 hps hpt
     have vs:part s (DD t p)<0:=by exact lqz [_,_,_] (.eq T0 (.a T1 T2) 1 (.lt T1 Tz 1 (.lt T2 Tz 1 (.glt T0 Tz 1)))) rfl b1 hps hpt
     obtain ⟨a3,a4⟩:=partD t s (DD s p) (Ne.symm e) vt
     obtain ⟨b3,b4⟩:=partD s t (DD t p) e vs
     have ws:part s (DD t (DD s p))<0:=by exact lqz [_,_,_,_,_] (.eq T0 (.a T1 T2) 1 (.eq T3 (.g T2) 1 (.lt T1 Tz 1 (.eq T4 (.a T3 T0) 1 (.glt T4 Tz 1))))) rfl a1 a2 hpt a3
     have wt:part t (DD s (DD t p))<0:=by exact lqz [_,_,_,_,_] (.eq T0 (.a T1 T2) 1 (.eq T3 (.g T2) 1 (.lt T1 Tz 1 (.eq T4 (.a T3 T0) 1 (.glt T4 Tz 1))))) rfl b1 b2 hps b3
     obtain ⟨w,hw⟩:=full_exists hW (nP W (DD s (DD t (DD s p)))).toNat (DD s (DD t (DD s p))) (((sumD _ _).trans (sumD _ _)).trans hs1) (by lia -abstractProof)
     have f1:Full (DD s p) (t::s::w):=⟨vt,ws,hw⟩
     have f2:Full (DD t p) (s::t::w):=⟨vs,wt,by rw [← braid];exact hw⟩
     obtain ⟨h1,h2⟩:=ih (DD s p) hs1 (by exact ct_Game3_3 hn ns) u _ hu.2 f1
     obtain ⟨h3,h4⟩:=ih (DD t p) ht1 (by exact ct_Game3_3 hn nt) v _ hv.2 f2
     refine ⟨by simp [h1,h3],fun q=>?_⟩
     have g1:ops (s::u) q=ops w (DD s (DD t (DD s q))):=h2 (DD s q)
     have g2:ops (t::v) q=ops w (DD t (DD s (DD t q))):=h4 (DD t q)
     rw [g1,g2,braid]
end Mine
end
section
namespace Mine
noncomputable def InB (W:Int) (p:P3):Prop:=sum3 p=W∧(∀ k,-(4*W)≤part k p∧part k p≤5*W)
private theorem inB_turn {W:Int} (hW:0<W) (s:Fin 3) (p:P3) (h:InB W p):InB W (DD s p):=by
 refine ⟨(sumD s p).trans h.1,fun k=>?_⟩
 have h0:=h.2 0
 have h1:=h.2 1
 have h2:=h.2 2
 have hs:=h.1
 unfold sum3 at hs
 simp only [part] at h0 h1 h2
 match s,k with
 | 0,0=>unfold DD D0 part;dsimp only;split<;>(try dsimp only)<;>lia -abstractProof
 | 0,1=>unfold DD D0 part;dsimp only;split<;>(try dsimp only)<;>(first|exact ⟨lqz [_,_,_,_] (.le T0 (.m (.n 5) T1) 1 (.eq (.a (.a T2 T3) T0) T1 (-1) (.gle (.g (.m (.n 4) T1)) (.a T3 T2) 1))) rfl h2.2 hs,lqz [_,_,_,_] (.le (.g (.m (.n 4) T0)) T1 1 (.eq (.a (.a T2 T3) T1) T0 1 (.gle (.a T3 T2) (.m (.n 5) T0) 1))) rfl h2.1 hs⟩|exact ⟨lqz [_,_] (.le (.g (.m (.n 4) T0)) T1 1 (.gle (.g (.m (.n 4) T0)) T1 1)) rfl h1.1,lqz [_,_] (.le T0 (.m (.n 5) T1) 1 (.gle T0 (.m (.n 5) T1) 1)) rfl h1.2⟩)
 | 0,2=>unfold DD D0 part;dsimp only;split<;>(try dsimp only)<;>(first|exact ⟨lqz [_,_,_,_] (.le T0 (.m (.n 5) T1) 1 (.eq (.a (.a T2 T0) T3) T1 (-1) (.gle (.g (.m (.n 4) T1)) (.a T3 T2) 1))) rfl h1.2 hs,lqz [_,_,_,_] (.le (.g (.m (.n 4) T0)) T1 1 (.eq (.a (.a T2 T1) T3) T0 1 (.gle (.a T3 T2) (.m (.n 5) T0) 1))) rfl h1.1 hs⟩|exact ⟨lqz [_,_] (.le (.g (.m (.n 4) T0)) T1 1 (.gle (.g (.m (.n 4) T0)) T1 1)) rfl h2.1,lqz [_,_] (.le T0 (.m (.n 5) T1) 1 (.gle T0 (.m (.n 5) T1) 1)) rfl h2.2⟩)
 | 1,0=>unfold DD D1 part;dsimp only;split<;>(try dsimp only)<;>(first|exact ⟨lqz [_,_,_,_] (.le T0 (.m (.n 5) T1) 1 (.eq (.a (.a T2 T3) T0) T1 (-1) (.gle (.g (.m (.n 4) T1)) (.a T2 T3) 1))) rfl h2.2 hs,lqz [_,_,_,_] (.le (.g (.m (.n 4) T0)) T1 1 (.eq (.a (.a T2 T3) T1) T0 1 (.gle (.a T2 T3) (.m (.n 5) T0) 1))) rfl h2.1 hs⟩|exact ⟨lqz [_,_] (.le (.g (.m (.n 4) T0)) T1 1 (.gle (.g (.m (.n 4) T0)) T1 1)) rfl h0.1,lqz [_,_] (.le T0 (.m (.n 5) T1) 1 (.gle T0 (.m (.n 5) T1) 1)) rfl h0.2⟩)
 | 1,1=>unfold DD D1 part;dsimp only;split<;>(try dsimp only)<;>lia -abstractProof
 | 1,2=>unfold DD D1 part;dsimp only;split<;>(try dsimp only)<;>(first|exact ⟨lqz [_,_,_,_] (.le T0 (.m (.n 5) T1) 1 (.eq (.a (.a T0 T2) T3) T1 (-1) (.gle (.g (.m (.n 4) T1)) (.a T3 T2) 1))) rfl h0.2 hs,lqz [_,_,_,_] (.le (.g (.m (.n 4) T0)) T1 1 (.eq (.a (.a T1 T2) T3) T0 1 (.gle (.a T3 T2) (.m (.n 5) T0) 1))) rfl h0.1 hs⟩|exact ⟨lqz [_,_] (.le (.g (.m (.n 4) T0)) T1 1 (.gle (.g (.m (.n 4) T0)) T1 1)) rfl h2.1,lqz [_,_] (.le T0 (.m (.n 5) T1) 1 (.gle T0 (.m (.n 5) T1) 1)) rfl h2.2⟩)
 | 2,0=>unfold DD D2 part;dsimp only;split<;>(try dsimp only)<;>(first|exact ⟨lqz [_,_,_,_] (.le T0 (.m (.n 5) T1) 1 (.eq (.a (.a T2 T0) T3) T1 (-1) (.gle (.g (.m (.n 4) T1)) (.a T2 T3) 1))) rfl h1.2 hs,lqz [_,_,_,_] (.le (.g (.m (.n 4) T0)) T1 1 (.eq (.a (.a T2 T1) T3) T0 1 (.gle (.a T2 T3) (.m (.n 5) T0) 1))) rfl h1.1 hs⟩|exact ⟨lqz [_,_] (.le (.g (.m (.n 4) T0)) T1 1 (.gle (.g (.m (.n 4) T0)) T1 1)) rfl h0.1,lqz [_,_] (.le T0 (.m (.n 5) T1) 1 (.gle T0 (.m (.n 5) T1) 1)) rfl h0.2⟩)
 | 2,1=>unfold DD D2 part;dsimp only;split<;>(try dsimp only)<;>(first|exact ⟨lqz [_,_,_,_] (.le T0 (.m (.n 5) T1) 1 (.eq (.a (.a T0 T2) T3) T1 (-1) (.gle (.g (.m (.n 4) T1)) (.a T2 T3) 1))) rfl h0.2 hs,lqz [_,_,_,_] (.le (.g (.m (.n 4) T0)) T1 1 (.eq (.a (.a T1 T2) T3) T0 1 (.gle (.a T2 T3) (.m (.n 5) T0) 1))) rfl h0.1 hs⟩|exact ⟨lqz [_,_] (.le (.g (.m (.n 4) T0)) T1 1 (.gle (.g (.m (.n 4) T0)) T1 1)) rfl h1.1,lqz [_,_] (.le T0 (.m (.n 5) T1) 1 (.gle T0 (.m (.n 5) T1) 1)) rfl h1.2⟩)
 | 2,2=>unfold DD D2 part;dsimp only;split<;>(try dsimp only)<;>omega
end Mine
end
section
namespace Mine
private theorem nOf_small {W x:Int} (h0:0≤x) (h1:x≤W) (hW:0<W):nOf W x=0:=by
 unfold nOf
 rw [if_neg (by exact Int.not_lt.mpr (lqz [_] (.le Tz T0 1 (.gle Tz T0 1)) rfl h0))]
 exact Int.ediv_eq_zero_of_lt (by omega) (by omega)
private theorem nP_done {W:Int} (hW:0<W) (p:P3) (hs:sum3 p=W) (h:∀ k,¬ part k p<0):nP W p=0:=by
 have h0:=h 0;have h1:=h 1;have h2:=h 2
 simp only [part] at h0 h1 h2
 unfold sum3 at hs
 unfold nP
 rw [nOf_small (by exact lqz [_] (.nlt T0 Tz 1 (.gle Tz T0 1)) rfl h0) (by exact lqz [_,_,_,_] (.eq (.a (.a T0 T1) T2) T3 1 (.nlt T1 Tz 1 (.nlt T2 Tz 1 (.gle T0 T3 1)))) rfl hs h1 h2) hW,nOf_small (by exact lqz [_] (.nlt T0 Tz 1 (.gle Tz T0 1)) rfl h1) (by exact lqz [_,_,_,_] (.eq (.a (.a T0 T1) T2) T3 1 (.nlt T0 Tz 1 (.nlt T2 Tz 1 (.gle T1 T3 1)))) rfl hs h0 h2) hW,nOf_small (by exact lqz [_] (.nlt T0 Tz 1 (.gle Tz T0 1)) rfl h2) (by exact lqz [_,_,_,_] (.eq (.a (.a T0 T1) T2) T3 1 (.nlt T0 Tz 1 (.nlt T1 Tz 1 (.gle T2 T3 1)))) rfl hs h0 h1) hW];rfl
private theorem full_len {W:Int} (hW:0<W):∀ (u:List (Fin 3)) (p:P3),sum3 p=W→Full p u→(u.length:Int)=nP W p:=by
 intro u
 induction u with
 | nil=>intro p hs hf;rw [nP_done hW p hs hf];rfl
 | cons k u ih=>
  intro p hs hf
  have h1:=ih (DD k p) ((sumD k p).trans hs) hf.2
  have h2:=nD hW k p hs hf.1
  rw [List.length_cons];lia -abstractProof
private theorem ops_nonneg {p:P3} {k:Fin 3} (h:¬ part k p<0):DD k p=p:=by
 match k with
 | 0=>simp only [part] at h;unfold DD D0;dsimp only;rw [if_neg h]
 | 1=>simp only [part] at h;unfold DD D1;dsimp only;rw [if_neg h]
 | 2=>simp only [part] at h;unfold DD D2;dsimp only;rw [if_neg h]
private theorem full_end:∀ (u:List (Fin 3)) (p:P3),Full p u→∀ k,¬ part k (ops u p)<0:=by
 intro u
 induction u with
 | nil=>intro p h;exact h
 | cons k u ih=>intro p h;exact ih _ h.2
end Mine
end
section
namespace Mine
noncomputable def greedy:P3→List (Fin 3)→List (Fin 3)
 | _,[]=>[]
 | p,k::u=>if part k p<0 then k::greedy (DD k p) u else greedy p u
private theorem full_greedy:∀ (u:List (Fin 3)) (p:P3),(∀ k,¬ part k (ops u p)<0)→Full p (greedy p u):=by
 intro u
 induction u with
 | nil=>intro p h;exact h
 | cons k u ih=>
  intro p h
  unfold greedy
  by_cases hk:part k p<0
  ·rw [if_pos hk];exact ⟨hk,ih (DD k p) h⟩
  ·rw [if_neg hk]
   refine ih p ?_
   have h':∀ j,¬ part j (ops u (DD k p))<0:=h
   rw [ops_nonneg hk] at h'
   exact h'
private theorem led_one {W:Int} (hW:0<W) {q:P3} {t:Fin 3} {u:List (Fin 3)} (hs:sum3 q=W) (hu:Full q u) (ht:part t q<0) :
  Full q (greedy q (t::u))∧(greedy q (t::u)).length=u.length∧ops (t::u) q=ops u q:=by
 have hn:=nP_nonneg hW q
 obtain ⟨v,hv⟩:=full_exists hW (nP W (DD t q)).toNat (DD t q) ((sumD t q).trans hs) (by have:=nP_nonneg hW (DD t q);lia -abstractProof)
 have f:Full q (t::v):=⟨ht,hv⟩
 obtain ⟨_,h2⟩:=exch hW (nP W q).toNat q hs (by lia -abstractProof) u _ hu f
 have e:ops (t::u) q=ops u q:=by
  show ops u (DD t q)=ops u q
  rw [h2,h2]
  show ops v (DD t (DD t q))=ops v (DD t q)
  rw [idem]
 have g:Full q (greedy q (t::u)):=full_greedy _ _ (by rw [e];exact full_end u q hu)
 refine ⟨g,?_,e⟩
 have l1:=full_len hW _ q hs g
 have l2:=full_len hW _ q hs hu
 lia -abstractProof
end Mine
end
section
open PySem PySem.W PyProof.Rows PySem.Flt PySem.Calls
namespace Mine
theorem Mkrrrrrrrrrrrrrrr:True:=by w_top off;trivial
noncomputable abbrev seenF (v:Int):UInt64:=Float64.add 4602678819172646912 (fdivI v 16384)
noncomputable abbrev absI (x:Int):Int:=if x<0 then -x else x
structure TurnOk (k2 s0 s1 s2 n0 n1 n2:Int):Prop where
 z:RgbOk (seenF s0) (seenF s1) (seenF s2)
 l:(Float64.cmp (rgbF (seenF s0) (seenF s1) (seenF s2)).2.1 (Float64.add 4602678819172646912 (fdivI (max s0 (max s1 s2)+min s0 (min s1 s2)) 32768)) != some Ordering.eq)=false
 sh:(Float64.cmp (rgbF (seenF s0) (seenF s1) (seenF s2)).2.2 (fdivI (max s0 (max s1 s2)-min s0 (min s1 s2)) (16384-absI (max s0 (max s1 s2)+min s0 (min s1 s2)))) != some Ordering.eq)=false
 i0:IntIs (Float64.add (Float64.mul (Float64.ofInt 16384) (hlsF (Float64.divmod (Float64.sub (Float64.add 4602678819172646912 (fdivI k2 3)) (rgbF (seenF s0) (seenF s1) (seenF s2)).1) 4607182418800017408).2 (Float64.sub 4607182418800017408 (rgbF (seenF s0) (seenF s1) (seenF s2)).2.1) (rgbF (seenF s0) (seenF s1) (seenF s2)).2.2).1) 4602678819172646912) n0
 i1:IntIs (Float64.add (Float64.mul (Float64.ofInt 16384) (hlsF (Float64.divmod (Float64.sub (Float64.add 4602678819172646912 (fdivI k2 3)) (rgbF (seenF s0) (seenF s1) (seenF s2)).1) 4607182418800017408).2 (Float64.sub 4607182418800017408 (rgbF (seenF s0) (seenF s1) (seenF s2)).2.1) (rgbF (seenF s0) (seenF s1) (seenF s2)).2.2).2.1) 4602678819172646912) n1
 i2:IntIs (Float64.add (Float64.mul (Float64.ofInt 16384) (hlsF (Float64.divmod (Float64.sub (Float64.add 4602678819172646912 (fdivI k2 3)) (rgbF (seenF s0) (seenF s1) (seenF s2)).1) 4607182418800017408).2 (Float64.sub 4607182418800017408 (rgbF (seenF s0) (seenF s1) (seenF s2)).2.1) (rgbF (seenF s0) (seenF s1) (seenF s2)).2.2).2.2) 4602678819172646912) n2
 h0:(Float64.cmp 0 (rgbF (seenF s0) (seenF s1) (seenF s2)).1 == some Ordering.lt || Float64.cmp 0 (rgbF (seenF s0) (seenF s1) (seenF s2)).1 == some Ordering.eq)=true
 h1:(Float64.cmp (rgbF (seenF s0) (seenF s1) (seenF s2)).1 4607182418800017408 == some Ordering.lt)=true

noncomputable def raw (k:Fin 3) (p:P3):P3:=match k with
 | 0=>⟨0-p.a,p.b+p.a,p.c+p.a⟩
 | 1=>⟨p.a+p.b,0-p.b,p.c+p.b⟩
 | 2=>⟨p.a+p.c,p.b+p.c,0-p.c⟩
private theorem raw_self (k:Fin 3) (p:P3):part k (raw k p)=0-part k p:=match k with|0=>rfl|1=>rfl|2=>rfl
private theorem nv_off (a b c:Int):a+8192-b+c-8192+b-c=a:=by lia
private theorem raw_other (k j:Fin 3) (p:P3) (h:j≠k):part j (raw k p)=part j p+part k p:=
 fin3 (P:=fun k=>∀ j,j≠k→part j (raw k p)=part j p+part k p)
  (fin3 (P:=fun j=>j≠0→part j (raw 0 p)=part j p+part 0 p) (fun h=>absurd rfl h) (fun _=>rfl) (fun _=>rfl))
  (fin3 (P:=fun j=>j≠1→part j (raw 1 p)=part j p+part 1 p) (fun _=>rfl) (fun h=>absurd rfl h) (fun _=>rfl))
  (fin3 (P:=fun j=>j≠2→part j (raw 2 p)=part j p+part 2 p) (fun _=>rfl) (fun _=>rfl) (fun h=>absurd rfl h)) k j h
noncomputable def sv (W:Int) (k j:Fin 3) (q:P3):Int:=part j q-(if (j.val:Int)=Int.fmod ((k.val:Int)+1) 3 then W else 0)
noncomputable def nv (W:Int) (k j:Fin 3) (q:P3):Int:=part j (raw k q)+8192-part j q+sv W k j q
noncomputable def TurnAt (W:Int) (k:Fin 3) (q:P3):Prop:=TurnOk (2*(k.val:Int)) (sv W k 0 q) (sv W k 1 q) (sv W k 2 q) (nv W k 0 q) (nv W k 1 q) (nv W k 2 q)
noncomputable abbrev lst3 (p:P3) (t0 t1 t2:Tok) (n:Nat):Obj:=lst [.int p.a t0,.int p.b t1,.int p.c t2] n
noncomputable def tok3 (k:Fin 3) (t0 t1 t2:Tok):Tok:=match k with|0=>t0|1=>t1|2=>t2
noncomputable def pk3 {α:Type} (r g b:α) (j:Fin 3):α:=match j with|0=>r|1=>g|2=>b
section
variable {prog:Program} {w:World} {A:Around} {E:Value→Shared→Prop} {s:Shared} {Q:Value→Shared→Prop}
private theorem item3k {value slice:PySem.Expr} {P:Addr} {k:Fin 3} {q:P3} {t0 t1 t2 u:Tok} {n:Nat} (hP:s.heap.get? P=some (lst3 q t0 t1 t2 n)) (h:Q (.int (part k q) (tok3 k t0 t1 t2)) s)
  (hs:subscripted slice false (.ref P) (.int (k.val:Int) u)=operate [.ref P,.int (k.val:Int) u] (getItem (.ref P) (.int (k.val:Int) u))):wpAny (model prog w) A (subscriptTail value slice (.ref P) (.int (k.val:Int) u)) Q E s:=by
 refine item_at (vs:=[.int q.a t0,.int q.b t1,.int q.c t2]) (v:=.int (part k q) (tok3 k t0 t1 t2)) ⟨_,hP,rfl,n,rfl⟩ (by omega) (by have:=k.isLt;omega) ?_ h hs
 exact fin3 (P:=fun k=>[Value.int q.a t0,.int q.b t1,.int q.c t2][((k.val:Int)).toNat]?=some (Value.int (part k q) (tok3 k t0 t1 t2))) rfl rfl rfl k
private theorem item3p {value slice:PySem.Expr} {P:Addr} {k:Fin 3} {a b c:Int} {t0 t1 t2 u:Tok} {n:Nat} (hP:s.heap.get? P=some (lst [.int a t0,.int b t1,.int c t2] n)) (h:Q (.int (pk3 a b c k) (tok3 k t0 t1 t2)) s)
  (hs:subscripted slice false (.ref P) (.int (k.val:Int) u)=operate [.ref P,.int (k.val:Int) u] (getItem (.ref P) (.int (k.val:Int) u))):wpAny (model prog w) A (subscriptTail value slice (.ref P) (.int (k.val:Int) u)) Q E s:=
 item3k (q:=⟨a,b,c⟩) hP h hs
private theorem tup3k {value slice:PySem.Expr} {P:Addr} {k:Fin 3} {x0 x1 x2:UInt64} {t0 t1 t2 u:Tok} (hP:IsTup s.heap P [Value.float x0 t0,.float x1 t1,.float x2 t2].toArray) (h:Q (.float (pk3 x0 x1 x2 k) (tok3 k t0 t1 t2)) s)
  (hs:subscripted slice false (.ref P) (.int (k.val:Int) u)=operate [.ref P,.int (k.val:Int) u] (getItem (.ref P) (.int (k.val:Int) u))):wpAny (model prog w) A (subscriptTail value slice (.ref P) (.int (k.val:Int) u)) Q E s:=by
 refine item_tupleT (l:=[Value.float x0 t0,.float x1 t1,.float x2 t2]) (j:=k.val) (x:=.float (pk3 x0 x1 x2 k) (tok3 k t0 t1 t2)) hP (by omega) (by have:=k.isLt;omega) ?_ ?_ h hs
 ·exact fin3 (P:=fun k=>seqIndex? (k.val:Int) [Value.float x0 t0,.float x1 t1,.float x2 t2].length=some k.val) rfl rfl rfl k
 ·exact fin3 (P:=fun k=>[Value.float x0 t0,.float x1 t1,.float x2 t2][k.val]?=some (Value.float (pk3 x0 x1 x2 k) (tok3 k t0 t1 t2))) rfl rfl rfl k
end
private theorem sv_bound {W:Int} (hW:0<W) (hW':W≤1000) (k j:Fin 3) {q:P3} (h:InB W q) : -6000≤sv W k j q∧sv W k j q≤6000:=by
 have:=h.2 j
 unfold sv
 split<;>omega
private theorem src3' {a b c:Int} {ta tb tc:Tok} {i:Fin 3} {v:Value} (h:(#[Value.int a ta,Value.int b tb,Value.int c tc]:Array Value)[i.val]?=some v):∃ t:Tok,v = .int (pk3 a b c i) t:=
 match i,h with
 | 0,h=>⟨ta,by cases h;rfl⟩
 | 1,h=>⟨tb,by cases h;rfl⟩
 | 2,h=>⟨tc,by cases h;rfl⟩
private theorem mm_b {a b c:Int} (h0 : -6000≤a∧a≤6000) (h1 : -6000≤b∧b≤6000) (h2 : -6000≤c∧c≤6000):(-6000≤max a (max b c)∧max a (max b c)≤6000) ∧ -6000≤min a (min b c)∧min a (min b c)≤6000:=
 ⟨⟨Int.le_trans h0.1 (Int.le_max_left _ _),Int.max_le.mpr ⟨h0.2,Int.max_le.mpr ⟨h1.2,h2.2⟩⟩⟩,Int.le_min.mpr ⟨h0.1,Int.le_min.mpr ⟨h1.1,h2.1⟩⟩,Int.le_trans (Int.min_le_left _ _) h0.2⟩
private theorem tb0 {x:Int} (h : -20000≤x∧x≤20000):x.natAbs≤1048576:=by omega
private theorem tb1 {x y:Int} (h:(-6000≤x∧x≤6000) ∧ -6000≤y∧y≤6000):(x+y).natAbs≤1048576:=tb0 ⟨lqz [x,y] (.le (.g (.n 6000)) T0 1 (.le (.g (.n 6000)) T1 1 (.gle (.g (.n 20000)) (.a T0 T1) 1))) rfl h.1.1 h.2.1,lqz [x,y] (.le T0 (.n 6000) 1 (.le T1 (.n 6000) 1 (.gle (.a T0 T1) (.n 20000) 1))) rfl h.1.2 h.2.2⟩
private theorem tb2 {x y:Int} (h:(-6000≤x∧x≤6000) ∧ -6000≤y∧y≤6000):(x-y).natAbs≤1048576:=tb0 ⟨lqz [x,y] (.le (.g (.n 6000)) T0 1 (.le T1 (.n 6000) 1 (.gle (.g (.n 20000)) (.s T0 T1) 1))) rfl h.1.1 h.2.2,lqz [x,y] (.le T0 (.n 6000) 1 (.le (.g (.n 6000)) T1 1 (.gle (.s T0 T1) (.n 20000) 1))) rfl h.1.2 h.2.1⟩
private theorem tb3 {x y:Int} (h:(-6000≤x∧x≤6000) ∧ -6000≤y∧y≤6000):0<16384-(if x+y<0 then -(x+y) else x+y):=by
 split
 ·exact lqz [x,y] (.le (.g (.n 6000)) T0 1 (.le (.g (.n 6000)) T1 1 (.glt Tz (.s (.n 16384) (.g (.a T0 T1))) 1))) rfl h.1.1 h.2.1
 ·exact lqz [x,y] (.le T0 (.n 6000) 1 (.le T1 (.n 6000) 1 (.glt Tz (.s (.n 16384) (.a T0 T1)) 1))) rfl h.1.2 h.2.2
private theorem ctF1 {x0:Int} (h0:60≤x0):0<x0:=lqz [x0] (.le (.n 60) T0 1 (.glt Tz T0 1)) rfl h0
section
variable {w:World} {p:Program} {loose:List Str} {mean:ExcName→Option Value} {mg mb:Str→Option Value} {dp un:Nat} {gd:Option (List Code)} {fr:Option (List Env)} {s:Shared} {Q E:Value→Shared→Prop}
private theorem c_turnD {P:Addr} {k:Fin 3} {q:P3} {W:Int} {t0 t1 t2 tk tw:Tok} {n:Nat}
 (X:(hd.heap_1 w.params).In s.heap) (T:Top p loose mean mg mb s.heap) (hdp:dp+12<recursionLimit) (hu:un+100<cLine)
 (hW:60≤W) (hW':W≤1000) (hb:InB W q) (hf:TurnAt W k q)
 (hP:s.heap.get? P=some (lst3 q t0 t1 t2 n))
 (hret:∀ t0 t1 t2 n r h' tk',Ext s.heap h'→h'.get? r=some (lst3 (raw k q) t0 t1 t2 n)→s.heap.get? r=none→Q (.ref r) { s with heap:=h',toks:=tk' }) :
 wpAny (model PySem.Challenge.rw_sc0045_01.prog w) (AA dp un gd fr) (call (.ref 145) [.ref P,.int (k.val:Int) tk,.int W tw]) Q E s:=by
 revert X
 k_fill
 intro X
 have hk:=k.isLt
 refine wpAny_call ?_
 walk_at "my enterC"
 k_steps
 unfold StopC
 refine lc_3 (src:=fun i t=>.int (i.val:Int) t) (fun i t=>.int (sv W k i q) t) (fun i v hv=>by obtain ⟨t,rfl⟩:=hv;exact ⟨t,by rw [Int.zero_add]⟩) ?_ ?_ ?_
 ·intro j tv I oI C oC D m₂ ys h tk E' hC hx F N off K hK
  unfold sv at hK
  k_steps
  ·rename (j.val:Int)=_=>hj
   rw [if_pos hj] at hK
   walk_at "my elt"
  ·rename ¬ (j.val:Int)=_=>hj
   rw [if_neg hj] at hK
   walk_at "my elt"
 ·lcg_src
 ·intro ta tb tc
  have hs0:=sv_bound (by omega) hW' k 0 hb
  have hs1:=sv_bound (by omega) hW' k 1 hb
  have hs2:=sv_bound (by omega) hW' k 2 hb
  have hn:∀ j,nv W k j q-8192+part j q-pk3 (sv W k 0 q) (sv W k 1 q) (sv W k 2 q) j=part j (raw k q):=by
   unfold nv
   refine fin3 ?_ ?_ ?_
   ·show _-sv W k 0 q=_;exact nv_off _ _ _
   ·show _-sv W k 1 q=_;exact nv_off _ _ _
   ·show _-sv W k 2 q=_;exact nv_off _ _ _
  unfold TurnAt at hf
  generalize sv W k 0 q=s0 at *
  generalize sv W k 1 q=s1 at *
  generalize sv W k 2 q=s2 at *
  have hmm:=mm_b hs0 hs1 hs2
  refine goalP fun G9 hG9=>?_
  obtain ⟨z9,l9,s9,i9,i8,i7,h9,h8⟩:=hf
  refine hG9 ?_
  clear hG9 G9
  k_steps
  unfold StopC
  refine lc_3 (src:=fun i t=>.int (pk3 s0 s1 s2 i) t) (fun i t=>.float (seenF (pk3 s0 s1 s2 i)) t) ?_ ?_ ?_ ?_
  ·intro i v hv
   exact src3' hv
  ·intro j tv I oI C oC D m₂ ys h tk E' hC hx F N off K hK
   have hj : -6000≤pk3 s0 s1 s2 j∧pk3 s0 s1 s2 j≤6000:=fin3 (P:=fun j => -6000≤pk3 s0 s1 s2 j∧pk3 s0 s1 s2 j≤6000) hs0 hs1 hs2 j
   generalize pk3 s0 s1 s2 j=sj at *
   k_steps
   walk_at "my elt"
  ·lcg_src
  ·intro ua ub uc
   dsimp only [pk3]
   k_steps
   unfold StopC
   refine' c_rgb ?kX ?kT ?kd z9 ?_
   case kX=>k_in
   case kT=>walk_at "my top"
   case kd=>walk_at "my room"
   intro v1 v2 v3
   generalize rgbF (seenF s0) (seenF s1) (seenF s2)=rg at *
   walk_at "my backO"
   k_steps
   unfold StopC
   refine' c_hls ?kX2 ?kT2 ?kd2 ?_
   case kX2=>k_in
   case kT2=>walk_at "my top"
   case kd2=>walk_at "my room"
   intro v4 v5 v6
   generalize hlsF (Float64.divmod (Float64.sub (Float64.add 4602678819172646912 (fdivI (2*(k.val:Int)) 3)) rg.1) 4607182418800017408).2 (Float64.sub 4607182418800017408 rg.2.1) rg.2.2=hl at *
   walk_at "my backO"
   have hI:∀ j,IntIs (Float64.add (Float64.mul (Float64.ofInt 16384) (pk3 hl.1 hl.2.1 hl.2.2 j)) 4602678819172646912) (nv W k j q):=fin3 i9 i8 i7
   clear i9 i8 i7
   k_steps
   unfold StopC
   refine lc_3 (src:=fun i t=>.int (i.val:Int) t) (fun i t=>.int (part i (raw k q)) t) (fun i v hv=>by obtain ⟨t,rfl⟩:=hv;exact ⟨t,by rw [Int.zero_add]⟩) ?_ ?_ ?_
   ·intro j tv I oI C oC D m₂ ys h tk E' hC hx F N off K hK
    rw [← hn j] at hK
    have hIj:=hI j
    k_steps
    walk_at "my elt"
   ·lcg_src
   ·intro wa wb wc
    clear hI hn
    k_steps
    unfold StopC
    refine lc_3 (src:=fun i t=>.int (i.val:Int) t) (fun i t=>.int (part i (raw k q)) t) (fun i v hv=>by obtain ⟨t,rfl⟩:=hv;exact ⟨t,by rw [Int.zero_add]⟩) ?_ ?_ ?_
    ·intro j tv I oI C oC D m₂ ys h tk E' hC hx F N off K hK
     k_steps
     ·rename (j.val:Int)=_=>hj
      have e:j=k:=Fin.ext (by omega)
      rw [show part j (raw k q)=0-part j q by rw [e];exact raw_self k q] at hK
      walk_at "my elt"
     ·rename ¬ (j.val:Int)=_=>hj
      rw [raw_other k j q (fun e=>hj (by rw [e]))] at hK
      walk_at "my elt"
    ·lcg_src
    ·intro xa xb xc
     k_steps
     (try dsimp only)
     rename News _ _ _ _=>N5
     refine hret _ _ _ _ _ _ _ (Fr.keep (by assumption)) (News.get N5 (by k_mem)) (News.fresh N5 (by k_mem))
end
end Mine
end
section
open PySem PySem.W PyProof.Rows PySem.Flt PySem.Calls
namespace Mine
theorem Mkrrrrrrrrrrrrrrrr:True:=trivial
private theorem raw_neg {k:Fin 3} {p:P3} (h:part k p<0):raw k p=DD k p:=by
 match k with
 | 0=>simp only [part] at h;simp [raw,DD,D0,h]
 | 1=>simp only [part] at h;simp [raw,DD,D1,h]
 | 2=>simp only [part] at h;simp [raw,DD,D2,h]
private theorem raw_zero {k:Fin 3} {p:P3} (h:part k p=0):raw k p=p:=by
 match k with
 | 0=>simp only [part] at h;simp [raw,h];exact P3.ext' h.symm rfl rfl
 | 1=>simp only [part] at h;simp [raw,h];exact P3.ext' rfl h.symm rfl
 | 2=>simp only [part] at h;simp [raw,h];exact P3.ext' rfl rfl h.symm
noncomputable def TurnFact (W:Int):Prop:=∀ p,InB W p→∀ k,part k p≤0→TurnAt W k p
section
variable {w:World} {p:Program} {loose:List PySem.Str} {mean:ExcName→Option Value} {mg mb:PySem.Str→Option Value} {dp un:Nat} {gd:Option (List Code)} {fr:Option (List Env)} {s:Shared} {Q E:Value→Shared→Prop}
private theorem c_turnK {h₀:Heap} {L P:Addr} {m:PySem.Str→Option Value} {news:List (Addr × Obj)} {k:Fin 3} {q:P3} {W:Int} {t0 t1 t2 tk tw:Tok} {n:Nat}
 (F:Fr h₀ L s.heap m) (N:News h₀ L s.heap news) (X:(hd.heap_1 w.params).In h₀) (T:Top p loose mean mg mb h₀) (hdp:dp+12<recursionLimit) (hu:un+100<cLine)
 (hW:60≤W∧W≤1000) (hb:InB W q) (hf:TurnAt W k q)
 (hP:s.heap.get? P=some (lst3 q t0 t1 t2 n))
 (hret:∀ r h' tk' t0 t1 t2 n,Fr h₀ L h' m→News h₀ L h' ((r,lst3 (raw k q) t0 t1 t2 n)::news)→(∀ p∈news,p.1≠r)→Q (.ref r) { s with heap:=h',toks:=tk' }) :
 wpAny (model PySem.Challenge.rw_sc0045_01.prog w) (AA dp un gd fr) (call (.ref 145) [.ref P,.int (k.val:Int) tk,.int W tw]) Q E s:=by
 refine c_turnD (X.keeps F.keep) (T.keeps F.keep) hdp hu hW.1 hW.2 hb hf hP fun t0 t1 t2 n r h' tk' e hr hn=>?_
 exact hret r h' tk' t0 t1 t2 n (F.grownK e) (news_addN F N e hr hn) fun p hp q9=>by have:=(N p hp).1;rw [q9,hn] at this;cases this
end
section
variable {prog:Program} {w:World} {A:Around} {E:Value→Shared→Prop} {s:Shared} {Q:Value→Shared→Prop}
noncomputable def cod (k:Fin 3):Nat:=match k with|0=>114|1=>103|2=>98
noncomputable def codU (up:Bool) (k:Fin 3):Nat:=if up then cod k-32 else cod k
noncomputable abbrev chr1 (c:Nat):PySem.Str:=⟨#[c]⟩
private theorem lower_cod:∀ (up:Bool) (k:Fin 3),Txt.lower (chr1 (codU up k))=chr1 (cod k):=by decide +kernel
private theorem find_cod:∀ (k:Fin 3),Txt.find (Str.ofString "rgb") (chr1 (cod k))=(k.val:Int):=by decide +kernel
open PySem.Builtin PySem.Builtin.Str in
private theorem fits_cod:∀ (up:Bool) (k:Fin 3),tooLong (Txt.lower (chr1 (codU up k))).length=false:=by decide +kernel
private theorem c_lower {up:Bool} {k:Fin 3} {t:Tok} (h:Q (.str (chr1 (cod k)) s.toks) { s with toks:=s.toks+1 }):wpAny (model prog w) A (call (.builtin "str.lower") [.str (chr1 (codU up k)) t]) Q E s:=
 SC.lower (fits_cod up k) (by rw [lower_cod];exact h)
private theorem c_find {k:Fin 3} {t u:Tok} (h:Q (.int (k.val:Int) s.toks) { s with toks:=s.toks+1 }):wpAny (model prog w) A (call (.builtin "str.find") [.str (Str.ofString "rgb") t,.str (chr1 (cod k)) u]) Q E s:=
 SC.find (by rw [find_cod];exact h)
end
noncomputable def PAt (h₀:Heap) (old:List (Addr × Obj)) (P:Addr) (o:Obj):Prop:=h₀.get? P=some o∨(P,o)∈old
private theorem pat_get {h₀ h:Heap} {old news:List (Addr × Obj)} {P L:Addr} {o:Obj} {m:PySem.Str→Option Value} (z:PAt h₀ old P o) (F:Fr h₀ L h m) (N:News h₀ L h news) (hs:∀ p∈old,p∈news):h.get? P=some o:=
 z.elim (fun e=>F.keep _ _ e) fun e=>N.get (hs _ e)
private theorem PAt.mono {h₀:Heap} {old old':List (Addr × Obj)} {P:Addr} {o:Obj} (z:PAt h₀ old P o) (hs:∀ p∈old,p∈old'):PAt h₀ old' P o:=z.elim .inl fun e=>.inr (hs _ e)
noncomputable abbrev Wd:=List (Fin 3)
noncomputable def wS (u:Wd):PySem.Str:=⟨(u.map cod).toArray⟩
noncomputable def uS (u:List (Bool × Fin 3)):PySem.Str:=⟨(u.map fun z=>codU z.1 z.2).toArray⟩
noncomputable def recI:P3→List (Bool × Fin 3)→List (PySem.Str × PySem.Str)
 | _,[]=>[]
 | p,z::u=>if part z.2 p<0 then (Str.ofString "", chr1 (codU z.1 z.2))::recI (DD z.2 p) u else (Str.ofString " ", Str.ofString "")::recI p u
private theorem recI_snoc:∀ (u:List (Bool × Fin 3)) (p:P3) (z:Bool × Fin 3),recI p (u++[z])=recI p u++(if part z.2 (ops (u.map (·.2)) p)<0 then [(Str.ofString "", chr1 (codU z.1 z.2))] else [(Str.ofString " ", Str.ofString "")])
 | [],p,z=>by
  show recI p [z]=_
  unfold recI ops
  simp only [List.map_nil,List.foldl_nil,List.nil_append]
  split<;>rfl
 | y::u,p,z=>by
  show recI p (y::(u++[z]))=_
  unfold recI
  by_cases h:part y.2 p<0
  ·rw [if_pos h,if_pos h,recI_snoc u];rfl
  ·rw [if_neg h,if_neg h,recI_snoc u]
   have e:ops ((y::u).map (·.2)) p=ops (u.map (·.2)) p:=by
    show ops (u.map (·.2)) (DD y.2 p)=_
    rw [ops_nonneg h]
   rw [e];rfl
private theorem recI_len:∀ (u:List (Bool × Fin 3)) (p:P3),(recI p u).length=u.length
 | [],_=>rfl
 | z::u,p=>by
  unfold recI
  split<;>simp [recI_len u]
private theorem recI_small:∀ (u:List (Bool × Fin 3)) (p:P3),∀ q∈recI p u,q.1.length+q.2.length≤1000
 | [],_,_,h=>nomatch h
 | z::u,p,q,h=>by
  unfold recI at h
  split at h
  ·rcases List.mem_cons.mp h with rfl|h
   ·show (Str.ofString "").length+(chr1 _).length≤1000
    have e1:(Str.ofString "").length=0:=by decide
    have e2:∀ c,(chr1 c).length=1:=fun _=>rfl
    rw [e1,e2];lia -abstractProof
   ·exact recI_small u _ q h
  ·rcases List.mem_cons.mp h with rfl|h
   ·show (Str.ofString " ").length+(Str.ofString "").length≤1000
    have e1:(Str.ofString "").length=0:=by decide
    have e2:(Str.ofString " ").length=1:=by decide
    rw [e1,e2];lia -abstractProof
   ·exact recI_small u _ q h
private theorem chrs_small (l:List Nat):∀ q∈l.map (fun cd=>(Str.ofString "", chr1 cd)),q.1.length+q.2.length≤1000:=by
 intro q hq
 obtain ⟨c,_,rfl⟩:=List.mem_map.mp hq
 have e1:(Str.ofString "").length=0:=by decide
 have e2:∀ c,(chr1 c).length=1:=fun _=>rfl
 show (Str.ofString "").length+(chr1 c).length≤1000
 rw [e1,e2];lia -abstractProof
private theorem inB_ops {W:Int} (hW:0<W):∀ (u:Wd) (p:P3),InB W p→InB W (ops u p)
 | [],_,h=>h
 | k::u,p,h=>inB_ops hW u (DD k p) (inB_turn hW k p h)
private theorem ops_snoc (u:Wd) (k:Fin 3) (p:P3):ops (u++[k]) p=DD k (ops u p):=by unfold ops;rw [List.foldl_append];rfl
end Mine
end
section
open PySem PySem.W PyProof.Rows PySem.Flt PySem.Calls
namespace Mine
theorem Mkrrrrrrrrrrrrrrrrr:True:=by w_top off;trivial
private theorem ctR1 {x0:Int} (h0:60≤x0):0<x0:=lqz [x0] (.le (.n 60) T0 1 (.glt Tz T0 1)) rfl h0
private theorem ctR2 {x0:Int} (h0:x0<0):x0≤0:=lqz [x0] (.lt T0 Tz 1 (.gle T0 Tz 1)) rfl h0
private theorem ctR3 {x0 x1:Nat} (h0:x0≤100) (h1:x1≤100):(x0+x1)≤1000:=lqn [x0,x1] (.le T0 (.n 100) 1 (.le T1 (.n 100) 1 (.gle (.a T0 T1) (.n 1000) 1))) rfl h0 h1
section
variable {w:World} {p:Program} {loose:List Str} {mean:ExcName→Option Value} {mg mb:Str→Option Value} {dp un:Nat} {gd:Option (List Code)} {fr:Option (List Env)} {s:Shared} {Q E:Value→Shared→Prop}
private theorem c_record {P:Addr} {q:P3} {W:Int} {t0 t1 t2 tw ta tn:Tok} {n:Nat} {ps:Array Value} {ahead:PySem.Str} {ks:List (Bool × Fin 3)}
 (X:(hd.heap_1 w.params).In (hideAll s.heap [105])) (T:Top p loose mean mg mb (hideAll s.heap [105])) (hdp:dp+14<recursionLimit) (hu:un+300<cLine) (G:AllBare s.gens)
 (hW:60≤W∧W≤1000) (hq:InB W q) (TF:TurnFact W)
 (hP:(hideAll s.heap [105]).get? P=some (lst3 q t0 t1 t2 n)) (hp:s.heap.get? 105=some (tbO ps)) (hps:TabIs pStr ps) (ha:ahead.cps.size≤100) (hnm:ks.length≤100)
 (hret:∀ s' r t P' t0 t1 t2 n ps',TabIs pStr ps'→ButExt [105] s.heap s'.heap→s'.heap.get? 105=some (tbO ps')→s.heap.get? r=none→s'.heap.get? r=some (tup [.str (strJoin (ahead.cps.toList.map (fun cd=>(Str.ofString "", chr1 cd))++recI q ks)) t,.ref P']) →
  s'.heap.get? P'=some (lst3 (ops (ks.map (·.2)) q) t0 t1 t2 n)→AllBare s'.gens→s'.os=s.os→Q (.ref r) s') :
 wpAny (model PySem.Challenge.rw_sc0045_01.prog w) (AA dp un gd fr) (call (.ref 159) [.str ahead ta,.str (uS ks) tn,.ref P,.int W tw]) Q E s:=by
 revert X
 k_fill
 intro X
 refine wpAny_call ?_
 have hl9:∀ q∈[(105,tbO ps)],s.heap.get? q.1=some q.2∧q.1∈[105]:=by intro p hp';rw [List.mem_singleton.mp hp'];exact ⟨hp,.head _⟩
 walk_at "my enterM"
 rename Fr _ _ _ _=>F0
 replace F0:Fr _ _ _ (ml [(Str.ofString "whole", Value.int W tw),(Str.ofString "parts", Value.ref P),(Str.ofString "names", Value.str (uS ks) tn),(Str.ofString "ahead", Value.str ahead ta)]):=F0
 k_steps
 rename Fr _ _ _ _=>F1
 rename News _ _ _ _=>N1
 rename_i x9 d9 hs9 td9 e9 tq9 A9 l8 l9 h9 m9
 refine str_K (σ:=List Value × List (PySem.Str × PySem.Str) × Nat × List (Addr × Obj)) (fun c=>(x9,accO d9 c.1 c.2.2.1)::(d9,szD hs9 td9 0 tq9 e9)::(105,tbO ps)::c.2.2.2) (fun _=>[]) [Str.ofString "name"]
  (fun i c=>ItemsL c.2.2.2 c.1 c.2.1∧c.2.1=(ahead.cps.toList.take i).map (fun cd=>(Str.ofString "", (⟨#[cd]⟩:PySem.Str)))∧OwnOff c.2.2.2 [x9,d9,105]) ([],[],0,[]) rfl rfl rfl F1 N1 (fun _ h=>h) G (fun _ h=>nomatch h) ?_ ?_ ?_
 ·exact ⟨.nil,rfl,fun _ h=>nomatch h⟩
 ·intro i cd t
  refine all_c ?_
  intro its xs n1 old u I oI s2 hi hq1 hO F2 N2 G2 o2
  have hit:=hq1.1
  have hxs:=hq1.2.1
  have hoff:=hq1.2.2
  clear hq1
  (refine Fr.lets F2 ?_;clear F2;intro m9 F2)
  dsimp only at hit hxs hoff hO N2
  replace hO:=off1_of hO;(try walk_at "my off")
  have hz:its.length≤1000:=by
   rw [hit.length,hxs];simp only [List.length_map,List.length_take,Array.length_toList];omega
  clear F1 N1
  k_steps
  dsimp only [MLoopPost]
  rename Fr _ _ _ _=>F3
  rename News _ _ _ _=>N3
  refine ⟨(its++[.ref ?nr9],xs++[(Str.ofString "", (⟨#[cd]⟩:PySem.Str))],n1+1,(?nr9,tup [.str (Str.ofString "") s2.toks,.str (⟨#[cd]⟩:PySem.Str) t])::old),_,_,F3,N3,?_,?_,G2,o2,?_,?_,?_⟩
  rotate_left 1
  ·(try dsimp only);first|walk_at "my in" | kst_in
  ·walk_at "my offgoal"
  ·intro p hp;cases hp
  ·walk_at "my same"
  ·refine ⟨hit.snoc (fun p hp=>.tail _ hp) (.head _),?_,?_⟩
   ·dsimp only
    rw [hxs,List.take_add_one,Array.getElem?_toList,hi]
    simp
   ·walk_at "my ownoff"
 ·refine all_c ?_
  intro its xs n1 old u s2 hq1 F2 N2 G2 o2
  have hit:=hq1.1
  have hxs:=hq1.2.1
  have hoff:=hq1.2.2
  clear hq1
  (refine Fr.lets F2 ?_;clear F2;intro m9 F2)
  (try dsimp only at hit hxs hoff N2);(try dsimp only)
  clear F1 N1
  k_steps
  rename Fr _ _ _ _=>F1
  rename News _ _ _ _=>N1
  refine str_K (σ:=List Value × List (PySem.Str × PySem.Str) × Nat × List (Addr × Obj) × Addr × Tok × Tok × Tok × Nat) (fun c=>(x9,accO d9 c.1 c.2.2.1)::(d9,szD hs9 td9 0 tq9 e9)::(105,tbO ps)::c.2.2.2.1) (fun c=>[(Str.ofString "parts", .ref c.2.2.2.2.1)]) [Str.ofString "name", Str.ofString "k", Str.ofString "parts"]
   (fun i c=>ItemsL c.2.2.2.1 c.1 c.2.1∧c.2.1=ahead.cps.toList.map (fun cd=>(Str.ofString "", chr1 cd))++recI q (ks.take i)∧OwnOff c.2.2.2.1 [x9,d9,105]∧PAt (hideAll s.heap [105]) c.2.2.2.1 c.2.2.2.2.1 (lst3 (ops ((ks.take i).map (·.2)) q) c.2.2.2.2.2.1 c.2.2.2.2.2.2.1 c.2.2.2.2.2.2.2.1 c.2.2.2.2.2.2.2.2)) (its,xs,n1,old,P,t0,t1,t2,n) rfl rfl rfl F1 N1 (fun _ h=>h) G2 ?_ ?_ ?_ ?_
  ·(try dsimp only);first|walk_at "my all" | kst_all
  ·refine ⟨hit,?_,hoff,.inl hP⟩
   dsimp only
   rw [hxs,List.take_of_length_le (by simp)]
   simp [recI]
  ·clear hit hxs hoff
   intro i cd t
   refine all_f ?_
   intro its xs n1 old Pc c0 c1 c2 nc u2 I oI s3 hi hq1 hO F2 N2 G3 o3
   have hit:=hq1.1
   have hxs:=hq1.2.1
   have hoff:=hq1.2.2.1
   have hpat:=hq1.2.2.2
   clear hq1
   (refine Fr.lets F2 ?_;clear F2;intro m9 F2)
   dsimp only at hit hxs hoff hO N2 hpat
   replace hO:=off1_of hO;(try walk_at "my off")
   obtain ⟨z,hz1,rfl⟩:∃ z,ks[i]?=some z∧cd=codU z.1 z.2:=by
    simp only [uS,List.getElem?_toArray,List.getElem?_map,Option.map_eq_some_iff] at hi
    obtain ⟨z,h1,h2⟩:=hi
    exact ⟨z,h1,h2.symm⟩
   have hz:its.length≤1000:=by
    rw [hit.length,hxs,List.length_append,List.length_map,recI_len,List.length_take,Array.length_toList];omega
   have hb:=inB_ops (by omega) ((ks.take i).map (·.2)) q hq
   obtain ⟨zu,zk⟩:=z
   generalize hqc:ops ((ks.take i).map (·.2)) q=qc at hpat hb
   clear F1 N1
   k_steps
   ·rename Fr _ _ _ _=>F3
    rename News _ _ _ _=>N3
    rename part zk qc<0=>hneg
    dsimp only [MLoopPost]
    have e5:ks.take (i+1)=ks.take i++[(zu,zk)]:=by rw [List.take_add_one,hz1];rfl
    refine ⟨(its++[.ref ?nr8],xs++[(Str.ofString "", chr1 (codU zu zk))],n1+1,(?nr7,lst3 (raw zk qc) ?ne1 ?ne2 ?ne3 ?ne4)::(?nr8,tup [.str (Str.ofString "") ?tq1,.str (chr1 (codU zu zk)) t])::old,?nr7,?ne1,?ne2,?ne3,?ne4),_,_,F3,N3,?_,?_,G3,o3,?_,?_,?_⟩
    rotate_left 7
    ·(try dsimp only);first|walk_at "my in" | kst_in
    ·walk_at "my offgoal"
    ·(try dsimp only);first|walk_at "my all" | kst_all
    ·walk_at "my same"
    ·refine ⟨hit.snoc (fun p hp=>.tail _ (.tail _ hp)) (.tail _ (.head _)),?_,?_,.inr ?_⟩
     ·dsimp only
      rw [hxs,e5,recI_snoc,hqc,if_pos hneg,List.append_assoc]
     ·walk_at "my ownoff"
     ·dsimp only
      rw [e5,List.map_append,List.map_cons,List.map_nil,ops_snoc,hqc,raw_neg hneg]
      exact .head _
   ·rename Fr _ _ _ _=>F3
    rename News _ _ _ _=>N3
    rename ¬ part zk qc<0=>hneg
    dsimp only [MLoopPost]
    have e5:ks.take (i+1)=ks.take i++[(zu,zk)]:=by rw [List.take_add_one,hz1];rfl
    refine ⟨(its++[.ref ?or8],xs++[(Str.ofString " ", Str.ofString "")],n1+1,(?or8,tup [.str (Str.ofString " ") ?tr1,.str (Str.ofString "") ?tr2])::old,Pc,c0,c1,c2,nc),_,_,F3,N3,?_,?_,G3,o3,?_,?_,?_⟩
    rotate_left 3
    ·(try dsimp only);first|walk_at "my in" | kst_in
    ·walk_at "my offgoal"
    ·(try dsimp only);first|walk_at "my all" | kst_all
    ·walk_at "my same"
    ·refine ⟨hit.snoc (fun p hp=>.tail _ hp) (.head _),?_,?_,?_⟩
     ·dsimp only
      rw [hxs,e5,recI_snoc,hqc,if_neg hneg,List.append_assoc]
     ·walk_at "my ownoff"
     ·dsimp only
      rw [e5,List.map_append,List.map_cons,List.map_nil,ops_snoc,hqc,ops_nonneg hneg]
      exact hpat.mono fun p hp=>.tail _ hp
  ·clear hit hxs hoff
   refine all_f ?_
   intro its xs n1 old Pc c0 c1 c2 nc u2 s3 hq1 F2 N2 G3 o3
   have hit:=hq1.1
   have hxs:=hq1.2.1
   have hoff:=hq1.2.2.1
   have hpat:=hq1.2.2.2
   clear hq1
   (refine Fr.lets F2 ?_;clear F2;intro m9 F2)
   have hsz:(uS ks).cps.size=ks.length:=by simp [uS]
   rw [hsz] at hxs hpat
   (try dsimp only at hit hxs hoff N2 hpat);(try dsimp only)
   rw [List.take_length] at hxs hpat
   have hz2:∀ q∈xs,q.1.length+q.2.length≤1000:=by
    rw [hxs];intro y hy
    rcases List.mem_append.mp hy with hy|hy
    ·exact chrs_small _ y hy
    ·exact recI_small _ _ y hy
   have hz3:xs.length≤1000:=by
    rw [hxs,List.length_append,List.length_map,recI_len,Array.length_toList];omega
   clear F1 N1
   k_steps
   rename Fr _ _ _ _=>F3
   rename News _ _ _ _=>N3
   rename TabIs pStr _=>hps9
   rename_i s9 t9 ps9 G9 o9 D9 h6 l1
   have h5:=N3.get (.head _)
   rw [hxs] at h5
   refine hret _ _ _ _ _ _ _ _ _ hps9 (but_of F3) (N3.get (.tail _ (.tail _ (.tail _ (.head _))))) ?_ h5 (pat_get hpat F3 N3 (fun p hp=>.tail _ (.tail _ (.tail _ (.tail _ hp))))) G9 (o9.trans (o3.trans o2))
   refine fresh_of N3 (.head _) ?_
   intro hh
   exact absurd (List.mem_singleton.mp hh) (neN (by omega))
end
end Mine
end
section
open PySem PySem.W PyProof.Rows PySem.Flt PySem.Calls
namespace Mine
theorem Mkrrrrrrrrrrrrrrrrrr:True:=trivial
private theorem empty_cps:(Str.ofString "").cps=#[]:=by decide +kernel
private theorem glued_cps (ps:List PySem.Str):(Txt.join (Str.ofString "") ps).cps.toList=ps.flatMap (·.cps.toList):=by
 have h:∀ (l:List PySem.Str) (a:Array Nat),(l.foldl (fun acc p=>acc++(Str.ofString "").cps++p.cps) a).toList=a.toList++l.flatMap (·.cps.toList):=by
  intro l
  induction l with
  | nil=>intro a;simp
  | cons p l ih=>intro a;rw [List.foldl_cons,ih];simp [empty_cps]
 cases ps with
 | nil=>rfl
 | cons p l=>
  show ((l.foldl (fun acc p=>acc++(Str.ofString "").cps++p.cps) p.cps)).toList=_
  rw [h]
  simp
noncomputable def textOf (xs:List (PySem.Str × PySem.Str)):List Nat:=xs.flatMap fun q=>q.1.cps.toList++q.2.cps.toList
private theorem str_ext {a b:PySem.Str} (h:a.cps.toList=b.cps.toList):a=b:=by
 cases a;cases b
 congr 1
 exact Array.ext' h
private theorem strJoin_eq (xs:List (PySem.Str × PySem.Str)):strJoin xs=⟨(textOf xs).toArray⟩:=by
 refine str_ext ?_
 unfold strJoin textOf
 rw [glued_cps]
 induction xs with
 | nil=>rfl
 | cons q l ih=>
  simp only [List.map_cons,List.flatMap_cons] at ih ⊢
  rw [ih,glued_cps]
  simp
private theorem lenSum_eq (xs:List (PySem.Str × PySem.Str)):lenSum xs=((strJoin xs).length:Int):=by
 rw [strJoin_eq]
 show lenSum xs=((textOf xs).toArray.size:Int)
 rw [List.size_toArray]
 unfold lenSum textOf
 induction xs with
 | nil=>rfl
 | cons q l ih=>
  simp only [List.map_cons,List.sum_cons,List.flatMap_cons,List.length_append,ih,Array.length_toList]
  show _=((q.1.cps.size+q.2.cps.size+_:Nat):Int)
  show ((q.1.cps.size+q.2.cps.size:Nat):Int)+_=_
  lia -abstractProof
private theorem strJoin_append (xs ys:List (PySem.Str × PySem.Str)):strJoin (xs++ys)=strJoin xs++strJoin ys:=by
 rw [strJoin_eq,strJoin_eq,strJoin_eq]
 refine str_ext ?_
 show _=((textOf xs).toArray++(textOf ys).toArray).toList
 simp [textOf]
noncomputable def wI (k:Fin 3):PySem.Str × PySem.Str:=(Str.ofString " ", chr1 (cod k))
noncomputable def lI (k:Fin 3):PySem.Str × PySem.Str:=(Str.ofString "", chr1 (cod k))
private theorem wI_len (u:Wd):∀ q∈u.map wI,q.1.length+q.2.length≤1000:=by
 intro q hq
 obtain ⟨k,_,rfl⟩:=List.mem_map.mp hq
 show (Str.ofString " ").length+(chr1 (cod k)).length≤1000
 have e2:(Str.ofString " ").length=1:=by decide
 have e1:(chr1 (cod k)).length=1:=rfl
 rw [e1,e2];lia -abstractProof
private theorem lI_len (u:Wd):∀ q∈u.map lI,q.1.length+q.2.length≤1000:=by
 intro q hq
 obtain ⟨k,_,rfl⟩:=List.mem_map.mp hq
 show (Str.ofString "").length+(chr1 (cod k)).length≤1000
 have e2:(Str.ofString "").length=0:=by decide
 have e1:(chr1 (cod k)).length=1:=rfl
 rw [e1,e2];lia -abstractProof
private theorem blank_cps:(Str.ofString " ").cps.toList=[32]:=by decide +kernel
private theorem text_lI (u:Wd):strJoin (u.map lI)=wS u:=by
 rw [strJoin_eq]
 unfold wS
 congr 2
 unfold textOf
 induction u with
 | nil=>rfl
 | cons k u ih=>simp [lI,empty_cps,ih]
private theorem join_wI1 (k:Fin 3):strJoin [wI k]=Str.ofString " " ++ chr1 (cod k):=by
 rw [strJoin_eq]
 refine str_ext ?_
 show _=((Str.ofString " ").cps++#[cod k]).toList
 simp [textOf,wI]
private theorem join_nil:strJoin []=Str.ofString "" := by
 rw [strJoin_eq]
 refine str_ext ?_
 simp [textOf,empty_cps]
private theorem text_front (k:Fin 3) (u:Wd):(Str.ofString " " ++ chr1 (cod k))++strJoin (u.map wI)=strJoin ((k::u).map wI):=by
 rw [← join_wI1,←strJoin_append]
 rfl
private theorem str_assoc (a b c:PySem.Str):(a++b)++c=a++(b++c):=by
 refine str_ext ?_
 show ((a.cps++b.cps)++c.cps).toList=(a.cps++(b.cps++c.cps)).toList
 simp
private theorem text_back (k:Fin 3) (u:Wd):(strJoin (u.map wI)++Str.ofString " ")++chr1 (cod k)=strJoin ((u++[k]).map wI):=by
 rw [str_assoc,←join_wI1,←strJoin_append,List.map_append]
 rfl
section
variable {prog:Program} {w:World} {A:Around} {E:Value→Shared→Prop} {s:Shared} {env:Env} {h₀:Heap} {Q:Flow→Shared→Prop}
inductive WLoopEnd {σ:Type} (h₀:Heap) (L:Addr) (os₀:OsState) (led:σ→List (Addr × Obj)) (ps:σ→List (PySem.Str × Value)) (stored:List PySem.Str) (m₀:PySem.Str→Option Value) (Inv:σ→Prop) (s₃:Shared):Prop
 | mk (c':σ) (m':PySem.Str→Option Value) (news':List (Addr × Obj)) (F:Fr h₀ L s₃.heap m') (N:News h₀ L s₃.heap news') (hn:∀ p∈led c',p∈news') (G:AllBare s₃.gens) (o:s₃.os=os₀) (hk:∀ p∈ps c',m' p.1=some p.2) (hr:∀ z,(∀ p∈ps c',z≠p.1)→stored.contains z=false→m' z=m₀ z) (J:Inv c'):WLoopEnd h₀ L os₀ led ps stored m₀ Inv s₃
noncomputable def WLoopPost {σ:Type} (h₀:Heap) (L:Addr) (s:Shared) (led:σ→List (Addr × Obj)) (ps:σ→List (PySem.Str × Value)) (stored:List PySem.Str) (m₀:PySem.Str→Option Value) (Inv:σ→Prop) (Q:Flow→Shared→Prop) (f:Flow) (s₃:Shared):Prop:=
 match f with
 | .ret v=>Q (.ret v) s₃
 | .brk=>Q .next s₃
 | _=>WLoopEnd h₀ L s.os led ps stored m₀ Inv s₃
structure Held (P:Prop):Prop where
 get:P
private theorem while_KS {σ:Type} {test:PySem.Expr} {body:List Stmt} {pos:Pos} {m m₀:PySem.Str→Option Value} {news:List (Addr × Obj)}
  (led:σ→List (Addr × Obj)) (ps:σ→List (PySem.Str × Value)) (stored:List PySem.Str) (Inv:σ→Prop) (μ:σ→Nat) (c₀:σ)
  (F:Fr h₀ env.locals s.heap m) (N:News h₀ env.locals s.heap news) (hN:∀ p∈led c₀,p∈news) (G:AllBare s.gens)
  (hk:∀ p∈ps c₀,m p.1=some p.2) (hs0:Same stored m m₀) (i0:Inv c₀)
  (turn:∀ c u (s':Shared),Inv c→Fr h₀ env.locals s'.heap (mMap stored u m₀ (ps c))→News h₀ env.locals s'.heap (led c)→AllBare s'.gens→s'.os=s.os →
   wpAny (model prog w) A (isTrue test env (eval test env)) (fun b s₂=>
    if b=true then wpAny (model prog w) A (execs body env) (fun f s₃=>Held (WLoopPost h₀ env.locals s led ps stored m₀ (fun c'=>Inv c'∧μ c'<μ c) Q f s₃)) E s₂ else Q .next s₂) E s')
  (hE:PassesOwn (model prog w) A env E:=by passes_own) :
  wpAny (model prog w) A (exec (.While test body [] pos) env) Q E s:=by
 refine wpAny_While (codeAny_whileLoop (fun k s'=>∃ c u,Inv c∧μ c=k∧Fr h₀ env.locals s'.heap (mMap stored u m₀ (ps c))∧News h₀ env.locals s'.heap (led c)∧AllBare s'.gens∧s'.os=s.os) ?_ (μ c₀)
  ⟨c₀,m,i0,rfl,ksw_fr (m₁:=m) hk (fun z _ hz=>hs0 z hz) F,fun p hp=>N p (hN p hp),G,rfl⟩)
 rintro k s' ⟨c,u,hJ,rfl,F',N',G',os'⟩
 refine wpAny_mono (turn c u s' hJ F' N' G' os') (fun b s₂ h₂=>?_) hE
 cases b with
 | false=>
  simp only [Bool.false_eq_true,if_false] at h₂ ⊢
  exact wpAny_execs_nil h₂
 | true=>
  simp only [if_true] at h₂ ⊢
  refine wpAny_mono (wpAny_passesOwn hE h₂) (fun f s₃ h₃=>?_) fun _ _ e=>e
  replace h₃:=h₃.get
  have fin:WLoopEnd h₀ env.locals s.os led ps stored m₀ (fun c'=>Inv c'∧μ c'<μ c) s₃→∃ n,n<μ c∧∃ c u,Inv c∧μ c=n∧Fr h₀ env.locals s₃.heap (mMap stored u m₀ (ps c))∧News h₀ env.locals s₃.heap (led c)∧AllBare s₃.gens∧s₃.os=s.os:=by
   rintro ⟨c',m',news',F9,N9,hn9,G9,o9,hk9,hr9,⟨J9,lt9⟩⟩
   exact ⟨μ c',lt9,c',m',J9,rfl,ksw_fr hk9 hr9 F9,fun p hp=>N9 p (hn9 p hp),G9,o9⟩
  cases f with
  | ret v=>exact h₃
  | brk=>exact h₃
  | cont=>exact fin h₃
  | next=>exact fin h₃
private theorem while_K {σ:Type} {test:PySem.Expr} {body:List Stmt} {pos:Pos} {m₀:PySem.Str→Option Value} {news:List (Addr × Obj)}
  (led:σ→List (Addr × Obj)) (ps:σ→List (PySem.Str × Value)) (stored:List PySem.Str) (Inv:σ→Prop) (μ:σ→Nat) (c₀:σ)
  (F:Fr h₀ env.locals s.heap m₀) (N:News h₀ env.locals s.heap news) (hN:∀ p∈led c₀,p∈news) (G:AllBare s.gens)
  (hk:∀ p∈ps c₀,m₀ p.1=some p.2) (i0:Inv c₀)
  (turn:∀ c u (s':Shared),Inv c→Fr h₀ env.locals s'.heap (mMap stored u m₀ (ps c))→News h₀ env.locals s'.heap (led c)→AllBare s'.gens→s'.os=s.os →
   wpAny (model prog w) A (isTrue test env (eval test env)) (fun b s₂=>
    if b=true then wpAny (model prog w) A (execs body env) (fun f s₃=>Held (WLoopPost h₀ env.locals s led ps stored m₀ (fun c'=>Inv c'∧μ c'<μ c) Q f s₃)) E s₂ else Q .next s₂) E s')
  (hE:PassesOwn (model prog w) A env E:=by passes_own) :
  wpAny (model prog w) A (exec (.While test body [] pos) env) Q E s:=
 while_KS led ps stored Inv μ c₀ F N hN G hk Same.refl i0 turn hE
private theorem Fr.base {h:Heap} {L:Addr} {S:List PySem.Str} {m:PySem.Str→Option Value} {ps:List (PySem.Str × Value)} (F:Fr h₀ L h m) (hp:∀ p∈ps,m p.1=some p.2):∃ u,Same S m (kstB u ps):=
 ⟨m,fun z _=>(kstB_eq hp fun _=>rfl).symm⟩
private theorem Same.keep {S:List PySem.Str} {u m₀:PySem.Str→Option Value} {x:PySem.Str} {v:Value} {ps:List (PySem.Str × Value)} (h0:m₀ x=some v) (h:Same S (kstB u ps) m₀):Same S (kstB u ((x,v)::ps)) m₀:=fun z hz=>by
 show (if z=x then some v else kstB u ps z)=m₀ z
 by_cases e:z=x
 ·rw [if_pos e,e,h0]
 ·rw [if_neg e];exact h z hz
end
end Mine
end
section
open PySem PySem.W PyProof.Rows PySem.Flt PySem.Calls
namespace Mine
noncomputable def PreP:P3→Wd→Prop
 | _,[]=>True
 | p,k::l=>part k p<0∧PreP (DD k p) l
private theorem preP_snoc:∀ (l:Wd) (p:P3) (k:Fin 3),PreP p l→part k (ops l p)<0→PreP p (l++[k])
 | [],_,_,_,h=>⟨h,trivial⟩
 | j::l,p,k,h,hk=>⟨h.1,preP_snoc l (DD j p) k h.2 hk⟩
private theorem full_of_pre:∀ (l:Wd) (p:P3),PreP p l→(∀ k,¬ part k (ops l p)<0)→Full p l
 | [],_,_,h=>h
 | j::l,p,h,hk=>⟨h.1,full_of_pre l (DD j p) h.2 hk⟩
noncomputable def scan:P3→Wd→List P3
 | p,[]=>[p]
 | p,k::l=>p::scan (DD k p) l
private theorem scan_snoc:∀ (l:Wd) (p:P3) (k:Fin 3),scan p (l++[k])=scan p l++[DD k (ops l p)]
 | [],_,_=>rfl
 | j::l,p,k=>by
  show p::scan (DD j p) (l++[k])=_
  rw [scan_snoc l];rfl
private theorem scan_len:∀ (l:Wd) (p:P3),(scan p l).length=l.length+1
 | [],_=>rfl
 | j::l,p=>by show (scan (DD j p) l).length+1=_;rw [scan_len l];rfl
private theorem scan_get:∀ (l:Wd) (p:P3) (i:Nat),i≤l.length→(scan p l)[i]?=some (ops (l.take i) p)
 | [],p,0,_=>rfl
 | j::l,p,0,_=>rfl
 | j::l,p,i+1,h=>by
  show (scan (DD j p) l)[i]?=_
  rw [scan_get l _ i (by simpa using h)];rfl
private theorem nOf_le {W x:Int} (hW:0<W) (h0 : -(4*W)≤x) (h1:x≤5*W):nOf W x≤4:=by
 unfold nOf
 split
 ·have : -4≤x/W:=by
   rw [Int.le_ediv_iff_mul_le hW];exact lqz [_,_] (.le (.g (.m (.n 4) T0)) T1 1 (.gle (.m (.g (.n 4)) T0) T1 1)) rfl h0
  exact lqz [_] (.le (.g (.n 4)) T0 1 (.gle (.g T0) (.n 4) 1)) rfl this
 ·have:max 0 (x-1)/W<5:=by
   rw [Int.ediv_lt_iff_lt_mul hW];omega
  exact lqz [_] (.lt T0 (.n 5) 1 (.gle T0 (.n 4) 1)) rfl this
private theorem nP_le {W:Int} (hW:0<W) {p:P3} (h:InB W p):nP W p≤12:=by
 have h0:=nOf_le hW (h.2 0).1 (h.2 0).2
 have h1:=nOf_le hW (h.2 1).1 (h.2 1).2
 have h2:=nOf_le hW (h.2 2).1 (h.2 2).2
 simp only [part] at h0 h1 h2
 unfold nP
 exact lqz [_,_,_] (.le T0 (.n 4) 1 (.le T1 (.n 4) 1 (.le T2 (.n 4) 1 (.gle (.a (.a T0 T1) T2) (.n 12) 1)))) rfl h0 h1 h2
noncomputable def negs (p:P3):Wd:=[0,1,2].filter fun k=>decide (part k p<0)
noncomputable def negsTo (i:Nat) (p:P3):Wd:=([0,1,2].take i).filter fun k=>decide (part k p<0)
private theorem negs_mem {p:P3} {k:Fin 3} (h:part k p<0):k∈negs p:=by
 unfold negs
 rw [List.mem_filter]
 refine ⟨?_,by simpa using h⟩
 match k with
 | 0=>simp
 | 1=>simp
 | 2=>simp
private theorem negsTo_len (i:Nat) (p:P3):(negsTo i p).length≤3:=by
 unfold negsTo
 refine Nat.le_trans (List.length_filter_le _ _) ?_
 rw [List.length_take]
 exact Nat.le_trans (Nat.min_le_right _ _) (by decide)
private theorem negsTo_succ {i:Nat} {p:P3} (h:i<3):negsTo (i+1) p=negsTo i p++(if part ⟨i,h⟩ p<0 then [⟨i,h⟩] else []):=by
 have e:([0,1,2]:Wd).take (i+1)=([0,1,2]:Wd).take i++[⟨i,h⟩]:=by
  match i,h with
  | 0,_=>rfl
  | 1,_=>rfl
  | 2,_=>rfl
 unfold negsTo
 rw [e,List.filter_append]
 congr 1
 by_cases hp:part ⟨i,h⟩ p<0
 ·simp [hp]
 ·simp [hp]
inductive StL (h₀:Heap) (old:List (Addr × Obj)):List Value→List P3→Prop
 | nil:StL h₀ old [] []
 | cons {P:Addr} {q:P3} {t0 t1 t2:Tok} {n:Nat} {vs qs}:PAt h₀ old P (lst3 q t0 t1 t2 n)→StL h₀ old vs qs→StL h₀ old (.ref P::vs) (q::qs)
private theorem StL.mono {h₀:Heap} {old old':List (Addr × Obj)} (k:∀ p∈old,p∈old') {vs qs} (z:StL h₀ old vs qs):StL h₀ old' vs qs:=by
 induction z with
 | nil=>exact .nil
 | cons e _ ih=>exact .cons (e.mono k) ih
private theorem StL.append {h₀:Heap} {old:List (Addr × Obj)} {vs qs vs' qs'} (y:StL h₀ old vs qs) (z:StL h₀ old vs' qs'):StL h₀ old (vs++vs') (qs++qs'):=by
 induction y with
 | nil=>exact z
 | cons e _ ih=>exact .cons e ih
private theorem StL.length {h₀:Heap} {old:List (Addr × Obj)} {vs qs} (z:StL h₀ old vs qs):vs.length=qs.length:=by
 induction z with
 | nil=>rfl
 | cons _ _ ih=>exact congrArg Nat.succ ih
private theorem StL.get {h₀:Heap} {old:List (Addr × Obj)} {vs qs} (z:StL h₀ old vs qs):∀ (i:Nat) (q:P3),qs[i]?=some q→∃ P t0 t1 t2 n,vs[i]?=some (.ref P)∧PAt h₀ old P (lst3 q t0 t1 t2 n):=by
 induction z with
 | nil=>exact fun _ _ h=>nomatch h
 | cons e z ih=>
  intro i q h
  cases i with
  | zero=>cases h;exact ⟨_,_,_,_,_,rfl,e⟩
  | succ i=>exact ih i q h
private theorem StL.base {h₀ h:Heap} {old:List (Addr × Obj)} (k:∀ P o,PAt h₀ old P o→h.get? P=some o):∀ {vs qs},StL h₀ old vs qs→StL h [] vs qs
 | _,_,.nil=>.nil
 | _,_,.cons e z=>.cons (.inl (k _ _ e)) (z.base k)
section
variable {prog:Program} {w:World} {A:Around} {E:Value→Shared→Prop} {s:Shared} {h₀:Heap} {L D:Addr} {m:PySem.Str→Option Value} {news:List (Addr × Obj)} {g:Obj→List (Addr × Obj)}
private theorem c_appK {vs:List Value} {n:Nat} {v:Value} {Q:Value→Shared→Prop} (F:Fr h₀ L s.heap m) (N:News h₀ L s.heap news) (U:UpdF D (lst vs n) news g) (hz:vs.length≤1000)
  (h:∀ h',Fr h₀ L h' m→News h₀ L h' (g (lst (vs++[v]) (n+1)))→Q .none { s with heap:=h' }):wpAny (model prog w) A (call (.builtin "list.append") [.ref D,v]) Q E s:=by
 have e:(vs.toArray.push v)=(vs++[v]).toArray:=by simp
 refine append_K (its:=vs.toArray) (n:=n) F N (news':=g (lst (vs++[v]) (n+1))) ?_ h (by rw [List.size_toArray,sizeLine_eq];exact lqn [_] (.le T0 (.n 1000) 1 (.gle T0 (.n 16777216) 1)) rfl hz)
 rw [e]
 exact updF_upd U
private theorem c_item12 {value slice:PySem.Expr} {l:Addr} {vs:List Value} {ns:List Int} {i:Int} {u:Tok} {Q:Value→Shared→Prop} (hl:s.heap.IsList l vs.toArray) (hi:IntsAre vs ns) (h0:0≤i) (h1:i<ns.length) (hn:ns.length≤1000)
  (h:∀ f t,Q (.int f t) s)
  (hs:subscripted slice false (.ref l) (.int i u)=operate [.ref l,.int i u] (getItem (.ref l) (.int i u))):wpAny (model prog w) A (subscriptTail value slice (.ref l) (.int i u)) Q E s:=by
 obtain ⟨t,hx⟩:=hi.get i.toNat (ns[i.toNat]'(by lia -abstractProof)) (by simp)
 exact item_at hl h0 (by lia -abstractProof) hx (h _ _) hs
end
end Mine
end
section
open PySem PySem.W PyProof.Rows PySem.Flt PySem.Calls PySem.Builtin PySem.Builtin.Str
namespace Mine
noncomputable def sTake (n:Nat) (x:PySem.Str):PySem.Str:=⟨(x.cps.toList.take n).toArray⟩
noncomputable def sDrop (n:Nat) (x:PySem.Str):PySem.Str:=⟨(x.cps.toList.drop n).toArray⟩
private theorem slice_core (x:PySem.Str) (l u:Option Int) (a b:Nat) (h:strSliceIndices l u 1 x.length=sliceRange (a:Int) (b:Int) 1) (hb:b≤x.length) :
  Txt.slice x l u=⟨((x.cps.toList.drop a).take (b-a)).toArray⟩:=by
 have hlen:x.length=x.cps.toList.length:=rfl
 unfold Txt.slice
 rw [h,sliceRange_one]
 split
 ·rename_i hh
  simp only [List.length_map,List.length_range,Bool.and_eq_true,beq_iff_eq] at hh
  have h2:=hh.2
  by_cases hz:x.length=0
  ·have:x.cps.toList=[]:=List.eq_nil_of_length_eq_zero (by rw [← hlen];exact hz)
   refine str_ext ?_
   rw [this];simp
  ·have ha:a=0:=by lia -abstractProof
   subst ha
   refine str_ext ?_
   rw [List.drop_zero,List.take_of_length_le (by rw [← hlen];lia -abstractProof)]
 ·rw [pick_run]
private theorem sl_upto (x:PySem.Str) (n:Nat):Txt.slice x none (some (n:Int))=sTake n x:=by
 rw [slice_core x none (some (n:Int)) 0 (min n x.length) ?_ (Nat.min_le_right _ _)]
 ·unfold sTake
  rw [List.drop_zero,Nat.sub_zero]
  have:x.length=x.cps.toList.length:=rfl
  rw [this,kmk_take_min]
 ·unfold strSliceIndices
  simp only [show (1:Int)>0 by decide,if_true,if_neg (show ¬ ((n:Int)<0) by lia -abstractProof)]
  congr 1
  lia -abstractProof
private theorem sl_from (x:PySem.Str) (n:Nat):Txt.slice x (some (n:Int)) none=sDrop n x:=by
 have hl:x.length=x.cps.toList.length:=rfl
 rw [slice_core x (some (n:Int)) none (min n x.length) x.length ?_ (Nat.le_refl _)]
 ·unfold sDrop
  rw [hl,kmk_drop_min,List.take_of_length_le (by rw [List.length_drop];lia -abstractProof)]
 ·unfold strSliceIndices
  simp only [show (1:Int)>0 by decide,if_true,if_neg (show ¬ ((n:Int)<0) by lia -abstractProof)]
  congr 1
  lia -abstractProof
private theorem sl_neg (x:PySem.Str) (n:Nat) (hn:0<n):Txt.slice x none (some (-(n:Int)))=sTake (x.length-n) x:=by
 have hl:x.length=x.cps.toList.length:=rfl
 rw [slice_core x none (some (-(n:Int))) 0 (x.length-n) ?_ (Nat.sub_le _ _)]
 ·unfold sTake
  rw [List.drop_zero,Nat.sub_zero]
 ·unfold strSliceIndices
  simp only [show (1:Int)>0 by decide,if_true,if_pos (show -(n:Int)<0 by lia -abstractProof)]
  congr 1
  lia -abstractProof
private theorem sl_all (x:PySem.Str):Txt.slice x none none=x:=by
 have hl:x.length=x.cps.toList.length:=rfl
 rw [slice_core x none none 0 x.length ?_ (Nat.le_refl _)]
 ·refine str_ext ?_
  rw [List.drop_zero,Nat.sub_zero,hl,List.take_length]
 ·unfold strSliceIndices
  simp only [show (1:Int)>0 by decide,if_true]
  rfl
private theorem p_a (c:Nat):Txt.slice (Str.ofString " " ++ chr1 c) none (some 1)=Str.ofString " " := by
 have:=sl_upto (Str.ofString " " ++ chr1 c) 1
 rw [show ((1:Nat):Int)=1 from rfl] at this
 rw [this]
 refine str_ext ?_
 show (((Str.ofString " ").cps++#[c]).toList.take 1)=_
 simp [blank_cps]
private theorem p_b (c:Nat):Txt.slice (Str.ofString " " ++ chr1 c) (some 1) none=chr1 c:=by
 have:=sl_from (Str.ofString " " ++ chr1 c) 1
 rw [show ((1:Nat):Int)=1 from rfl] at this
 rw [this]
 refine str_ext ?_
 show (((Str.ofString " ").cps++#[c]).toList.drop 1)=_
 simp [blank_cps]
private theorem p_c:Txt.slice (Str.ofString "") none (some 1)=Str.ofString "" := by decide +kernel
private theorem p_d:Txt.slice (Str.ofString "") (some 1) none=Str.ofString "" := by decide +kernel
private theorem p_e:Txt.slice (Str.ofString " ") none (some 1)=Str.ofString " " := by decide +kernel
section
variable {prog:Program} {w:World} {A:Around} {E:Value→Shared→Prop} {s:Shared} {Q:Value→Shared→Prop}
private theorem item_cod:∀ k:Fin 3,Txt.item (Str.ofString "rgb") (k.val:Int)=chr1 (cod k):=by decide +kernel
private theorem chr3k {value slice:PySem.Expr} {k:Fin 3} {t u:Tok} (h:Q (.str (chr1 (cod k)) s.toks) { s with toks:=s.toks+1 })
  (hs:subscripted slice false (.str (Str.ofString "rgb") t) (.int (k.val:Int) u)=operate [.str (Str.ofString "rgb") t,.int (k.val:Int) u] (getItem (.str (Str.ofString "rgb") t) (.int (k.val:Int) u)))
  (ht:∀ r,letTemporaryGo value (.str (Str.ofString "rgb") t) r=pure ()):wpAny (model prog w) A (subscriptTail value slice (.str (Str.ofString "rgb") t) (.int (k.val:Int) u)) Q E s:=by
 have e:(Str.ofString "rgb").length=3:=by decide +kernel
 have hk:=k.isLt
 refine item_str (fitsSsize_of (N:=9223372036854775808) (by lia -abstractProof) (by omega) (Int.le_refl _)) (by rw [e];lia -abstractProof) (by rw [e];omega) (fun _=>?_) hs ht
 rw [item_cod]
 exact h
end
private theorem ne_f {prog:Program} {w:World} {A:Around} {E:Value→Shared→Prop} {s:Shared} {a b:PySem.Str} {t u:Tok} {Q:Value→Shared→Prop} (e:a=b) (h:Q (.bool false) s):wpAny (model prog w) A (compareOp .NotEq (.str a t) (.str b u)) Q E s:=by
 subst e
 exact PyProof.Rows.ne_str (by simpa using h)
private theorem ne_t {prog:Program} {w:World} {A:Around} {E:Value→Shared→Prop} {s:Shared} {a b:PySem.Str} {t u:Tok} {Q:Value→Shared→Prop} (e:a≠b) (h:Q (.bool true) s):wpAny (model prog w) A (compareOp .NotEq (.str a t) (.str b u)) Q E s:=
 PyProof.Rows.ne_str (by
  have h2:(a == b)=false:=beq_eq_false_iff_ne.mpr e
  unfold bne
  rw [h2];exact h)
private theorem p_g:Txt.slice (Str.ofString " ") none (some ((Str.ofString "").length:Int))=Str.ofString "" := by decide +kernel
private theorem p_h (c:Nat):Txt.slice (Str.ofString " ") none (some ((chr1 c).length:Int))=Str.ofString " " := p_e
private theorem chr_ne (c:Nat):chr1 c≠Str.ofString "" := by
 intro h
 have:=congrArg (fun z:PySem.Str=>z.cps.size) h
 simp [empty_cps] at this
private theorem find0:Txt.find (Str.ofString "rgb") (Str.ofString "")=0:=by decide +kernel
private theorem c_find0 {prog:Program} {w:World} {A:Around} {E:Value→Shared→Prop} {s:Shared} {Q:Value→Shared→Prop} {t u:Tok} (h:Q (.int 0 s.toks) { s with toks:=s.toks+1 }):wpAny (model prog w) A (call (.builtin "str.find") [.str (Str.ofString "rgb") t,.str (Str.ofString "") u]) Q E s:=
 SC.find (by rw [find0];exact h)
private theorem nei_f {prog:Program} {w:World} {A:Around} {E:Value→Shared→Prop} {s:Shared} {a b:Int} {t u:Tok} {Q:Value→Shared→Prop} (e:a=b) (h:Q (.bool false) s):wpAny (model prog w) A (compareOp .NotEq (.int a t) (.int b u)) Q E s:=by
 subst e
 exact PyProof.Rows.ne_int (by simpa using h)
private theorem ifF {c:Prop} {d:Decidable c} {a b:Prop} (h:¬ c) (hb:b):@ite Prop c d a b:=by rw [if_neg h];exact hb
private theorem ifT {c:Prop} {d:Decidable c} {a b:Prop} (h:c) (hb:a):@ite Prop c d a b:=by rw [if_pos h];exact hb
private theorem len_b:(Str.ofString " ").length=1:=by decide +kernel
private theorem len_e:(Str.ofString "").length=0:=by decide +kernel
private theorem len_c (c:Nat):(chr1 c).length=1:=rfl
private theorem len_app (a b:PySem.Str):(a++b).length=a.length+b.length:=by
 show (a.cps++b.cps).size=_
 rw [Array.size_append];rfl
private theorem wI_tlen (u:Wd):(strJoin (u.map wI)).length=2*u.length:=by
 induction u with
 | nil=>rw [List.map_nil,join_nil,len_e];rfl
 | cons k u ih=>rw [← text_front,len_app,len_app,ih,len_b,len_c,List.length_cons];lia -abstractProof
noncomputable def Stop (P:Prop):Prop:=P
private theorem stop_of {P:Prop} (h:Stop P):P:=h
end Mine
end
section
namespace Mine
private theorem ct_Lev_1 {n0:Nat}:(2*(n0:Int))≤(2*(0+(n0:Int))):=lqz [(n0:Int)] (.gle (.m Ty T0) (.m Ty (.a Tz T0)) 1) rfl
private theorem ct_Lev_2 {n0:Nat}:(2*((n0:Int)+1))≤(2*(((n0:Int)+1)+0)):=lqz [(n0:Int)] (.gle (.m Ty (.a T0 Tx)) (.m Ty (.a (.a T0 Tx) Tz)) 1) rfl
private theorem ct_Lev_3 {x0:Int} {x1:Int} {n2:Nat} {n3:Nat} (h0:¬ x0<x1) (h1:x1=9223372036854775807) (h2:x0≤(2*(((n2:Int)+1)+((n3:Int)+1)))) (h3:(n2+n3)≤1000):False:=lqz [x0,x1,(n2:Int),(n3:Int)] (.nlt T0 T1 1 (.eq T1 (.n 9223372036854775807) (-1) (.le T0 (.m Ty (.a (.a T2 Tx) (.a T3 Tx))) 1 (.le (.a T2 T3) (.n 1000) 2 (.o))))) rfl h0 h1 h2 (Int.ofNat_le.mpr h3)
noncomputable def lvT (sub:Nat→Nat→Int) (a b:Nat→Nat):Nat→Nat→Int
 | 0,k=>2*k
 | p+1,0=>2*(p+1:Nat)
 | p+1,k+1=>min (lvT sub a b p k+sub (b p) (a k)) (min (if k=0 then 2*(p:Int) else lvT sub a b (p+1) k) (lvT sub a b p (k+1))+2)
noncomputable def lvR (sub:Nat→Nat→Int) (a b:Nat→Nat) (p k:Nat):Int:=if k=0 then 2*(p:Int) else lvT sub a b (p+1) k
section
variable {sub:Nat→Nat→Int} {a b:Nat→Nat}
private theorem lvT_succ (p k:Nat):lvT sub a b (p+1) (k+1)=min (lvT sub a b p k+sub (b p) (a k)) (min (lvR sub a b p k) (lvT sub a b p (k+1))+2):=by
 rw [lvT,lvR]
private theorem lvT_zero (p:Nat):lvT sub a b p 0=2*(p:Int):=by
 cases p with
 | zero=>rw [lvT]
 | succ p=>rw [lvT]
private theorem lvT_zero' (k:Nat):lvT sub a b 0 k=2*(k:Int):=by rw [lvT]
private theorem lvT_low (h0:∀ x y,0≤sub x y):∀ (p k:Nat),2*((p:Int)-k)≤lvT sub a b p k∧2*((k:Int)-p)≤lvT sub a b p k:=by
 intro p
 induction p with
 | zero=>intro k;rw [lvT_zero'];lia -abstractProof
 | succ p ih=>
  intro k
  induction k with
  | zero=>rw [lvT_zero];lia -abstractProof
  | succ k ik=>
   rw [lvT_succ]
   have h1:=ih k
   have h2:=ih (k+1)
   have h3:=h0 (b p) (a k)
   unfold lvR
   by_cases hk:k=0
   ·subst hk
    rw [if_pos rfl]
    lia -abstractProof
   ·rw [if_neg hk]
    lia -abstractProof
private theorem lvT_diag (h0:∀ x y,0≤sub x y) (hs:2≤sub (b 0) (a 0)):∀ (p:Nat),2≤lvT sub a b (p+1) (p+1):=by
 intro p
 induction p with
 | zero=>
  rw [lvT_succ,lvT_zero,lvT_zero']
  unfold lvR
  rw [if_pos rfl]
  lia -abstractProof
 | succ p ih=>
  rw [lvT_succ]
  have h1:=(lvT_low (a:=a) (b:=b) h0 (p+1+1) (p+1)).1
  have h2:=(lvT_low (a:=a) (b:=b) h0 (p+1) (p+1+1)).2
  have h3:=h0 (b (p+1)) (a (p+1))
  unfold lvR
  rw [if_neg (by lia -abstractProof)]
  lia -abstractProof
private theorem lvT_shift (hz:∀ x,sub x x=0) (m:Nat) (hb:∀ p,p<m→b (p+1)=a p):∀ p,p≤m→lvT sub a b (p+1) p≤2:=by
 intro p
 induction p with
 | zero=>intro _;rw [lvT_zero];lia -abstractProof
 | succ p ih=>
  intro hp
  have h1:=ih (by exact lqn [_,_] (.le (.a T0 Tx) T1 1 (.gle T0 T1 1)) rfl hp)
  rw [lvT_succ,hb p (by exact lqn [_,_] (.le (.a T0 Tx) T1 1 (.glt T0 T1 1)) rfl hp),hz]
  lia -abstractProof
noncomputable def LevT (sub:Nat→Nat→Int) (a b:Nat→Nat) (n m:Nat) (c r:Int):Prop:=
 (r=c+1∧∃ p,p<m∧∀ k,1≤k→k≤n→c<lvT sub a b (p+1) k)∨(r=lvT sub a b m n∧∀ p,p<m→∃ k,1≤k∧k≤n∧lvT sub a b (p+1) k≤c)
private theorem lev_blank (h0:∀ x y,0≤sub x y) (h2:∀ x y,sub x y≤2) (hz:∀ x,sub x x=0) {t:Nat} (hs:2≤sub (b 0) (a 0)) (hb:∀ p,p<t→b (p+1)=a p) (he:2≤sub (b (t+1)) (a t)) {c r:Int} (L:LevT sub a b (t+1) (t+1+1) c r) :
  (c=2→r=3)∧(c=4→r=4):=by
 have hlow:∀ k,1≤k→k≤t+1→4≤lvT sub a b (t+1+1) k:=by
  intro k h1 hk
  by_cases hkt:k=t+1
  ·subst hkt
   rw [lvT_succ]
   have g1:=(lvT_low (a:=a) (b:=b) h0 (t+1) t).1
   have g2:=lvT_diag (a:=a) (b:=b) h0 hs t
   have g3:=(lvT_low (a:=a) (b:=b) h0 (t+1+1) t).1
   unfold lvR
   by_cases h0t:t=0
   ·subst h0t
    rw [if_pos rfl]
    lia -abstractProof
   ·rw [if_neg h0t]
    lia -abstractProof
  ·have g:=(lvT_low (a:=a) (b:=b) h0 (t+1+1) k).1
   lia -abstractProof
 have hup:lvT sub a b (t+1+1) (t+1)≤4:=by
  rw [lvT_succ]
  have g:=lvT_shift (a:=a) (b:=b) hz t hb t (Nat.le_refl _)
  have g2:=h2 (b (t+1)) (a t)
  lia -abstractProof
 have hfin:=hlow (t+1) (by exact lqn [_] (.gle Tx (.a T0 Tx) 1) rfl) (Nat.le_refl _)
 constructor
 ·rintro rfl
  rcases L with ⟨rfl,_⟩|⟨rfl,hm⟩
  ·rfl
  ·obtain ⟨k,h1,hk,hle⟩:=hm (t+1) (by exact lqn [_] (.glt (.a T0 Tx) (.a (.a T0 Tx) Tx) 1) rfl)
   have:=hlow k h1 hk
   exact Int.le_antisymm (lqz [_,_] (.le T0 Ty 1 (.le (.n 4) T0 1 (.gle T1 (.n 3) 0))) rfl hle this) (lqz [_,_] (.le T0 Ty 1 (.le (.n 4) T0 1 (.gle (.n 3) T1 0))) rfl hle this)
 ·rintro rfl
  rcases L with ⟨rfl,p,hp,hall⟩|⟨rfl,_⟩
  ·exfalso
   by_cases hpt:p=t+1
   ·subst hpt
    have:=hall (t+1) (by exact lqn [_] (.gle Tx (.a T0 Tx) 1) rfl) (Nat.le_refl _)
    exact lqz [_] (.le T0 (.n 4) 1 (.lt (.n 4) T0 1 (.o))) rfl hup this
   ·by_cases hp0:p=0
    ·subst hp0
     have:=hall 1 (by exact lqn [] (.gle Tx Tx 1) rfl) (by exact lqn [_] (.gle Tx (.a T0 Tx) 1) rfl)
     rw [lvT_succ,lvT_zero,lvT_zero'] at this
     unfold lvR at this
     rw [if_pos rfl] at this
     have g:=h2 (b 0) (a 0)
     lia -abstractProof
    ·have g:=lvT_shift (a:=a) (b:=b) hz t hb p (by lia -abstractProof)
     have:=hall p (by lia -abstractProof) (by exact lqn [_,_] (.lt T0 (.a (.a T1 Tx) Tx) 1 (.gle T0 (.a T1 Tx) 1)) rfl hp)
     exact lqz [_] (.le T0 Ty 1 (.lt (.n 4) T0 1 (.o))) rfl g this
  ·exact Int.le_antisymm (lqz [_] (.le T0 (.n 4) 1 (.gle T0 (.n 4) 1)) rfl hup) (lqz [_] (.le (.n 4) T0 1 (.gle (.n 4) T0 1)) rfl hfin)
private theorem lev_one (hs:sub (b 0) (a 0)=1) (he:sub (b 1) (a 0)=2) {c r:Int} (L:LevT sub a b 1 2 c r):(c=2→r=3)∧(c=4→r=3):=by
 have e1:lvT sub a b 1 1=1:=by
  rw [lvT_succ,lvT_zero,lvT_zero',hs]
  unfold lvR
  rw [if_pos rfl]
  lia -abstractProof
 have e2:lvT sub a b 2 1=3:=by
  rw [lvT_succ,lvT_zero,e1,he]
  unfold lvR
  rw [if_pos rfl]
  lia -abstractProof
 constructor
 ·rintro rfl
  rcases L with ⟨rfl,_⟩|⟨rfl,_⟩
  ·rfl
  ·exact e2
 ·rintro rfl
  rcases L with ⟨rfl,p,hp,hall⟩|⟨rfl,_⟩
  ·exfalso
   have:=hall 1 (Nat.le_refl _) (Nat.le_refl _)
   match p,hp with
   | 0,_=>rw [e1] at this;exact lqz [] (.lt (.n 4) Tx 1 (.o)) rfl this
   | 1,_=>rw [e2] at this;exact lqz [] (.lt (.n 4) (.n 3) 1 (.o)) rfl this
  ·exact e2
private theorem lev_same (h0:∀ x y,0≤sub x y) (h2:∀ x y,sub x y≤2) (hz:∀ x,sub x x=0) {t:Nat} (hs:2≤sub (b 0) (a 0)) (hb:∀ p,p<t+1→b (p+1)=a p) (he:2≤sub (b (t+1)) (a (t+1))) {c r:Int} (hc:4≤c) (L:LevT sub a b (t+1+1) (t+1+1) c r):r=4:=by
 have g1:=(lvT_low (a:=a) (b:=b) h0 (t+1+1) (t+1)).1
 have g2:=(lvT_low (a:=a) (b:=b) h0 (t+1) (t+1+1)).2
 have g3:=lvT_diag (a:=a) (b:=b) h0 hs t
 have g4:=lvT_shift (a:=a) (b:=b) hz (t+1) hb (t+1) (Nat.le_refl _)
 have hfin:lvT sub a b (t+1+1) (t+1+1)=4:=by
  rw [lvT_succ]
  unfold lvR
  rw [if_neg (by lia -abstractProof)]
  have:=h2 (b (t+1)) (a (t+1))
  lia -abstractProof
 rcases L with ⟨rfl,p,hp,hall⟩|⟨rfl,_⟩
 ·exfalso
  by_cases hp0:p=0
  ·subst hp0
   have:=hall 1 (by exact lqn [] (.gle Tx Tx 1) rfl) (by exact lqn [_] (.gle Tx (.a (.a T0 Tx) Tx) 1) rfl)
   rw [lvT_succ,lvT_zero,lvT_zero'] at this
   unfold lvR at this
   rw [if_pos rfl] at this
   have g:=h2 (b 0) (a 0)
   lia -abstractProof
  ·have g:=lvT_shift (a:=a) (b:=b) hz (t+1) hb p (by exact lqn [_,_] (.lt T0 (.a (.a T1 Tx) Tx) 1 (.gle T0 (.a T1 Tx) 1)) rfl hp)
   have:=hall p (by lia -abstractProof) (by exact lqn [_,_] (.lt T0 (.a (.a T1 Tx) Tx) 1 (.gle T0 (.a (.a T1 Tx) Tx) 1)) rfl hp)
   exact lqz [_,_] (.le (.n 4) T0 1 (.le T1 Ty 1 (.lt T0 T1 1 (.o)))) rfl hc g this
 ·exact hfin
private theorem lvT_up (h2:∀ x y,sub x y≤2):∀ (p k:Nat),lvT sub a b p k≤2*((p:Int)+k):=by
 intro p
 induction p with
 | zero=>intro k;rw [lvT_zero'];exact ct_Lev_1
 | succ p ih=>
  intro k
  cases k with
  | zero=>rw [lvT_zero];exact ct_Lev_2
  | succ k=>
   rw [lvT_succ]
   have h1:=ih k
   have h3:=h2 (b p) (a k)
   lia -abstractProof
structure InnerInv (sub:Nat→Nat→Int) (a b:Nat→Nat) (n p i:Nat) (ns:List Int) (d r mn:Int):Prop where
 row:ns=(List.range n).map fun k=>if k<i then lvT sub a b (p+1) (k+1) else lvT sub a b p (k+1)
 dist:d=lvT sub a b p i
 res:r=lvR sub a b p i
 lo:∀ k,1≤k→k≤i→mn≤lvT sub a b (p+1) k
 at':(i=0∧mn=9223372036854775807)∨∃ k,1≤k∧k≤i∧mn=lvT sub a b (p+1) k
private theorem inner_zero {n p:Nat} {ns:List Int} (h:ns=(List.range n).map fun k=>lvT sub a b p (k+1)):InnerInv sub a b n p 0 ns ((p:Int)*2) ((p:Int)*2) 9223372036854775807:=
 ⟨by rw [h];rfl,by rw [lvT_zero];exact Int.le_antisymm (lqz [_] (.gle (.m T0 Ty) (.m Ty T0) 1) rfl) (lqz [_] (.gle (.m Ty T0) (.m T0 Ty) 1) rfl),by unfold lvR;rw [if_pos rfl];exact Int.le_antisymm (lqz [_] (.gle (.m T0 Ty) (.m Ty T0) 1) rfl) (lqz [_] (.gle (.m Ty T0) (.m T0 Ty) 1) rfl),fun k h1 h2=>by exact (lqn [_] (.le Tx T0 1 (.le T0 Tz 1 (.o))) rfl h1 h2).elim,.inl ⟨rfl,rfl⟩⟩
private theorem inner_get {n p i:Nat} {ns:List Int} {d r mn:Int} (h:InnerInv sub a b n p i ns d r mn) (hi:i<n):ns[i]?=some (lvT sub a b p (i+1)):=by
 rw [h.row]
 simp [hi]
private theorem inner_val {n p i:Nat} {ns:List Int} {d r mn:Int} (h:InnerInv sub a b n p i ns d r mn):min (min r (lvT sub a b p (i+1))+2) (d+sub (b p) (a i))=lvT sub a b (p+1) (i+1):=by
 rw [h.dist,h.res,lvT_succ,Int.min_comm]
private theorem inner_step {n p i:Nat} {ns:List Int} {d r mn mn':Int} (h2:∀ x y,sub x y≤2) (h:InnerInv sub a b n p i ns d r mn) (hi:i<n) (hs:p+i≤1000)
  (hm:(lvT sub a b (p+1) (i+1)<mn∧mn'=lvT sub a b (p+1) (i+1))∨(¬ lvT sub a b (p+1) (i+1)<mn∧mn'=mn)) :
  InnerInv sub a b n p (i+1) (ns.set i (lvT sub a b (p+1) (i+1))) (lvT sub a b p (i+1)) (lvT sub a b (p+1) (i+1)) mn':=by
 refine ⟨?_,rfl,by unfold lvR;rw [if_neg (by lia -abstractProof)],?_,?_⟩
 ·rw [h.row]
  apply List.ext_getElem?
  intro k
  rw [List.getElem?_set]
  by_cases hk:i=k
  ·subst hk
   simp [hi]
  ·rw [if_neg hk]
   by_cases hkn:k<n
   ·simp only [List.getElem?_map,List.getElem?_range hkn,Option.map_some,Option.some.injEq]
    by_cases hki:k<i
    ·rw [if_pos hki,if_pos (by exact lqn [_,_] (.lt T0 T1 1 (.glt T0 (.a T1 Tx) 1)) rfl hki)]
    ·rw [if_neg hki,if_neg (by lia -abstractProof)]
   ·rw [List.getElem?_eq_none (by simp;exact lqn [_,_] (.nlt T0 T1 1 (.gle T1 T0 1)) rfl hkn),List.getElem?_eq_none (by simp;exact lqn [_,_] (.nlt T0 T1 1 (.gle T1 T0 1)) rfl hkn)]
 ·intro k h1 hk
  by_cases hki:k≤i
  ·have:=h.lo k h1 hki
   rcases hm with ⟨h3,rfl⟩|⟨h3,rfl⟩
   ·exact lqz [_,_,_] (.le T0 T1 1 (.lt T2 T0 1 (.gle T2 T1 1))) rfl this h3
   ·exact this
  ·have e:k=i+1:=by exact Nat.le_antisymm (lqn [_,_] (.le T0 (.a T1 Tx) 1 (.gle T0 (.a T1 Tx) 1)) rfl hk) (lqn [_,_] (.nle T0 T1 1 (.gle (.a T1 Tx) T0 1)) rfl hki)
   subst e
   rcases hm with ⟨h3,rfl⟩|⟨h3,rfl⟩<;>(first|exact lqz [_] (.gle T0 T0 1) rfl|exact lqz [_,_] (.nlt T0 T1 1 (.gle T1 T0 1)) rfl h3)
 ·right
  rcases hm with ⟨h3,rfl⟩|⟨h3,rfl⟩
  ·exact ⟨i+1,by exact lqn [_] (.gle Tx (.a T0 Tx) 1) rfl,Nat.le_refl _,rfl⟩
  ·rcases h.at' with ⟨h4,h5⟩|⟨k,k1,k2,k3⟩
   ·have:=lvT_up (a:=a) (b:=b) h2 (p+1) (i+1)
    exact (ct_Lev_3 h3 h5 this hs).elim
   ·exact ⟨k,k1,by exact lqn [_,_] (.le T0 T1 1 (.gle T0 (.a T1 Tx) 1)) rfl k2,k3⟩
private theorem inner_row {n p:Nat} {ns:List Int} {d r mn:Int} (h:InnerInv sub a b n p n ns d r mn):ns=(List.range n).map fun k=>lvT sub a b (p+1) (k+1):=by
 rw [h.row]
 apply List.map_congr_left
 intro k hk
 rw [if_pos (List.mem_range.mp hk)]
private theorem inner_res {n p:Nat} {ns:List Int} {d r mn:Int} (h:InnerInv sub a b n p n ns d r mn) (hn:0<n):r=lvT sub a b (p+1) n:=by
 rw [h.res];unfold lvR;rw [if_neg (by lia -abstractProof)]
private theorem inner_all {n p:Nat} {ns:List Int} {d r mn c:Int} (h:InnerInv sub a b n p n ns d r mn) (hc:c<mn):∀ k,1≤k→k≤n→c<lvT sub a b (p+1) k:=fun k h1 h2=>Int.lt_of_lt_of_le hc (h.lo k h1 h2)
private theorem inner_some {n p:Nat} {ns:List Int} {d r mn c:Int} (h:InnerInv sub a b n p n ns d r mn) (hn:0<n) (hc:mn≤c):∃ k,1≤k∧k≤n∧lvT sub a b (p+1) k≤c:=by
 rcases h.at' with ⟨h4,h5⟩|⟨k,k1,k2,k3⟩
 ·exact (lqn [_] (.lt Tz T0 1 (.eq T0 Tz 1 (.o))) rfl hn h4).elim
 ·exact ⟨k,k1,k2,by exact lqz [_,_,_] (.le T0 T1 1 (.eq T0 T2 (-1) (.gle T2 T1 1))) rfl hc k3⟩
end
end Mine
end
section
open PySem PySem.W PyProof.Rows PySem.Flt PySem.Calls
namespace Mine
theorem Mkrrrrrrrrrrrrrrrrrrr:True:=by w_top off;trivial
open PySem.Builtin PySem.Builtin.Str in
noncomputable def Fit (x:Nat):Prop:=tooLong (Txt.lower (chr1 x)).length=false
noncomputable def subC (x y:Nat):Int:=if (chr1 x == chr1 y)=true then 0 else if (Txt.lower (chr1 x) == Txt.lower (chr1 y))=true then 1 else 2
section
variable {w:World} {p:Program} {loose:List Str} {mean:ExcName→Option Value} {mg mb:Str→Option Value} {dp un:Nat} {gd:Option (List Code)} {fr:Option (List Env)} {s:Shared} {Q E:Value→Shared→Prop}
private theorem c_sub {x y:Nat} {tx ty:Tok} (X:(hd.heap_1 w.params).In s.heap) (T:Top p loose mean mg mb s.heap) (hd:dp+2<recursionLimit) (hx:Fit x) (hy:Fit y)
 (hret:∀ t h' tk',Ext s.heap h'→Q (.int (subC x y) t) { s with heap:=h',toks:=tk' }) :
 wpAny (model PySem.Challenge.rw_sc0045_01.prog w) (AA dp un gd fr) (call (.ref 28) [.str (chr1 x) tx,.str (chr1 y) ty]) Q E s:=by
 revert X
 k_fill
 intro X
 unfold subC at hret
 unfold Fit at hx hy
 refine wpAny_call ?_
 walk_at "my enter"
 k_steps
 all_goals (simp only [*,if_true,if_false,Bool.false_eq_true] at hret;apply hret;exact Fr.keep (by assumption))
end
end Mine
end
section
open PySem PySem.W PyProof.Rows PySem.Flt PySem.Calls PySem.Builtin PySem.Builtin.Str
namespace Mine
theorem Mkrrrrrrrrrrrrrrrrrrrr:True:=trivial
section
variable {prog:Program} {w:World} {A:Around} {E:Value→Shared→Prop} {s:Shared} {h₀:Heap} {L:Addr} {m:PySem.Str→Option Value} {news:List (Addr × Obj)} {g:Obj→List (Addr × Obj)}
private theorem ints_of_items {a c:Int} {acc:Array Value} {n:Nat} (h:ItemsOf (fun i v=>∃ t,v = .int (a+i*c) t) acc n):IntsAre acc.toList (rangeInts a c n):=by
 refine IntsAre.ofCarried (carriedAll_of_get _ _ (by simp [h.1,rangeInts_length]) fun j v hv=>?_)
 have hv':acc[j]?=some v:=by simpa using hv
 obtain ⟨tk,rfl⟩:=h.2 j v hv'
 have hj:j<n:=by
  have:=(Array.getElem?_eq_some_iff.mp hv').1
  rw [h.1] at this;exact this
 exact ⟨.int (a+(j:Nat)*c),by simp [rangeInts_get hj],.int _ _⟩
private theorem lv_list {r:Addr} {a b c:Int} {t u v:Tok} {n:Nat} {Q:Value→Shared→Prop} (hh:A.handled=none) (F:Fr h₀ L s.heap m) (N:News h₀ L s.heap news) (hr:IsRange s.heap r a b c t u v)
  (hsmall:Builtin.Range.small a b c=true) (hn:Builtin.Range.rangeSize a b c=(n:Int)) (hlen:n≤2 ^ 24)
  (hQ:∀ R h' tk vs e,Fr h₀ L h' m→News h₀ L h' ((R,lst vs e)::news)→IntsAre vs (rangeInts a c n)→(∀ p∈news,p.1≠R)→Q (.ref R) { s with heap:=h',toks:=tk }) :
  wpAny (model prog w) A (call (.type "list") [.ref r]) Q E s:=by
 refine call_list_range hh hr hsmall hn hlen fun h' tk acc' c' hk hS' hacc=>?_
 have hnew:h₀.get? s.heap.objs.size=none:=by
  cases e:h₀.get? s.heap.objs.size with
  | none=>rfl
  | some o=>exact absurd (Heap.lt_size (F.keep _ _ e)) (Nat.lt_irrefl _)
 refine hQ s.heap.objs.size h' tk acc'.toList c' (F.keeps hk) (fun p hp=>?_) (ints_of_items hacc) (fun p hp e=>absurd (Heap.lt_size (N p hp).1) (by rw [e];exact Nat.lt_irrefl _))
 rcases List.mem_cons.mp hp with rfl|hp
 ·exact ⟨by simpa using hS',(Nat.ne_of_lt F.ns.lt).symm,hnew⟩
 ·exact ⟨hk _ _ (N p hp).1,(N p hp).2⟩
structure RowIs (vs:List Value) (i:Nat) (x:Int):Prop where
 le:vs.length≤1000
 is:∃ t,vs[i]?=some (.int x t)
private theorem lv_row {value slice:PySem.Expr} {R:Addr} {vs:List Value} {e i:Nat} {x:Int} {u:Tok} {Q:Value→Shared→Prop} (N:News h₀ L s.heap news) (hm:(R,lst vs e)∈news) (hr:RowIs vs i x) (h:∀ t,Q (.int x t) s)
  (hs:subscripted slice false (.ref R) (.int (i:Int) u)=operate [.ref R,.int (i:Int) u] (getItem (.ref R) (.int (i:Int) u))):wpAny (model prog w) A (subscriptTail value slice (.ref R) (.int (i:Int) u)) Q E s:=by
 obtain ⟨t,hx⟩:=hr.is
 have hle:=hr.le
 have hi:=(List.getElem?_eq_some_iff.mp hx).1
 exact item_at (vs:=vs) (v:=.int x t) ⟨_,N.get hm,rfl,e,rfl⟩ (by lia -abstractProof) (by lia -abstractProof) (by rw [Int.toNat_natCast];exact hx) (h t) hs
private theorem lv_set {R:Addr} {vs:List Value} {e i:Nat} {v:Value} {u:Tok} {Q:Unit→Shared→Prop} (F:Fr h₀ L s.heap m) (N:News h₀ L s.heap news) (U:UpdF R (lst vs e) news g) (hi:i<vs.length) (hz:vs.length≤1000)
  (h:∀ h',Fr h₀ L h' m→News h₀ L h' (g (lst (vs.set i v) e))→Q () { s with heap:=h' }):wpAny (model prog w) A (setItem (.ref R) (.int (i:Int) u) v) Q E s:=by
 have U':Upd R (listOf vs.toArray e) (listOf (vs.set i v).toArray e) news (g (lst (vs.set i v) e)):=updF_upd U
 refine goalP fun G9 hG9=>?_
 obtain ⟨pre,post,rfl,e2,a,b⟩:=U'.split
 refine hG9 ?_
 clear hG9
 rw [e2] at h
 have z:=N (R,listOf vs.toArray e) (List.mem_append.mpr (.inr (.head _)))
 refine ki_setAt z.1 (by lia -abstractProof) (by lia -abstractProof) (by rw [List.size_toArray];lia -abstractProof) (h _ (F.change (Heap.SameBut.update ..) z.2.1 z.2.2) (ki_turn _ N a b ?_ ?_))
 ·rw [Int.toNat_natCast];simp
 ·simp
private theorem lv_min {a b:Int} {t u:Tok} {Q:Value→Shared→Prop} (hh:A.handled=none) (F:Fr h₀ L s.heap m) (N:News h₀ L s.heap news)
  (h:∀ h' tk t',Fr h₀ L h' m→News h₀ L h' news→Q (.int (min a b) t') { s with heap:=h',toks:=tk }):wpAny (model prog w) A (call (.builtin "min") [.int a t,.int b u]) Q E s:=by
 refine PySem.Flt.min_two_num hh (.int _ _) (.int _ _) fun h' tk hk=>?_
 have F':=F.keeps hk
 have N':News h₀ L h' news:=fun p hp=>⟨hk _ _ (N p hp).1,(N p hp).2⟩
 show Q (if decide (b<a)=true then Value.int b u else Value.int a t) _
 by_cases hlt:b<a
 ·rw [if_pos (by simpa using hlt)]
  have:=h h' tk u F' N'
  rwa [Int.min_eq_right (by lia -abstractProof)] at this
 ·rw [if_neg (by simpa using hlt)]
  have:=h h' tk t F' N'
  rwa [Int.min_eq_left (by lia -abstractProof)] at this
private theorem gtf {a b:Int} {t u:Tok} {Q:Value→Shared→Prop} (e:a≤b) (h:Q (.bool false) s):wpAny (model prog w) A (compareOp .Gt (.int a t) (.int b u)) Q E s:=
 PyProof.Rows.gt_int (by rw [decide_eq_false (by lia -abstractProof)];exact h)
private theorem ltt {a b:Int} {t u:Tok} {Q:Value→Shared→Prop} (e:a<b) (h:Q (.bool true) s):wpAny (model prog w) A (compareOp .Lt (.int a t) (.int b u)) Q E s:=
 PyProof.Rows.lt_int (by rw [decide_eq_true e];exact h)
private theorem ltf {a b:Int} {t u:Tok} {Q:Value→Shared→Prop} (e:b≤a) (h:Q (.bool false) s):wpAny (model prog w) A (compareOp .Lt (.int a t) (.int b u)) Q E s:=
 PyProof.Rows.lt_int (by rw [decide_eq_false (by lia -abstractProof)];exact h)
end
private theorem rangeSize_two (n:Nat):Builtin.Range.rangeSize 2 (2*((n:Int)+1)) 2=(n:Int):=by
 unfold Builtin.Range.rangeSize
 simp
 lia -abstractProof
private theorem small_two {n:Nat} (h:n≤1000):Builtin.Range.small 2 (2*((n:Int)+1)) 2=true:=by
 unfold Builtin.Range.small
 simp only [rangeSize_two]
 have f:∀ x:Int,-3000≤x→x≤3000→Range.rangeFitsLong x=true:=by
  intro x h1 h2
  unfold Range.rangeFitsLong
  simp
  lia -abstractProof
 rw [f 2 (by lia -abstractProof) (by lia -abstractProof),f (2*((n:Int)+1)) (by lia -abstractProof) (by lia -abstractProof),f n (by lia -abstractProof) (by lia -abstractProof)]
 simp
 right
 exact f _ (by lia -abstractProof) (by lia -abstractProof)
private theorem intsAre_set {vs:List Value} {ns:List Int} (z:IntsAre vs ns):∀ (i:Nat) (x:Int) (t:Tok),IntsAre (vs.set i (.int x t)) (ns.set i x):=by
 induction z with
 | nil=>exact fun _ _ _=>.nil
 | cons n t' h ih=>
  intro i x t
  cases i with
  | zero=>exact .cons x t h
  | succ i=>exact .cons n t' (ih i x t)
end Mine
end
section
open PySem PySem.W PyProof.Rows PySem.Flt PySem.Calls
namespace Mine
private theorem news_use {h₀ h:Heap} {L:Addr} {l news:List (Addr × Obj)} {C:Prop} (N:News h₀ L h news) (hs:∀ p∈l,p∈news) (k:News h₀ L h l→C):C:=k fun p hp=>N p (hs p hp)
structure PS where
 its:List Value
 n1:Nat
 lits:List Value
 n2:Nat
 refs:List Value
 nS:Nat
 td:Tok
 ts:Tok
 sz:Int
 Pc:Addr
 c0:Tok
 c1:Tok
 c2:Tok
 nc:Nat
 tz:Tok
 tn:Int
 tt:Tok
 nm:PySem.Str
 tm:Tok
 pl:Array Value
 pq:Array Value
 old:List (Addr × Obj)
 qu:Wd
 l:Wd
 dn:Bool
structure PInv (h₀:Heap) (q:P3) (W:Int) (x dx y dy S:Addr) (c:PS):Prop where
 hit:ItemsL c.old c.its (c.qu.map wI)
 hlt:ItemsL c.old c.lits (c.l.map lI)
 hst:StL h₀ c.old c.refs (scan q c.l)
 hoff:OwnOff c.old [x,dx,y,dy,S,98,105]
 hpt:PAt h₀ c.old c.Pc (lst3 (ops c.l q) c.c0 c.c1 c.c2 c.nc)
 hsz:c.sz=3∨c.sz=0
 hpl:TabIs pLen c.pl
 hpq:TabIs pStr c.pq
 hwt:∀ k,part k (ops c.l q)<0→k∈c.qu
 hpre:PreP q c.l
 hlen:(c.qu.length:Int)+3*nP W (ops c.l q)≤48
 hll:(c.l.length:Int)+nP W (ops c.l q)≤12
 hd1:c.dn=true→c.nm=Str.ofString "" ∧ c.qu=[]
 hd2:c.dn=false→c.nm≠Str.ofString ""
noncomputable def pmu (q:P3) (W:Int) (c:PS):Nat:=if c.dn then 0 else c.qu.length+(3*nP W (ops c.l q)).toNat+1
private theorem pinv_turn {h₀:Heap} {q pc:P3} {W:Int} {x dx y dy S:Addr} {c:PS} (hW:0<W) (hq:InB W q) (hi:PInv h₀ q W x dx y dy S c) (hdn:c.dn=false) {k:Fin 3} {rest:Wd} (hr:c.qu.length=rest.length+1)
  (hpc:ops c.l q=pc) (hneg:part k pc<0) {b3 b4:Addr} {t v a0 a1 a2:Tok} {n':Nat} {its':List Value} {n1':Nat} {old':List (Addr × Obj)} {td' ts' tz' tt' tm':Tok} {sz' tn':Int} {n2' nS':Nat} {pl' pq':Array Value}
  (hit':ItemsL old' its' ((rest++negsTo 3 (raw k pc)).map wI)) (hoff':OwnOff old' [x,dx,y,dy,S,98,105])
  (hsub:∀ p∈(b3,tup [.str (Str.ofString "") t,.str (chr1 (cod k)) v])::(b4,lst3 (raw k pc) a0 a1 a2 n')::c.old,p∈old') (hsz':sz'=3∨sz'=0) (hpl':TabIs pLen pl') (hpq':TabIs pStr pq') :
  PInv h₀ q W x dx y dy S { its:=its',n1:=n1',lits:=c.lits++[.ref b3],n2:=n2',refs:=c.refs++[.ref b4],nS:=nS',td:=td',ts:=ts',sz:=sz',Pc:=b4,c0:=a0,c1:=a1,c2:=a2,nc:=n',tz:=tz',tn:=tn',tt:=tt',nm:=chr1 (cod k),tm:=tm',pl:=pl',pq:=pq',old:=old',qu:=rest++negsTo 3 (raw k pc),l:=c.l++[k],dn:=false } ∧
  pmu q W { its:=its',n1:=n1',lits:=c.lits++[.ref b3],n2:=n2',refs:=c.refs++[.ref b4],nS:=nS',td:=td',ts:=ts',sz:=sz',Pc:=b4,c0:=a0,c1:=a1,c2:=a2,nc:=n',tz:=tz',tn:=tn',tt:=tt',nm:=chr1 (cod k),tm:=tm',pl:=pl',pq:=pq',old:=old',qu:=rest++negsTo 3 (raw k pc),l:=c.l++[k],dn:=false }<pmu q W c:=by
 subst hpc
 have hraw:=raw_neg hneg
 have hops:ops (c.l++[k]) q=DD k (ops c.l q):=by unfold ops;rw [List.foldl_append];rfl
 have hb:=inB_ops hW c.l q hq
 have hn:=nD hW k (ops c.l q) hb.1 hneg
 have hn0:=nP_nonneg hW (DD k (ops c.l q))
 have hnl:=negsTo_len 3 (raw k (ops c.l q))
 have hl:=hi.hlen
 have hl2:=hi.hll
 have sub:∀ p∈c.old,p∈old':=fun p hp=>hsub p (.tail _ (.tail _ hp))
 refine ⟨⟨hit',?_,?_,hoff',?_,hsz',hpl',hpq',?_,preP_snoc _ _ _ hi.hpre hneg,?_,?_,(fun h=>by cases h),fun _=>chr_ne _⟩,?_⟩
 ·dsimp only
  rw [List.map_append]
  exact hi.hlt.snoc sub (hsub _ (.head _))
 ·dsimp only
  rw [scan_snoc,←hraw]
  exact (hi.hst.mono sub).append (.cons (.inr (hsub _ (.tail _ (.head _)))) .nil)
 ·dsimp only
  rw [hops,←hraw]
  exact .inr (hsub _ (.tail _ (.head _)))
 ·dsimp only
  intro j hj
  rw [hops,←hraw] at hj
  exact List.mem_append_right _ (negs_mem hj)
 ·dsimp only
  rw [hops,List.length_append]
  lia -abstractProof
 ·dsimp only
  rw [hops,List.length_append,List.length_singleton]
  lia -abstractProof
 ·unfold pmu
  rw [hdn]
  simp only [Bool.false_eq_true,if_false]
  rw [hops,List.length_append]
  lia -abstractProof
private theorem pinv_pass {h₀:Heap} {q pc:P3} {W:Int} {x dx y dy S:Addr} {c:PS} (hi:PInv h₀ q W x dx y dy S c) (hdn:c.dn=false) {k:Fin 3} {rest:Wd} (hr:c.qu.length=rest.length+1) (hm:∀ j∈c.qu,j=k∨j∈rest)
  (hpc:ops c.l q=pc) (hneg:¬ part k pc<0) {its':List Value} {n1':Nat} {td' ts' tz' tt' tm':Tok} {sz' tn':Int} {n2' nS':Nat} {pl' pq':Array Value}
  (hit':ItemsL c.old its' (rest.map wI)) (hsz':sz'=3∨sz'=0) (hpl':TabIs pLen pl') (hpq':TabIs pStr pq') :
  PInv h₀ q W x dx y dy S { its:=its',n1:=n1',lits:=c.lits,n2:=n2',refs:=c.refs,nS:=nS',td:=td',ts:=ts',sz:=sz',Pc:=c.Pc,c0:=c.c0,c1:=c.c1,c2:=c.c2,nc:=c.nc,tz:=tz',tn:=tn',tt:=tt',nm:=chr1 (cod k),tm:=tm',pl:=pl',pq:=pq',old:=c.old,qu:=rest,l:=c.l,dn:=false } ∧
  pmu q W { its:=its',n1:=n1',lits:=c.lits,n2:=n2',refs:=c.refs,nS:=nS',td:=td',ts:=ts',sz:=sz',Pc:=c.Pc,c0:=c.c0,c1:=c.c1,c2:=c.c2,nc:=c.nc,tz:=tz',tn:=tn',tt:=tt',nm:=chr1 (cod k),tm:=tm',pl:=pl',pq:=pq',old:=c.old,qu:=rest,l:=c.l,dn:=false }<pmu q W c:=by
 subst hpc
 have hl:=hi.hlen
 refine ⟨⟨hit',hi.hlt,hi.hst,hi.hoff,hi.hpt,hsz',hpl',hpq',?_,hi.hpre,?_,hi.hll,(fun h=>by cases h),fun _=>chr_ne _⟩,?_⟩
 ·intro j hj
  rcases hm j (hi.hwt j hj) with rfl|h
  ·exact absurd hj hneg
  ·exact h
 ·dsimp only
  lia -abstractProof
 ·unfold pmu
  rw [hdn]
  simp only [Bool.false_eq_true,if_false]
  lia -abstractProof
end Mine
end
section
open PySem PySem.W PyProof.Rows PySem.Flt PySem.Calls PySem.Builtin PySem.Builtin.Str
namespace Mine
theorem Mkrrrrrrrrrrrrrrrrrrrrr:True:=by w_top off;trivial
private theorem ctV1 {x0 x1:Nat} (h0:x0<x1):x0<x1:=lqn [x0,x1] (.lt T0 T1 1 (.glt T0 T1 1)) rfl h0
private theorem ctV2 {x0 x1 x2 x3:Nat} (h0:(((x0+x1)+x2)+x3)≤40):(x0+(x1+x3))≤1000:=lqn [x0,x1,x2,x3] (.le (.a (.a (.a T0 T1) T2) T3) (.n 40) 1 (.gle (.a T0 (.a T1 T3)) (.n 1000) 1)) rfl h0
private theorem ctV3 {x0 x1 x2 x3:Nat} (h0:(((x0+x1)+x2)+x3)≤40):(x0+(x2+x3))≤1000:=lqn [x0,x1,x2,x3] (.le (.a (.a (.a T0 T1) T2) T3) (.n 40) 1 (.gle (.a T0 (.a T2 T3)) (.n 1000) 1)) rfl h0
private theorem ctV4 {x0 x1 x2 x3:Nat} (h0:(((x0+x1)+x2)+x3)≤40):(x1+x3)≤1000:=lqn [x0,x1,x2,x3] (.le (.a (.a (.a T0 T1) T2) T3) (.n 40) 1 (.gle (.a T1 T3) (.n 1000) 1)) rfl h0
private theorem ctV5 {x0 x1 x2 x3:Nat} (h0:(((x0+x1)+x2)+x3)≤40):(x2+x3)≤1000:=lqn [x0,x1,x2,x3] (.le (.a (.a (.a T0 T1) T2) T3) (.n 40) 1 (.gle (.a T2 T3) (.n 1000) 1)) rfl h0
private theorem ctV6 {x0:Nat} (h0:x0≤1000):x0≤1000:=lqn [x0] (.le T0 (.n 1000) 1 (.gle T0 (.n 1000) 1)) rfl h0
private theorem ctV7 {x0 x1 x2 x3:Nat} (h0:(((x0+x1)+x2)+x3)≤40):x1≤1000:=lqn [x0,x1,x2,x3] (.le (.a (.a (.a T0 T1) T2) T3) (.n 40) 1 (.gle T1 (.n 1000) 1)) rfl h0
private theorem ctV8 {x0 x1 x2 x3:Nat} (h0:(((x0+x1)+x2)+x3)≤40):x2≤1000:=lqn [x0,x1,x2,x3] (.le (.a (.a (.a T0 T1) T2) T3) (.n 40) 1 (.gle T2 (.n 1000) 1)) rfl h0
private theorem ctV9 {x0 x1 x2 x3:Nat} (h0:(((x0+x1)+x2)+x3)≤40):x1≤40:=lqn [x0,x1,x2,x3] (.le (.a (.a (.a T0 T1) T2) T3) (.n 40) 1 (.gle T1 (.n 40) 1)) rfl h0
private theorem ctV10 {x0 x1 x2 x3:Nat} (h0:(((x0+x1)+x2)+x3)≤40):x2≤40:=lqn [x0,x1,x2,x3] (.le (.a (.a (.a T0 T1) T2) T3) (.n 40) 1 (.gle T2 (.n 40) 1)) rfl h0
private theorem ctV13 {x0 x1 x2:Nat} (h0:x0≤x1) (h1:x1≤40) (h2:x2=x0):x2≤1000:=lqn [x0,x1,x2] (.le T0 T1 1 (.le T1 (.n 40) 1 (.eq T2 T0 1 (.gle T2 (.n 1000) 1)))) rfl h0 h1 h2
private theorem ctV14 {x0:Nat} (h0:x0≤40):x0<1000000:=lqn [x0] (.le T0 (.n 40) 1 (.glt T0 (.n 1000000) 1)) rfl h0
private theorem ctV15 {x0:Nat} (h0:x0≤40):x0≤1000:=lqn [x0] (.le T0 (.n 40) 1 (.gle T0 (.n 1000) 1)) rfl h0
private theorem ctV16 {x0 x1:Nat} (h0:x0≤x1) (h1:x1≤40):x0<1000000:=lqn [x0,x1] (.le T0 T1 1 (.le T1 (.n 40) 1 (.glt T0 (.n 1000000) 1))) rfl h0 h1
private theorem ctV17 {x0 x1:Nat} (h0:x0≤x1) (h1:x1≤40):x0≤1000:=lqn [x0,x1] (.le T0 T1 1 (.le T1 (.n 40) 1 (.gle T0 (.n 1000) 1))) rfl h0 h1
private theorem ctV18 {x0 x1 x2:Nat} (h0:x0<x1) (h1:x2=x1):x0<x2:=lqn [x0,x1,x2] (.lt T0 T1 1 (.eq T2 T1 (-1) (.glt T0 T2 1))) rfl h0 h1
private theorem ctV19 {x0 x1 x2 x3:Nat} (h0:x0≤x1) (h1:x1≤40) (h2:x2<x1) (h3:x3<x0):(x2+x3)≤1000:=lqn [x0,x1,x2,x3] (.le T0 T1 1 (.le T1 (.n 40) 2 (.lt T2 T1 1 (.lt T3 T0 1 (.gle (.a T2 T3) (.n 1000) 1))))) rfl h0 h1 h2 h3
private theorem ctV20 {x0 x1:Nat} (h0:x0≤x1) (h1:0<x0):0<x1:=lqn [x0,x1] (.le T0 T1 1 (.lt Tz T0 1 (.glt Tz T1 1))) rfl h0 h1
noncomputable abbrev sl (l:List Nat):PySem.Str:=⟨l.toArray⟩
structure ItemIs (x:PySem.Str) (i:Int) (c:Nat):Prop where
 lo : -(x.length:Int)≤i
 hi:i<x.length
 le:x.length≤1000
 is:Txt.item x i=chr1 c
structure Tru (x:PySem.Str) (b:Bool):Prop where
 le:x.length≤1000
 is:((x.length:Int) != 0)=b
structure SlIs (x:PySem.Str) (a b:Option Int) (y:PySem.Str):Prop where
 le:x.length≤1000
 is:Txt.slice x a b=y
section
variable {prog:Program} {w:World} {A:Around} {E:Value→Shared→Prop} {s:Shared} {value slice:PySem.Expr} {x y:PySem.Str} {t u:Tok} {h₀:Heap} {L:Addr} {m:PySem.Str→Option Value} {news:List (Addr × Obj)}
private theorem lv_item {i:Int} {c:Nat} {Q:Value→Shared→Prop} (e:ItemIs x i c) (h:Q (.str (chr1 c) s.toks) { s with toks:=s.toks+1 })
  (hs:subscripted slice false (.str x t) (.int i u)=operate [.str x t,.int i u] (getItem (.str x t) (.int i u)))
  (ht:∀ r,letTemporaryGo value (.str x t) r=pure ()):wpAny (model prog w) A (subscriptTail value slice (.str x t) (.int i u)) Q E s:=by
 have h1:=e.lo
 have h2:=e.hi
 have h3:=e.le
 refine item_str (fitsSsize_of (N:=9223372036854775808) (by omega) (by omega) (Int.le_refl _)) h1 h2 (fun _=>?_) hs ht
 rw [e.is]
 exact h
private theorem lv_truthy {b:Bool} {Q:Bool→Shared→Prop} (e:Tru x b) (h:∀ k,Q b { s with toks:=k }):wpAny (model prog w) A (PySem.truthy (.str x t)) Q E s:=
 SBL.truthy (by have:=e.le;omega) (by rw [e.is];exact h _)
private theorem lv_truthy_int {a:Int} {b:Bool} {Q:Bool→Shared→Prop} (e:(a != 0)=b) (h:Q b s):wpAny (model prog w) A (PySem.truthy (.int a t)) Q E s:=
 PyProof.Rows.truthy_int (by rw [e];exact h)
private theorem lv_eq {b:Bool} {Q:Value→Shared→Prop} (e:(x == y)=b) (h:Q (.bool b) s):wpAny (model prog w) A (compareOp .Eq (.str x t) (.str y u)) Q E s:=
 PyProof.Rows.eq_str (by rw [e];exact h)
private theorem lv_sl_ns {j:Int} {uj:Tok} {Q:Value→Shared→Prop} (e:SlIs x none (some j) y) (hF:Fr h₀ L s.heap m) (hN:News h₀ L s.heap news) (h:∀ h' t' k,Fr h₀ L h' m→News h₀ L h' news→Q (.str y t') { s with heap:=h',toks:=k })
  (hs:subscripted slice false (.str x t) (.ref s.heap.objs.size)=operate [.ref s.heap.objs.size,.str x t] (getItem (.str x t) (.ref s.heap.objs.size)))
  (ht:∀ r,letTemporaryGo value (.str x t) r=pure ()) :
  wpAny (model prog w) A (subscriptTail value slice (.str x t) (.ref s.heap.objs.size)) Q E { s with heap:=s.heap.push { cls:=.type "slice", data:=.fields #[.none,.int j uj,.none] } }:=
 slice_strN_ns hF hN (fun h' t' k a b=>by rw [e.is];exact h h' t' k a b) hs ht (by rw [sizeLine_eq];exact Nat.le_trans e.le (by decide))
private theorem lv_sl_sn {j:Int} {uj:Tok} {Q:Value→Shared→Prop} (e:SlIs x (some j) none y) (hF:Fr h₀ L s.heap m) (hN:News h₀ L s.heap news) (h:∀ h' t' k,Fr h₀ L h' m→News h₀ L h' news→Q (.str y t') { s with heap:=h',toks:=k })
  (hs:subscripted slice false (.str x t) (.ref s.heap.objs.size)=operate [.ref s.heap.objs.size,.str x t] (getItem (.str x t) (.ref s.heap.objs.size)))
  (ht:∀ r,letTemporaryGo value (.str x t) r=pure ()) :
  wpAny (model prog w) A (subscriptTail value slice (.str x t) (.ref s.heap.objs.size)) Q E { s with heap:=s.heap.push { cls:=.type "slice", data:=.fields #[.int j uj,.none,.none] } }:=
 slice_strN_sn hF hN (fun h' t' k a b=>by rw [e.is];exact h h' t' k a b) hs ht (by rw [sizeLine_eq];exact Nat.le_trans e.le (by decide))
private theorem lv_sl_nn {Q:Value→Shared→Prop} (e:SlIs x none none y) (hF:Fr h₀ L s.heap m) (hN:News h₀ L s.heap news) (h:∀ h' t' k,Fr h₀ L h' m→News h₀ L h' news→Q (.str y t') { s with heap:=h',toks:=k })
  (hs:subscripted slice false (.str x t) (.ref s.heap.objs.size)=operate [.ref s.heap.objs.size,.str x t] (getItem (.str x t) (.ref s.heap.objs.size)))
  (ht:∀ r,letTemporaryGo value (.str x t) r=pure ()) :
  wpAny (model prog w) A (subscriptTail value slice (.str x t) (.ref s.heap.objs.size)) Q E { s with heap:=s.heap.push { cls:=.type "slice", data:=.fields #[.none,.none,.none] } }:=
 slice_strN_nn hF hN (fun h' t' k a b=>by rw [e.is];exact h h' t' k a b) hs ht (by rw [sizeLine_eq];exact Nat.le_trans e.le (by decide))
section
variable {h:Heap} {g:Array GenState} {d:Drawn} {o:OsState} {tk t1 t2:Nat} {a:Addr} {cn:PySem.Str} {cs:Scope} {ccd:Value} {cl:List (PySem.Str × Addr)} {p pos:Pos} {Q:Value→Shared→Prop}
private theorem sl_ev_ns {hi:PySem.Expr} {j:Int} {uj:Tok} (F:Fr h₀ L h m) (N:News h₀ L h news) (h1:ev cs m 3 value tk=some (.str x t,t1)) (h2:ev cs m 3 hi t1=some (.int j uj,t2)) (e:SlIs x none (some j) y)
  (H:∀ h' t' k,Fr h₀ L h' m→News h₀ L h' news→Q (.str y t') { heap:=h',gens:=g,drawn:=d,toks:=k,os:=o }) :
  wpAny (model prog w) A (eval (.Subscript value (.Slice none (some hi) none p) pos) (envX cn cs L a ccd cl)) Q E { heap:=h,gens:=g,drawn:=d,toks:=tk,os:=o }:=by
 exact Subscript_ (ev_ok F 3 h1 (wpAny_Slice (evalPart_none_step (evalPart_some_step (ev_ok F 3 h2 (evalPart_none_step (lv_sl_ns (s:={ heap:=h,gens:=g,drawn:=d,toks:=t2,os:=o }) e F N H rfl (fun _=>ltg_str))))))))
private theorem sl_ev_sn {lo:PySem.Expr} {j:Int} {uj:Tok} (F:Fr h₀ L h m) (N:News h₀ L h news) (h1:ev cs m 3 value tk=some (.str x t,t1)) (h2:ev cs m 3 lo t1=some (.int j uj,t2)) (e:SlIs x (some j) none y)
  (H:∀ h' t' k,Fr h₀ L h' m→News h₀ L h' news→Q (.str y t') { heap:=h',gens:=g,drawn:=d,toks:=k,os:=o }) :
  wpAny (model prog w) A (eval (.Subscript value (.Slice (some lo) none none p) pos) (envX cn cs L a ccd cl)) Q E { heap:=h,gens:=g,drawn:=d,toks:=tk,os:=o }:=by
 exact Subscript_ (ev_ok F 3 h1 (wpAny_Slice (evalPart_some_step (ev_ok F 3 h2 (evalPart_none_step (evalPart_none_step (lv_sl_sn (s:={ heap:=h,gens:=g,drawn:=d,toks:=t2,os:=o }) e F N H rfl (fun _=>ltg_str))))))))
private theorem it_ev {sl:PySem.Expr} {i:Int} {c:Nat} (F:Fr h₀ L h m) (h1:ev cs m 3 value tk=some (.str x t,t1)) (h2:ev cs m 3 sl t1=some (.int i u,t2)) (e:ItemIs x i c)
  (H:Q (.str (chr1 c) t2) { heap:=h,gens:=g,drawn:=d,toks:=t2+1,os:=o }) :
  wpAny (model prog w) A (eval (.Subscript value sl pos) (envX cn cs L a ccd cl)) Q E { heap:=h,gens:=g,drawn:=d,toks:=tk,os:=o }:=by
 exact Subscript_ (ev_ok F 3 h1 (ev_ok F 3 h2 (lv_item e H (subd_ev h2) (fun _=>ltg_str))))
end
end
section
variable {prog:Program} {w:World} {A:Around} {E:Value→Shared→Prop} {s:Shared} {h₀:Heap}
inductive CutEnd {σ:Type} (h₀:Heap) (s:Shared) (L:Addr) (m₀:PySem.Str→Option Value) (stored:List PySem.Str) (ps:σ→List (PySem.Str × Value)) (inv:σ→Prop) (f:Flow) (s':Shared):Prop
 | mk (hf:f = .next) (c:σ) (m':PySem.Str→Option Value) (hi:inv c) (F:Fr h₀ L s'.heap m') (hk:∀ p∈ps c,m' p.1=some p.2) (hr:∀ z,(∀ p∈ps c,z≠p.1)→stored.contains z=false→m' z=m₀ z) (G:AllBare s'.gens) (o:s'.os=s.os):CutEnd h₀ s L m₀ stored ps inv f s'
private theorem cut_K {σ:Type} {mm:Sem Flow} {Q:Flow→Shared→Prop} {h:Heap} {L:Addr} {m₀:PySem.Str→Option Value} (stored:List PySem.Str) (ps:σ→List (PySem.Str × Value)) (inv:σ→Prop) (F:Fr h₀ L h m₀)
  (h1:wpAny (model prog w) A mm (fun f s'=>Held (CutEnd h₀ s L m₀ stored ps inv f s')) E s)
  (h2:∀ c u s',inv c→Fr h₀ L s'.heap (mMap stored u m₀ (ps c))→AllBare s'.gens→s'.os=s.os→Q .next s'):wpAny (model prog w) A mm Q E s:=by
 refine wpAny_mono h1 (fun f s' hh=>?_) fun _ _ e=>e
 refine goalP fun G9 hG9=>?_
 obtain ⟨rfl,c,m',a1,a2,a3,a4,a5,a6⟩:=hh.get
 refine hG9 ?_
 clear hG9 G9
 exact h2 c m' s' a1 (ksw_fr a3 a4 a2) a5 a6
end
private theorem N0 {h₀ h:Heap} {L:Addr} {m:PySem.Str→Option Value} (_:Fr h₀ L h m):News h₀ L h []:=fun _ hp=>nomatch hp
private theorem sl_len (l:List Nat):(sl l).length=l.length:=rfl
private theorem tru_cons {c:Nat} {l:List Nat} (h:(c::l).length≤1000):Tru (sl (c::l)) true:=⟨h,by rw [sl_len,List.length_cons];exact bne_iff_ne.mpr (by omega)⟩
private theorem tru_nil:Tru (sl []) false:=⟨by decide,rfl⟩
private theorem sl_drop (l:List Nat) (n:Nat) (h:l.length≤1000):SlIs (sl l) (some (n:Int)) none (sl (l.drop n)):=⟨h,sl_from (sl l) n⟩
private theorem sl_take_neg (l:List Nat) (n:Nat) (hn:0<n) (h:l.length≤1000):SlIs (sl l) none (some (-(n:Int))) (sl (l.take (l.length-n))):=⟨h,sl_neg (sl l) n hn⟩
private theorem sl_none (l:List Nat) (h:l.length≤1000):SlIs (sl l) none none (sl l):=⟨h,sl_all (sl l)⟩
private theorem item_at_sl (l:List Nat) (n:Nat) (c:Nat) (h:l[n]?=some c) (hz:l.length≤1000):ItemIs (sl l) (n:Int) c:=by
 obtain ⟨hn,hc⟩:=List.getElem?_eq_some_iff.mp h
 have hl:(sl l).length=l.length:=rfl
 refine ⟨by omega,by rw [hl];omega,hz,?_⟩
 have e:seqIndex? (n:Int) (sl l).length=some n:=by
  unfold seqIndex?
  have e1:(if (n:Int)<0 then (n:Int)+((sl l).length:Int) else (n:Int))=n:=if_neg (by omega)
  rw [e1]
  have e2:(decide (0≤(n:Int)) && decide ((n:Int)<((sl l).length:Int)))=true:=by rw [hl];simp;omega
  simp only [e2,if_true,Int.toNat_natCast]
 unfold Txt.item Txt.charAt
 rw [e]
 simp [h]
private theorem item_neg_sl (l:List Nat) (n:Nat) (c:Nat) (h:l.reverse[n]?=some c) (hz:l.length≤1000):ItemIs (sl l) (-(n:Int)-1) c:=by
 obtain ⟨hn,hc⟩:=List.getElem?_eq_some_iff.mp h
 rw [List.length_reverse] at hn
 have hl:(sl l).length=l.length:=rfl
 refine ⟨by rw [hl];omega,by rw [hl];omega,hz,?_⟩
 rw [List.getElem?_reverse hn] at h
 have e:seqIndex? (-(n:Int)-1) (sl l).length=some (l.length-1-n):=by
  unfold seqIndex?
  have e1:(if -(n:Int)-1<0 then -(n:Int)-1+((sl l).length:Int) else -(n:Int)-1)=((l.length-1-n:Nat):Int):=by rw [if_pos (by omega),hl];omega
  rw [e1]
  have e2:(decide (0≤((l.length-1-n:Nat):Int)) && decide (((l.length-1-n:Nat):Int)<((sl l).length:Int)))=true:=by rw [hl];simp;omega
  simp only [e2,if_true,Int.toNat_natCast]
 unfold Txt.item Txt.charAt
 rw [e]
 simp [h]
inductive Stops:List Nat→List Nat→Prop
 | left {q}:Stops [] q
 | right {c p}:Stops (c::p) []
 | diff {c d p q}:c≠d→Stops (c::p) (d::q)
private theorem stops_cases {p q:List Nat} (h:Stops p q):p=[]∨(∃ c p',p=c::p'∧q=[])∨∃ c p' d q',p=c::p'∧q=d::q'∧c≠d:=by
 cases h with
 | left=>exact .inl rfl
 | right=>exact .inr (.inl ⟨_,_,rfl,rfl⟩)
 | diff hn=>exact .inr (.inr ⟨_,_,_,_,rfl,rfl,hn⟩)
private theorem chr1_ne {c d:Nat} (h:c≠d):(chr1 c == chr1 d)=false:=beq_eq_false_iff_ne.mpr (fun e=>h (by have:=congrArg (fun z:PySem.Str=>z.cps.toList) e;simpa using this))
private theorem chr1_eq {c d:Nat} (h:c=d):(chr1 c == chr1 d)=true:=by subst h;simp
private theorem lv_pre_lt (x z:List Nat) {i:Nat} (h:i<x.length) (hz:(x++z).length≤1000):∃ r,SlIs (sl (x++z)) (some (i:Int)) none (sl (x[i]::r))∧Tru (sl (x[i]::r)) true∧ItemIs (sl (x++z)) (i:Int) x[i]:=by
 have e:(x++z)[i]?=some x[i]:=by rw [List.getElem?_append_left h];simp
 have e2:(x++z).drop i=x[i]::(x++z).drop (i+1):=by
  obtain ⟨hn,hc⟩:=List.getElem?_eq_some_iff.mp e
  rw [List.drop_eq_getElem_cons hn,hc]
 refine ⟨(x++z).drop (i+1),e2▸sl_drop _ i hz,tru_cons ?_,item_at_sl _ _ _ e hz⟩
 rw [← e2,List.length_drop];omega
private theorem lv_pre_eq (x:List Nat) {z r:List Nat} (h:z=r) (hz:(x++z).length≤1000):SlIs (sl (x++z)) (some (x.length:Int)) none (sl r):=by
 subst h
 have:=sl_drop (x++z) x.length hz
 rwa [List.drop_left] at this
private theorem lv_pre_item (x:List Nat) {z r:List Nat} {c:Nat} (h:z=c::r) (hz:(x++z).length≤1000):ItemIs (sl (x++z)) (x.length:Int) c:=by
 subst h
 exact item_at_sl _ _ _ (by rw [List.getElem?_append_right (Nat.le_refl _)];simp) hz
private theorem tru_any {l r:List Nat} {c:Nat} (h:l=c::r) (hz:l.length≤1000):Tru (sl l) true:=by
 subst h;exact tru_cons hz
private theorem lv_post_sl (u y:List Nat) {j:Nat} {z:Int} (hz:z = -(j:Int)) (hj:j≤y.length) (h:(u++y).length≤1000):((z != 0)=false∧SlIs (sl (u++y)) none none (sl (u++y.take (y.length-j))))∨((z != 0)=true∧SlIs (sl (u++y)) none (some z) (sl (u++y.take (y.length-j)))):=by
 by_cases h0:j=0
 ·subst h0
  left
  refine ⟨by rw [hz];rfl,?_⟩
  rw [Nat.sub_zero,List.take_length]
  exact sl_none _ h
 ·right
  refine ⟨bne_iff_ne.mpr (by omega),?_⟩
  have:=sl_take_neg (u++y) j (by omega) h
  rw [← hz] at this
  have e:(u++y).take ((u++y).length-j)=u++y.take (y.length-j):=by
   rw [List.length_append,List.take_append,List.take_of_length_le (Nat.le_sub_of_add_le (Nat.add_le_add_left hj _))]
   congr 2
   rw [Nat.sub_right_comm,Nat.add_sub_cancel_left]
  rwa [e] at this
private theorem lv_post_lt (u y:List Nat) {j:Nat} {z:Int} (hz:z = -(j:Int)) (hj:j<y.length) (h:(u++y).length≤1000):ItemIs (sl (u++y)) (z-1) (y.reverse[j]'(by rw [List.length_reverse];exact hj)):=by
 subst hz
 refine item_neg_sl _ _ _ ?_ h
 rw [List.reverse_append,List.getElem?_append_left (by rw [List.length_reverse];exact hj)]
 exact List.getElem?_eq_getElem _
private theorem lv_post_eq (u y:List Nat) {z:Int} {c:Nat} {p:List Nat} (hz:z = -(y.length:Int)) (hu:u.reverse=c::p) (h:(u++y).length≤1000):ItemIs (sl (u++y)) (z-1) c:=by
 subst hz
 refine item_neg_sl _ _ _ ?_ h
 rw [List.reverse_append,List.getElem?_append_right (by rw [List.length_reverse];exact Nat.le_refl _),hu]
 simp
private theorem tru_lt (u y:List Nat) {j:Nat} (hj:j<y.length) (h:(u++y).length≤1000):Tru (sl (u++y.take (y.length-j))) true:=by
 have hl:(u++y.take (y.length-j)).length=u.length+(y.length-j):=by rw [List.length_append,List.length_take,Nat.min_eq_left (Nat.sub_le _ _)]
 rw [List.length_append] at h
 refine ⟨?_,?_⟩
 ·show (u++y.take (y.length-j)).length≤1000
  omega
 ·rw [sl_len,hl];exact bne_iff_ne.mpr (by omega)
private theorem tru_rev {u p:List Nat} {c:Nat} (h:u.reverse=c::p) (hz:u.length≤1000):Tru (sl u) true:=by
 have:u≠[]:=fun e=>by rw [e] at h;cases h
 obtain ⟨d,q,rfl⟩:=List.exists_cons_of_ne_nil this
 exact tru_cons hz
private theorem subC_lo (x y:Nat):0≤subC x y:=by unfold subC;split<;>(try split)<;>decide
private theorem subC_up (x y:Nat):subC x y≤2:=by unfold subC;split<;>(try split)<;>decide
private theorem row_is {vs:List Value} {ns:List Int} (h:IntsAre vs ns) {i:Nat} {x:Int} (hx:ns[i]?=some x) (hz:vs.length≤1000):RowIs vs i x:=⟨hz,h.get i x hx⟩
private theorem hab_of {x u v y a b:List Nat} (h:(v.length<u.length∧a=v∧b=u)∨(u.length≤v.length∧a=u∧b=v)) (hl:x.length+u.length+v.length+y.length≤40) (hu:u≠[]) (hv:v≠[]) (hf:∀ z∈u++v,Fit z) :
  a.length≤b.length∧b.length≤40∧0<a.length∧(∀ z∈a,Fit z)∧∀ z∈b,Fit z:=by
 have hf1:∀ z∈u,Fit z:=fun z hz=>hf z (List.mem_append_left _ hz)
 have hf2:∀ z∈v,Fit z:=fun z hz=>hf z (List.mem_append_right _ hz)
 rcases h with ⟨h1,rfl,rfl⟩|⟨h1,rfl,rfl⟩
 ·exact ⟨Nat.le_of_lt h1,by omega,List.length_pos_iff.mpr hv,hf2,hf1⟩
 ·exact ⟨h1,by omega,List.length_pos_iff.mpr hu,hf1,hf2⟩
private theorem getD_at {l:List Nat} {i:Nat} (h:i<l.length):l[i]?=some (l.getD i 0):=by simp [List.getD,h]
private theorem fit_at {l:List Nat} (hf:∀ z∈l,Fit z) {i:Nat} (h:i<l.length):Fit (l.getD i 0):=hf _ (List.mem_of_getElem? (getD_at h))
noncomputable def LevOut (u v:List Nat) (c r:Int):Prop:=
 ((u=[]∨v=[])∧r=2*((u.length:Int)+v.length)) ∨
 (u≠[]∧v≠[]∧∃ a b,((v.length<u.length∧a=v∧b=u)∨(u.length≤v.length∧a=u∧b=v)) ∧
  ((c<((b.length:Int)-a.length)*2∧r=c+1)∨(((b.length:Int)-a.length)*2≤c∧LevT subC (fun k=>a.getD k 0) (fun k=>b.getD k 0) a.length b.length c r)))
section
variable {w:World} {p:Program} {loose:List Str} {mean:ExcName→Option Value} {mg mb:Str→Option Value} {dp un:Nat} {gd:Option (List Code)} {fr:Option (List Env)} {s:Shared} {Q E:Value→Shared→Prop}
private theorem c_lev {x y u v:List Nat} {c:Int} {ta tb tc:Tok} (X:(hd.heap_1 w.params).In s.heap) (T:Top p loose mean mg mb s.heap) (hd:dp+4<recursionLimit) (G:AllBare s.gens)
 (hne:(sl (x++(u++y)) == sl (x++(v++y)))=false) (hpre:Stops (u++y) (v++y)) (hpost:Stops u.reverse v.reverse) (hlen:x.length+u.length+v.length+y.length≤40) (hc:0≤c∧c≤1000) (hfit:∀ z∈u++v,Fit z)
 (hret:∀ r t s',LevOut u v c r→Ext s.heap s'.heap→AllBare s'.gens→s'.os=s.os→Q (.int r t) s') :
 wpAny (model PySem.Challenge.rw_sc0045_01.prog w) (AA dp un gd fr) (call (.ref 35) [.str (sl (x++(u++y))) ta,.str (sl (x++(v++y))) tb,.int c tc]) Q E s:=by
 revert X
 k_fill
 intro X
 refine wpAny_call ?_
 walk_at "my enter"
 rename Fr _ _ _ _=>F0
 replace F0:Fr _ _ _ (ml [(Str.ofString "max_cost", Value.int c tc),(Str.ofString "b", Value.str (sl (x++(v++y))) tb),(Str.ofString "a", Value.str (sl (x++(u++y))) ta)]):=F0
 have hzA:(x++(u++y)).length≤1000:=by rw [List.length_append,List.length_append];omega
 have hzB:(x++(v++y)).length≤1000:=by rw [List.length_append,List.length_append];omega
 have hzC:(u++y).length≤1000:=by rw [List.length_append];omega
 have hzD:(v++y).length≤1000:=by rw [List.length_append];omega
 k_steps
 unfold Stop
 rename Fr _ _ _ _=>F1
 rename News _ _ _ _=>N1
 refine cut_K (σ:=Nat × Tok) [Str.ofString "pre"] (fun c=>[(Str.ofString "pre", .int (c.1:Int) c.2)]) (fun c=>c.1=x.length) F1 ?_ ?_
 ·refine while_K (σ:=Nat × Tok) (fun _=>[]) (fun c=>[(Str.ofString "pre", .int (c.1:Int) c.2)]) [Str.ofString "pre"] (fun c=>c.1≤x.length) (fun c=>x.length-c.1) (0,?tk0) F1 N1 (fun _ hp=>nomatch hp) G ?la1 ?la2 ?la3
  case la1=>walk_at "my all"
  case la2=>exact Nat.zero_le _
  case la3=>
   refine all_a ?_
   intro i ti u2 s2 hi F2 N2 G2 o2
   (refine Fr.lets F2 ?_;clear F2;intro m9 F2)
   clear F1 N1
   (try dsimp only at hi F2 N2);(try dsimp only)
   by_cases hlt:i<x.length
   ·refine goalP fun G9 hG9=>?_
    obtain ⟨ra,a1,a3,a5⟩:=lv_pre_lt x (u++y) hlt hzA
    refine hG9 ?_
    clear hG9 G9
    refine goalP fun G9 hG9=>?_
    obtain ⟨rb,a2,a4,a6⟩:=lv_pre_lt x (v++y) hlt hzB
    refine hG9 ?_
    clear hG9 G9
    have a7:(chr1 x[i] == chr1 x[i])=true:=chr1_eq rfl
    generalize x[i]=c0 at *
    k_steps
    rename Fr _ _ _ _=>F3
    rename News _ _ _ _=>N3
    refine ⟨?_⟩
    dsimp only [WLoopPost]
    refine ⟨(i+1,?lb1),_,_,F3,N3,(fun _ hp=>nomatch hp),by assumption,?lb2,?lb3,?lb4,hlt,?lb6⟩
    case lb3=>walk_at "my all"
    case lb2=>walk_at "my os"
    case lb4=>walk_at "my same"
    case lb6=>show x.length-(i+1)<x.length-i;omega
   ·have hix:i=x.length:=Nat.le_antisymm hi (Nat.not_lt.mp hlt)
    subst hix
    rcases stops_cases hpre with h|⟨c0,p',h,h'⟩|⟨c0,p',d0,q',h,h',hn⟩
    ·have a1:=lv_pre_eq x h hzA
     have a2:=tru_nil
     k_steps
     rename Fr _ _ _ _=>F3
     exact ⟨⟨rfl,(x.length,ti),_,rfl,F3,(by walk_at "my all"),(by walk_at "my same"),by assumption,by walk_at "my os"⟩⟩
    ·have a1:=lv_pre_eq x h hzA
     have a2:=lv_pre_eq x h' hzB
     have a3:Tru (sl (c0::p')) true:=tru_cons (by rw [← h];omega)
     have a4:=tru_nil
     k_steps
     rename Fr _ _ _ _=>F3
     exact ⟨⟨rfl,(x.length,ti),_,rfl,F3,(by walk_at "my all"),(by walk_at "my same"),by assumption,by walk_at "my os"⟩⟩
    ·have a1:=lv_pre_eq x h hzA
     have a2:=lv_pre_eq x h' hzB
     have a3:Tru (sl (c0::p')) true:=tru_cons (by rw [← h];omega)
     have a4:Tru (sl (d0::q')) true:=tru_cons (by rw [← h'];omega)
     have a5:=lv_pre_item x h hzA
     have a6:=lv_pre_item x h' hzB
     have a7:=chr1_ne hn
     k_steps
     rename Fr _ _ _ _=>F3
     exact ⟨⟨rfl,(x.length,ti),_,rfl,F3,(by walk_at "my all"),(by walk_at "my same"),by assumption,by walk_at "my os"⟩⟩
 ·refine all_a ?_
  intro i ti u2 s2 hi F2 G2 o2
  (refine Fr.lets F2 ?_;clear F2;intro m9 F2)
  (try dsimp only at hi F2);(try dsimp only)
  subst hi
  have N2:News s.heap _ s2.heap []:=N0 F2
  clear F1 N1
  have a1:=lv_pre_eq x (rfl:u++y=u++y) hzA
  have a2:=lv_pre_eq x (rfl:v++y=v++y) hzB
  k_steps
  clear a1 a2
  unfold Stop
  rename Fr _ _ _ _=>F1
  rename News _ _ _ _=>N1
  refine cut_K (σ:=Int × Tok) [Str.ofString "post"] (fun c=>[(Str.ofString "post", .int c.1 c.2)]) (fun c=>c.1 = -(y.length:Int)) F1 ?_ ?_
  ·refine while_K (σ:=Int × Nat × Tok) (fun _=>[]) (fun c=>[(Str.ofString "post", .int c.1 c.2.2)]) [Str.ofString "post"] (fun c=>c.1 = -(c.2.1:Int)∧c.2.1≤y.length) (fun c=>y.length-c.2.1) (0,0,?tk1) F1 N1 (fun _ hp=>nomatch hp) (by assumption) ?lc1 ?lc2 ?lc3
   case lc1=>walk_at "my all"
   case lc2=>exact ⟨rfl,Nat.zero_le _⟩
   case lc3=>
    refine all_b ?_
    intro z j tz u3 s3 hq1 F2 N2 G3 o3
    have hz:=hq1.1
    have hj:=hq1.2
    clear hq1
    (refine Fr.lets F2 ?_;clear F2;intro m9 F2)
    clear F1 N1
    (try dsimp only at hz hj F2 N2);(try dsimp only)
    by_cases hlt:j<y.length
    ·have b1:=lv_post_lt u y hz hlt hzC
     have b2:=lv_post_lt v y hz hlt hzD
     have b3:=tru_lt u y hlt hzC
     have b4:=tru_lt v y hlt hzD
     generalize y.reverse[j]'(by rw [List.length_reverse];exact hlt)=c0 at *
     have b5:(chr1 c0 == chr1 c0)=true:=chr1_eq rfl
     refine goalP fun G9 hG9=>?_
     rcases lv_post_sl u y hz hj hzC with ⟨hzb,a1⟩|⟨hzb,a1⟩<;>rcases lv_post_sl v y hz hj hzD with ⟨hzb',a2⟩|⟨hzb',a2⟩
     ·refine hG9 ?_
      clear hG9
      k_steps
      rename Fr _ _ _ _=>F3
      rename News _ _ _ _=>N3
      refine ⟨?_⟩
      dsimp only [WLoopPost]
      refine ⟨(z-1,j+1,?ld1),_,_,F3,N3,(fun _ hp=>nomatch hp),by assumption,?ld2,?ld3,?ld4,⟨?ld5,hlt⟩,?ld6⟩
      case ld3=>walk_at "my all"
      case ld2=>walk_at "my os"
      case ld4=>walk_at "my same"
      case ld5=>rw [hz];show -(j:Int)-1 = -((j+1:Nat):Int);omega
      case ld6=>show y.length-(j+1)<y.length-j;omega
     ·rw [hzb] at hzb';cases hzb'
     ·rw [hzb] at hzb';cases hzb'
     ·refine hG9 ?_
      clear hG9
      k_steps
      rename Fr _ _ _ _=>F3
      rename News _ _ _ _=>N3
      refine ⟨?_⟩
      dsimp only [WLoopPost]
      refine ⟨(z-1,j+1,?le1),_,_,F3,N3,(fun _ hp=>nomatch hp),by assumption,?le2,?le3,?le4,⟨?le5,hlt⟩,?le6⟩
      case le3=>walk_at "my all"
      case le2=>walk_at "my os"
      case le4=>walk_at "my same"
      case le5=>rw [hz];show -(j:Int)-1 = -((j+1:Nat):Int);omega
      case le6=>show y.length-(j+1)<y.length-j;omega
    ·have hjy:j=y.length:=Nat.le_antisymm hj (Nat.not_lt.mp hlt)
     subst hjy
     have e1:=lv_post_sl u y hz (Nat.le_refl _) hzC
     have e2:=lv_post_sl v y hz (Nat.le_refl _) hzD
     rw [Nat.sub_self,List.take_zero,List.append_nil] at e1 e2
     rcases stops_cases hpost with h|⟨c0,p',h,h'⟩|⟨c0,p',d0,q',h,h',hn⟩
     ·have hu:u=[]:=List.reverse_eq_nil_iff.mp h
      have b1:Tru (sl u) false:=hu▸tru_nil
      clear hu h
      refine goalP fun G9 hG9=>?_
      rcases e1 with ⟨hzb,a1⟩|⟨hzb,a1⟩
      ·refine hG9 ?_
       clear hG9
       k_steps
       rename Fr _ _ _ _=>F3
       exact ⟨⟨rfl,(z,tz),_,hz,F3,(by walk_at "my all"),(by walk_at "my same"),by assumption,by walk_at "my os"⟩⟩
      ·refine hG9 ?_
       clear hG9
       k_steps
       rename Fr _ _ _ _=>F3
       exact ⟨⟨rfl,(z,tz),_,hz,F3,(by walk_at "my all"),(by walk_at "my same"),by assumption,by walk_at "my os"⟩⟩
     ·have b1:Tru (sl u) true:=tru_rev h (by omega)
      have hv:v=[]:=List.reverse_eq_nil_iff.mp h'
      have b2:Tru (sl v) false:=hv▸tru_nil
      clear hv h h'
      refine goalP fun G9 hG9=>?_
      rcases e1 with ⟨hzb,a1⟩|⟨hzb,a1⟩<;>rcases e2 with ⟨hzb',a2⟩|⟨hzb',a2⟩
      ·refine hG9 ?_
       clear hG9
       k_steps
       rename Fr _ _ _ _=>F3
       exact ⟨⟨rfl,(z,tz),_,hz,F3,(by walk_at "my all"),(by walk_at "my same"),by assumption,by walk_at "my os"⟩⟩
      ·rw [hzb] at hzb';cases hzb'
      ·rw [hzb] at hzb';cases hzb'
      ·refine hG9 ?_
       clear hG9
       k_steps
       rename Fr _ _ _ _=>F3
       exact ⟨⟨rfl,(z,tz),_,hz,F3,(by walk_at "my all"),(by walk_at "my same"),by assumption,by walk_at "my os"⟩⟩
     ·have b1:Tru (sl u) true:=tru_rev h (by omega)
      have b2:Tru (sl v) true:=tru_rev h' (by omega)
      have b3:=lv_post_eq u y hz h hzC
      have b4:=lv_post_eq v y hz h' hzD
      have b5:=chr1_ne hn
      clear h h'
      refine goalP fun G9 hG9=>?_
      rcases e1 with ⟨hzb,a1⟩|⟨hzb,a1⟩<;>rcases e2 with ⟨hzb',a2⟩|⟨hzb',a2⟩
      ·refine hG9 ?_
       clear hG9
       k_steps
       rename Fr _ _ _ _=>F3
       exact ⟨⟨rfl,(z,tz),_,hz,F3,(by walk_at "my all"),(by walk_at "my same"),by assumption,by walk_at "my os"⟩⟩
      ·rw [hzb] at hzb';cases hzb'
      ·rw [hzb] at hzb';cases hzb'
      ·refine hG9 ?_
       clear hG9
       k_steps
       rename Fr _ _ _ _=>F3
       exact ⟨⟨rfl,(z,tz),_,hz,F3,(by walk_at "my all"),(by walk_at "my same"),by assumption,by walk_at "my os"⟩⟩
  ·refine all_a ?_
   intro z tz u3 s3 hz F2 G3 o3
   (refine Fr.lets F2 ?_;clear F2;intro m9 F2)
   (try dsimp only at hz F2);(try dsimp only)
   have N2:News s.heap _ s3.heap []:=N0 F2
   clear F1 N1
   have e1:=lv_post_sl u y hz (Nat.le_refl _) hzC
   have e2:=lv_post_sl v y hz (Nat.le_refl _) hzD
   rw [Nat.sub_self,List.take_zero,List.append_nil] at e1 e2
   k_steps
   unfold Stop
   rename Fr _ _ _ _=>F1
   rename News _ _ _ _=>N1
   refine cut_K (σ:=Tok) [Str.ofString "a"] (fun c=>[(Str.ofString "a", .str (sl u) c)]) (fun _=>True) F1 ?_ ?_
   ·rcases e1 with ⟨hzb,a1⟩|⟨hzb,a1⟩
    ·refine wpAny_Assign_Name ?_
     k_steps
     rename Fr _ _ _ _=>F3
     exact ⟨⟨rfl,_,_,trivial,F3,(by walk_at "my all"),(by walk_at "my same"),by assumption,by walk_at "my os"⟩⟩
    ·refine wpAny_Assign_Name ?_
     k_steps
     rename Fr _ _ _ _=>F3
     exact ⟨⟨rfl,_,_,trivial,F3,(by walk_at "my all"),(by walk_at "my same"),by assumption,by walk_at "my os"⟩⟩
   ·rintro ta' u4 s4 _ F2 G4 o4
    (refine Fr.lets F2 ?_;clear F2;intro m9 F2)
    (try dsimp only at F2);(try dsimp only)
    have N2:News s.heap _ s4.heap []:=N0 F2
    clear F1 N1
    k_steps
    unfold Stop
    rename Fr _ _ _ _=>F1
    rename News _ _ _ _=>N1
    refine cut_K (σ:=Tok) [Str.ofString "b"] (fun c=>[(Str.ofString "b", .str (sl v) c)]) (fun _=>True) F1 ?_ ?_
    ·rcases e2 with ⟨hzb,a1⟩|⟨hzb,a1⟩
     ·refine wpAny_Assign_Name ?_
      k_steps
      rename Fr _ _ _ _=>F3
      exact ⟨⟨rfl,_,_,trivial,F3,(by walk_at "my all"),(by walk_at "my same"),by assumption,by walk_at "my os"⟩⟩
     ·refine wpAny_Assign_Name ?_
      k_steps
      rename Fr _ _ _ _=>F3
      exact ⟨⟨rfl,_,_,trivial,F3,(by walk_at "my all"),(by walk_at "my same"),by assumption,by walk_at "my os"⟩⟩
    ·rintro tb' u5 s5 _ F2 G5 o5
     (refine Fr.lets F2 ?_;clear F2;intro m9 F2)
     (try dsimp only at F2);(try dsimp only)
     have N2:News s.heap _ s5.heap []:=N0 F2
     clear F1 N1 e1 e2 hpre hpost
     by_cases hu0:u=[]
     ·have b1:Tru (sl u) false:=hu0▸tru_nil
      have hl1:(sl u).length≤40:=by show u.length≤40;omega
      have hl2:(sl v).length≤40:=by show v.length≤40;omega
      k_steps
      rename Fr _ _ _ _=>F3
      (repeat (first|walk_at "Ret" | dsimp only [MLoopPost]))
      exact hret _ _ _ (.inl ⟨.inl hu0,rfl⟩) F3.keep (by assumption) (by walk_at "my os")
     ·by_cases hv0:v=[]
      ·obtain ⟨c0,p0,hu1⟩:=List.exists_cons_of_ne_nil hu0
       have b1:=tru_any hu1 (by omega)
       have b2:Tru (sl v) false:=hv0▸tru_nil
       have hl1:(sl u).length≤40:=by show u.length≤40;omega
       have hl2:(sl v).length≤40:=by show v.length≤40;omega
       clear hu1
       k_steps
       rename Fr _ _ _ _=>F3
       (repeat (first|walk_at "Ret" | dsimp only [MLoopPost]))
       exact hret _ _ _ (.inl ⟨.inr hv0,rfl⟩) F3.keep (by assumption) (by walk_at "my os")
      ·obtain ⟨c0,p0,hu1⟩:=List.exists_cons_of_ne_nil hu0
       have b1:=tru_any hu1 (by omega)
       obtain ⟨c1,p1,hv1⟩:=List.exists_cons_of_ne_nil hv0
       have b2:=tru_any hv1 (by omega)
       clear hu1 hv1
       have hl1:(sl u).length≤40:=by show u.length≤40;omega
       have hl2:(sl v).length≤40:=by show v.length≤40;omega
       have hlu:(sl u).length=u.length:=rfl
       have hlv:(sl v).length=v.length:=rfl
       k_steps
       unfold Stop
       rename Fr _ _ _ _=>F1
       rename News _ _ _ _=>N1
       refine cut_K (σ:=(List Nat × List Nat) × Tok × Tok) [Str.ofString "a", Str.ofString "b"] (fun c=>[(Str.ofString "a", .str (sl c.1.1) c.2.1),(Str.ofString "b", .str (sl c.1.2) c.2.2)]) (fun c=>(v.length<u.length∧c.1.1=v∧c.1.2=u)∨(u.length≤v.length∧c.1.1=u∧c.1.2=v)) F1 ?_ ?_
       ·by_cases hlt:v.length<u.length
        ·refine wpAny_If ?_
         k_steps
         rename Fr _ _ _ _=>F3
         exact ⟨⟨rfl,((v,u),_,_),_,.inl ⟨hlt,rfl,rfl⟩,F3,(by walk_at "my all"),(by walk_at "my same"),by assumption,by walk_at "my os"⟩⟩
        ·refine wpAny_If ?_
         k_steps
         rename Fr _ _ _ _=>F3
         exact ⟨⟨rfl,((u,v),_,_),_,.inr ⟨Nat.not_lt.mp hlt,rfl,rfl⟩,F3,(by walk_at "my all"),(by walk_at "my same"),by assumption,by walk_at "my os"⟩⟩
       ·refine all_e ?_
        intro a b ta9 tb9 u6 s6 hab F2 G6 o6
        (refine Fr.lets F2 ?_;clear F2;intro m9 F2)
        (try dsimp only at hab F2);(try dsimp only)
        have N2:News s.heap _ s6.heap []:=N0 F2
        clear F1 N1 hlu hlv hl1 hl2 b1 b2
        have hab0:=hab_of hab hlen hu0 hv0 hfit
        have hab1:=hab0.1
        have hab2:=hab0.2.1
        have hab3:=hab0.2.2.1
        have hab4:=hab0.2.2.2.1
        have hab5:=hab0.2.2.2.2
        clear hab0
        have hla:(sl a).length=a.length:=rfl
        have hlb:(sl b).length=b.length:=rfl
        have hout:∀ r,((c<((b.length:Int)-a.length)*2∧r=c+1)∨(((b.length:Int)-a.length)*2≤c∧LevT subC (fun k=>a.getD k 0) (fun k=>b.getD k 0) a.length b.length c r))→LevOut u v c r:=fun r h=>.inr ⟨hu0,hv0,a,b,hab,h⟩
        clear hab hfit hne
        by_cases hgap:c<((b.length:Int)-a.length)*2
        ·k_steps
         rename Fr _ _ _ _=>F3
         (repeat (first|walk_at "Ret" | dsimp only [MLoopPost]))
         exact hret _ _ _ (hout _ (.inl ⟨hgap,rfl⟩)) F3.keep (by assumption) (by walk_at "my os")
        ·have hgap2:=Int.not_lt.mp hgap
         k_steps
         rename Fr _ _ _ _=>F1
         rename News _ _ _ _=>N1
         rename IntsAre _ _=>hrow
         rename IsRange _ _ _ _ _ _ _ _=>aR
         refine' news_use (l:=(?lR,lst ?lvs ?le)::[]) N1 ?lgN ?_
         case lgN=>walk_at "my in"
         intro N4
         generalize hfa:(fun k=>a.getD k 0)=fa at hout
         generalize hfb:(fun k=>b.getD k 0)=fb at hout
         have hvl:(?lvs:List Value).length=a.length:=by rw [hrow.length,rangeInts_length];rfl
         have hrow0:IntsAre ?lvs ((List.range a.length).map fun k=>lvT subC fa fb 0 (k+1)):=by
          have e:rangeInts 2 2 (sl a).length=(List.range a.length).map fun k=>lvT subC fa fb 0 (k+1):=by
           unfold rangeInts
           apply List.map_congr_left
           intro k _
           rw [lvT_zero'];omega
          rw [← e];exact hrow
         refine' range_K (σ:=List Value × Int × Tok) (n:=b.length) (fun d=>[(?lR,lst d.1 ?le)]) (fun d=>[(Str.ofString "result", .int d.2.1 d.2.2)])
          [Str.ofString "bindex", Str.ofString "bchar", Str.ofString "distance", Str.ofString "result", Str.ofString "minimum", Str.ofString "index", Str.ofString "substitute", Str.ofString "insert_delete"]
          (fun i d=>IntsAre d.1 ((List.range a.length).map fun k=>lvT subC fa fb i (k+1))∧(0<i→d.2.1=lvT subC fa fb i a.length)∧∀ p,p<i→∃ k,1≤k∧k≤a.length∧lvT subC fa fb (p+1) k≤c)
          (?lvs,0,?ltk) aR rfl (by omega) rfl rfl rfl F1 N4 ?lhN (by assumption) ?lhk ⟨hrow0,fun h=>absurd h (Nat.lt_irrefl _),fun _ h=>absurd h (Nat.not_lt_zero _)⟩ ?lturn ?ldone
         case lhN=>walk_at "my in"
         case lhk=>walk_at "my all"
         case lturn=>
          intro i t
          refine all_b ?_
          intro vs r tr u7 I oI s7 hi hq1 hO F4 N5 G7 o7
          have hv:=hq1.1
          have hr:=hq1.2.1
          have hx:=hq1.2.2
          clear hq1
          (refine Fr.lets F4 ?_;clear F4;intro m9 F4)
          dsimp only at hv hr hx hO F4 N5
          replace hO:=off1_of hO;(try walk_at "my off")
          clear F1 N1 N4 aR hrow hrow0 hvl
          have hvl:vs.length=a.length:=by rw [hv.length];simp
          have f1:ItemIs (sl b) (i:Int) (fb i):=hfb▸item_at_sl b i _ (getD_at hi) (by omega)
          have f2:Fit (fb i):=hfb▸fit_at hab5 hi
          k_steps
          rename Fr _ _ _ _=>F6
          rename News _ _ _ _=>N6
          rename IsRange _ _ _ _ _ _ _ _=>aR2
          refine' range_K (σ:=List Value × (Int × Tok) × (Int × Tok) × (Int × Tok)) (n:=a.length) (fun d=>[(?lR,lst d.1 ?le),(I,oI)]) (fun d=>[(Str.ofString "distance", .int d.2.1.1 d.2.1.2),(Str.ofString "result", .int d.2.2.1.1 d.2.2.1.2),(Str.ofString "minimum", .int d.2.2.2.1 d.2.2.2.2)])
           [Str.ofString "distance", Str.ofString "result", Str.ofString "minimum", Str.ofString "index", Str.ofString "substitute", Str.ofString "insert_delete"]
           (fun j d=>∃ ns,IntsAre d.1 ns∧InnerInv subC fa fb a.length i j ns d.2.1.1 d.2.2.1.1 d.2.2.2.1)
           (vs,((i:Int)*2,?mt1),((i:Int)*2,?mt2),(9223372036854775807,?mt3)) aR2 rfl (by omega) rfl rfl rfl F6 N6 ?mhN (by assumption) ?mhk ⟨_,hv,inner_zero rfl⟩ ?mturn ?mdone
          case mhN=>walk_at "my in"
          case mhk=>walk_at "my all"
          case mturn=>
           intro j tj
           refine all_d ?_
           intro vs d td r tr mn tm u8 I2 oI2 s8 hj hq1 hO F7 N7 G8 o8
           refine goalP fun G9 hG9=>?_
           obtain ⟨ns,hv,hin⟩:=hq1
           refine hG9 ?_
           clear hG9 G9
           (refine Fr.lets F7 ?_;clear F7;intro m9 F7)
           dsimp only at hv hin hO F7 N7
           replace hO:=off1_of hO;(try walk_at "my off")
           clear F6 N6 aR2
           have hvl:vs.length=a.length:=by rw [hv.length,hin.row];simp
           have f3:ItemIs (sl a) (j:Int) (fa j):=hfa▸item_at_sl a j _ (getD_at hj) (by omega)
           have f4:Fit (fa j):=hfa▸fit_at hab4 hj
           have f5:RowIs vs j (lvT subC fa fb i (j+1)):=row_is hv (inner_get hin hj) (by omega)
           have f6:j<vs.length:=by omega
           have f7:vs.length≤1000:=by omega
           have f8:=inner_val hin
           k_steps
           ·rename Fr _ _ _ _=>F3
            rename News _ _ _ _=>N3
            rename _<mn=>hcmp
            simp (zetaDelta:=true) only [f8] at F3 N3 hcmp
            dsimp only [MLoopPost]
            refine ⟨(vs.set j (.int (lvT subC fa fb (i+1) (j+1)) ?oa0),(lvT subC fa fb i (j+1),?oa9),(lvT subC fa fb (i+1) (j+1),?oaa),(lvT subC fa fb (i+1) (j+1),?oab)),_,_,F3,N3,?oa1,?oa2,by assumption,?oa3,?oa4,?oa5,_,intsAre_set hv j _ _,inner_step subC_up hin hj (by omega) (.inl ⟨hcmp,rfl⟩)⟩
            case oa1=>walk_at "my in"
            case oa2=>walk_at "my offgoal"
            case oa3=>walk_at "my os"
            case oa4=>walk_at "my all"
            case oa5=>walk_at "my same"
           ·rename Fr _ _ _ _=>F3
            rename News _ _ _ _=>N3
            rename ¬ _<mn=>hcmp
            simp (zetaDelta:=true) only [f8] at F3 N3 hcmp
            dsimp only [MLoopPost]
            refine ⟨(vs.set j (.int (lvT subC fa fb (i+1) (j+1)) ?ob0),(lvT subC fa fb i (j+1),?ob9),(lvT subC fa fb (i+1) (j+1),?oba),(mn,?obb)),_,_,F3,N3,?ob1,?ob2,by assumption,?ob3,?ob4,?ob5,_,intsAre_set hv j _ _,inner_step subC_up hin hj (by omega) (.inr ⟨hcmp,rfl⟩)⟩
            case ob1=>walk_at "my in"
            case ob2=>walk_at "my offgoal"
            case ob3=>walk_at "my os"
            case ob4=>walk_at "my all"
            case ob5=>walk_at "my same"
          case mdone=>
           refine all_d ?_
           intro vs d td r tr mn tm u8 s8 hq1 F7 N7 G8 o8
           refine goalP fun G9 hG9=>?_
           obtain ⟨ns,hv,hin⟩:=hq1
           refine hG9 ?_
           clear hG9 G9
           (refine Fr.lets F7 ?_;clear F7;intro m9 F7)
           (try dsimp only at hv hin F7 N7);(try dsimp only)
           clear F6 N6 aR2
           by_cases hcm:c<mn
           ·k_steps
            rename Fr _ _ _ _=>F3
            (repeat (first|walk_at "Ret" | dsimp only [MLoopPost]))
            exact hret _ _ _ (hout _ (.inr ⟨hgap2,.inl ⟨rfl,i,hi,inner_all hin hcm⟩⟩)) F3.keep (by assumption) (by walk_at "my os")
           ·have hcm2:=Int.not_lt.mp hcm
            k_steps
            rename Fr _ _ _ _=>F3
            rename News _ _ _ _=>N3
            dsimp only [MLoopPost]
            refine ⟨(vs,r,tr),_,_,F3,N3,?na1,?na2,by assumption,?na3,?na4,?na5,?na6,?na7,?na8⟩
            case na1=>walk_at "my in"
            case na2=>walk_at "my offgoal"
            case na3=>walk_at "my os"
            case na4=>walk_at "my all"
            case na5=>walk_at "my same"
            case na6=>exact inner_row hin▸hv
            case na7=>exact fun _=>inner_res hin hab3
            case na8=>
             intro p' hp'
             by_cases hpi:p'=i
             ·subst hpi;exact inner_some hin hab3 hcm2
             ·exact hx p' (by omega)
         case ldone=>
          refine all_b ?_
          intro vs r tr u7 s7 hq1 F4 N5 G7 o7
          have hv:=hq1.1
          have hr:=hq1.2.1
          have hx:=hq1.2.2
          clear hq1
          (refine Fr.lets F4 ?_;clear F4;intro m9 F4)
          (try dsimp only at hv hr hx F4 N5);(try dsimp only)
          clear F1 N1 N4 aR hrow hrow0 hvl
          k_steps
          rename Fr _ _ _ _=>F3
          (repeat (first|walk_at "Ret" | dsimp only [MLoopPost]))
          refine hret _ _ _ (hout _ (.inr ⟨hgap2,.inr ⟨hr (by omega),hx⟩⟩)) F3.keep (by assumption) (by walk_at "my os")
end
end Mine
end
section
open PySem PySem.W PyProof.Rows PySem.Flt PySem.Calls
namespace Mine
theorem Mkrrrrrrrrrrrrrrrrrrrrrr:True:=trivial
private theorem full_app:∀ (x:Wd) {u:Wd} {p:P3},Full p (x++u)→Full (ops x p) u
 | [],_,_,h=>h
 | _::x,_,_,h=>full_app x h.2
private theorem full_pre:∀ (x:Wd) {u:Wd} {p:P3},Full p (x++u)→PreP p x
 | [],_,_,_=>trivial
 | _::x,_,_,h=>⟨h.1,full_pre x h.2⟩
private theorem full_glue:∀ (x:Wd) {u:Wd} {p:P3},PreP p x→Full (ops x p) u→Full p (x++u)
 | [],_,_,_,h=>h
 | _::x,_,_,h,g=>⟨h.1,full_glue x h.2 g⟩
private theorem greedy_len:∀ (v:Wd) (p:P3),(greedy p v).length≤v.length
 | [],_=>Nat.le_refl _
 | k::v,p=>by
  unfold greedy
  split
  ·simpa using greedy_len v _
  ·exact Nat.le_succ_of_le (greedy_len v p)
private theorem rec_all:∀ (v:List (Bool × Fin 3)) (p:P3),(greedy p (v.map (·.2))).length=v.length→greedy p (v.map (·.2))=v.map (·.2)∧recI p v=v.map fun z=>(Str.ofString "", chr1 (codU z.1 z.2))
 | [],_,_=>⟨rfl,rfl⟩
 | z::v,p,h=>by
  have hl:=greedy_len (v.map (·.2)) p
  rw [List.length_map] at hl
  simp only [List.map_cons] at h ⊢
  unfold greedy at h ⊢
  unfold recI
  by_cases hz:part z.2 p<0
  ·rw [if_pos hz] at h
   rw [if_pos hz,if_pos hz]
   refine and2 (rec_all v (DD z.2 p) (by simpa using h)) fun e1 e2=>?_
   rw [e1,e2];exact ⟨rfl,rfl⟩
  ·rw [if_neg hz] at h
   rw [List.length_cons] at h
   exact ⟨(lqn [_,_] (.le T0 T1 1 (.eq T0 (.a T1 Tx) (-1) (.o))) rfl hl h).elim,(lqn [_,_] (.le T0 T1 1 (.eq T0 (.a T1 Tx) (-1) (.o))) rfl hl h).elim⟩
private theorem rec_one:∀ (v:List (Bool × Fin 3)) (p:P3),(greedy p (v.map (·.2))).length+1=v.length →
  ∃ v1 z v2,v=v1++z::v2∧greedy p (v.map (·.2))=(v1++v2).map (·.2)∧¬ part z.2 (ops (v1.map (·.2)) p)<0 ∧
   recI p v=(v1.map fun z=>(Str.ofString "", chr1 (codU z.1 z.2)))++(Str.ofString " ", Str.ofString "")::v2.map fun z=>(Str.ofString "", chr1 (codU z.1 z.2))
 | [],_,h=>by simp at h
 | z::v,p,h=>by
  simp only [List.map_cons] at h ⊢
  unfold greedy at h ⊢
  unfold recI
  by_cases hz:part z.2 p<0
  ·rw [if_pos hz] at h
   rw [if_pos hz,if_pos hz]
   obtain ⟨v1,y,v2,e1,e2,e3,e4⟩:=rec_one v (DD z.2 p) (by simpa using h)
   refine ⟨z::v1,y,v2,by rw [e1];rfl,by rw [e2];rfl,e3,by rw [e4];rfl⟩
  ·rw [if_neg hz] at h
   rw [if_neg hz,if_neg hz]
   refine and2 (rec_all v p (by simpa using h)) fun e1 e2=>?_
   exact ⟨[],z,v,rfl,e1,hz,by rw [e2];rfl⟩
private theorem part_after (k:Fin 3) (p:P3):¬ part k (DD k p)<0:=by
 match k with
 | 0=>unfold DD D0 part;dsimp only;split<;>(try dsimp only)<;>lia -abstractProof
 | 1=>unfold DD D1 part;dsimp only;split<;>(try dsimp only)<;>lia -abstractProof
 | 2=>unfold DD D2 part;dsimp only;split<;>(try dsimp only)<;>lia -abstractProof
private theorem full_adj:∀ (x:Wd) {m k:Fin 3} {u:Wd} {p:P3},Full p (x++m::k::u)→m≠k
 | [],m,k,u,p,h=>by
  rintro rfl
  exact part_after _ _ h.2.1
 | _::x,_,_,_,_,h=>full_adj x h.2
private theorem led_split {W:Int} (hW:0<W) {p:P3} {t:Fin 3} {u:Wd} (hs:sum3 p=W) (hu:Full p u) (ht:part t p<0) :
  ∃ u1 k u2,u=u1++k::u2∧Full p (t::(u1++u2))∧((u1=[]∧k=t)∨(∃ h r m r',u1=h::r∧h≠t∧u1=r'++[m]∧m≠k)) ∧
   recI p ((true,t)::u.map fun k=>(false,k))=(Str.ofString "", chr1 (codU true t))::((u1.map lI)++(Str.ofString " ", Str.ofString "")::u2.map lI):=by
 refine and3 (led_one hW hs hu ht) fun g1 g2 g3=>?_
 have em:(((true,t)::u.map fun k=>(false,k)):List (Bool × Fin 3)).map (·.2)=t::u:=by simp [Function.comp_def]
 refine goalP fun G9 hG9=>?_
 obtain ⟨v1,z,v2,e1,e2,e3,e4⟩:=rec_one ((true,t)::u.map fun k=>(false,k)) p (by rw [em,g2];simp)
 refine hG9 ?_
 clear hG9
 rw [em] at e2
 cases v1 with
 | nil=>
  simp only [List.nil_append,List.cons.injEq] at e1
  rw [← e1.1] at e3
  exact absurd ht e3
 | cons y v1=>
  simp only [List.cons_append,List.cons.injEq] at e1
  refine and2 e1 fun e5 e6=>?_
  subst e5
  refine goalP fun G9 hG9=>?_
  obtain ⟨u1,u',h1,h2,h3⟩:=List.map_eq_append_iff.mp e6
  refine hG9 ?_
  clear hG9
  refine goalP fun G9 hG9=>?_
  obtain ⟨k,u2,h4,h5,h6⟩:=List.map_eq_cons_iff.mp h3
  refine hG9 ?_
  clear hG9
  subst h4 h1
  subst h2 h5 h6
  have el:∀ w:Wd,(w.map fun k=>((false,k):Bool × Fin 3)).map (fun z=>(Str.ofString "", chr1 (codU z.1 z.2)))=w.map lI:=fun w=>by
   rw [List.map_map];rfl
  have ei:∀ w:Wd,(w.map fun k=>((false,k):Bool × Fin 3)).map (·.2)=w:=fun w=>by simp [Function.comp_def]
  refine ⟨u1,k,u2,rfl,?_,?_,?_⟩
  ·rw [e2] at g1
   simpa [Function.comp_def] using g1
  ·simp only [List.map_cons,ei] at e3
   cases u1 with
   | nil=>
    left
    refine ⟨rfl,?_⟩
    apply Classical.byContradiction
    intro hk
    have hk1:part k p<0:=hu.1
    refine and2 (partD t k p (Ne.symm hk) ht) fun a1 _=>?_
    have e3':¬ part k (DD t p)<0:=e3
    exact lqz [_,_,_] (.lt T0 Tz 1 (.lt T1 Tz 1 (.eq T2 (.a T1 T0) 1 (.nlt T2 Tz 1 (.o))))) rfl ht hk1 a1 e3'
   | cons h r=>
    right
    have hne:(h::r:Wd)≠[]:=by simp
    refine ⟨h,r,(h::r).getLast hne,(h::r).dropLast,rfl,?_,(List.dropLast_concat_getLast hne).symm,?_⟩
    ·rintro rfl
     have g1':=g1
     rw [e2] at g1'
     simp only [List.map_cons,List.map_append,ei,List.cons_append] at g1'
     exact part_after _ _ g1'.2.1
    ·have hu':Full p ((h::r).dropLast++(h::r).getLast hne::k::u2):=by
      have e:(h::r).dropLast++(h::r).getLast hne::k::u2=(h::r)++k::u2:=
       (List.append_assoc (h::r).dropLast [(h::r).getLast hne] (k::u2)).symm.trans (congrArg (·++(k::u2)) (List.dropLast_concat_getLast hne))
      rw [e];exact hu
     exact full_adj _ hu'
  ·rw [e4]
   simp only [List.map_cons,el]
   rfl
end Mine
end
section
open PySem PySem.W PyProof.Rows PySem.Flt PySem.Calls PySem.Builtin PySem.Builtin.Str
namespace Mine
private theorem blank_is:Str.ofString " " = ⟨#[32]⟩:=by decide +kernel
private theorem none_is:Str.ofString "" = ⟨#[]⟩:=by decide +kernel
private theorem countIn_chars (c:Nat):∀ l:List Nat,Spec.countIn (.str ⟨#[c]⟩) (l.map fun n=>PyData.str ⟨#[n]⟩)=((l.filter (· == c)).length:Int)
 | []=>rfl
 | d::l=>by
  have ih:=countIn_chars c l
  simp only [List.map_cons,Spec.countIn,List.filter_cons,ih]
  have e:Spec.same (PyData.str ⟨#[d]⟩) (.str ⟨#[c]⟩)=(d == c):=by
   unfold Spec.same
   by_cases h:d=c
   ·rw [chr1_eq h];subst h;simp
   ·rw [chr1_ne h];exact (beq_eq_false_iff_ne.mpr h).symm
  rw [e]
  by_cases h:d == c
  ·simp [h];exact Int.le_antisymm (lqz [_] (.gle (.a Tx T0) (.a T0 Tx) 1) rfl) (lqz [_] (.gle (.a T0 Tx) (.a Tx T0) 1) rfl)
  ·simp [h]
private theorem count_blank (l:List Nat):Txt.count (sl l) (Str.ofString " ")=((l.filter (· == 32)).length:Int):=by
 rw [blank_is,count_is,countIn_chars]
private theorem strike_blank (l:List Nat):Txt.replace (sl l) (Str.ofString " ") (Str.ofString "")=sl (l.filter (· != 32)):=by
 refine str_ext ?_
 rw [blank_is,none_is,replace_strikes]
private theorem lower_map (f:Nat→Nat):∀ l:List Nat,(∀ c∈l,c≠0x3A3∧Unicode.lowerOf c=[f c])→Txt.lower (sl l)=sl (l.map f):=by
 intro l h
 refine str_ext ?_
 unfold Txt.lower placed
 have e:((sl l).cps.mapIdx fun i c=>(Unicode.lowerAt (sl l).cps i).toArray)=(l.map fun c=>#[f c]).toArray:=by
  apply Array.ext'
  rw [Array.toList_mapIdx]
  apply List.ext_getElem?
  intro i
  rw [List.getElem?_mapIdx]
  simp only [List.getElem?_map]
  have e1:(sl l).cps.toList[i]?=l[i]?:=by simp
  rw [e1]
  cases hi:l[i]? with
  | none=>rfl
  | some c=>
   have hc:=h c (List.mem_of_getElem? hi)
   simp only [Option.map_some,Option.some.injEq]
   unfold Unicode.lowerAt
   have e2:(sl l).cps[i]?=some c:=by simpa using hi
   rw [e2]
   simp [hc.1,hc.2]
 rw [e]
 show ((l.map fun c=>#[f c]).toArray.flatten).toList=l.map f
 have:∀ m:List Nat,((m.map fun c=>#[f c]).toArray.flatten).toList=m.map f:=by
  intro m
  simp only [Array.toList_flatten,List.map_toArray,List.map_map]
  induction m with
  | nil=>rfl
  | cons c m ih=>simpa using ih
 exact this l
noncomputable def lowC (c:Nat):Nat:=if c<97 then c+32 else c
private theorem low_cod:∀ (up:Bool) (k:Fin 3),codU up k≠0x3A3∧Unicode.lowerOf (codU up k)=[lowC (codU up k)]∧lowC (codU up k)=cod k:=by decide +kernel
private theorem upper_cod:∀ k:Fin 3,Txt.upper (chr1 (cod k))=chr1 (codU true k):=by decide +kernel
private theorem fit_upper_cod:∀ k:Fin 3,tooLong (Txt.upper (chr1 (cod k))).length=false:=by decide +kernel
private theorem cod_ne32:∀ (up:Bool) (k:Fin 3),codU up k≠32:=by decide
private theorem fit_cod:∀ (up:Bool) (k:Fin 3),Fit (codU up k):=by unfold Fit;decide +kernel
private theorem fit_32:Fit 32:=by unfold Fit;decide +kernel
private theorem sub_up:∀ t k:Fin 3,subC (codU true t) (cod k)=if t=k then 1 else 2:=by decide +kernel
private theorem sub_lo:∀ t k:Fin 3,subC (cod t) (cod k)=if t=k then 0 else 2:=by decide +kernel
private theorem sub_bl:∀ k:Fin 3,subC 32 (cod k)=2:=by decide +kernel
private theorem sub_self (x:Nat):subC x x=0:=by unfold subC;simp
private theorem cod_inj:∀ t k:Fin 3,cod t=cod k→t=k:=by decide
noncomputable def recL (x u1 u2:Wd) (t:Fin 3):List Nat:=x.map cod++(codU true t::(u1.map cod++32::u2.map cod))
private theorem filt_cod (b:Bool):∀ x:Wd,(x.map cod).filter (fun c=>(c == 32) == b)=if b then [] else x.map cod
 | []=>by cases b<;>rfl
 | k::x=>by
  have ih:=filt_cod b x
  have h:(cod k == 32)=false:=beq_eq_false_iff_ne.mpr (cod_ne32 false k)
  rw [List.map_cons,List.filter_cons,h,ih]
  cases b<;>simp
private theorem rec_text (x u1 u2:Wd) (t:Fin 3):strJoin ((wS x).cps.toList.map (fun cd=>(Str.ofString "", chr1 cd))++((Str.ofString "", chr1 (codU true t))::((u1.map lI)++(Str.ofString " ", Str.ofString "")::u2.map lI)))=sl (recL x u1 u2 t):=by
 rw [strJoin_eq]
 refine str_ext ?_
 have e1:∀ u:Wd,textOf (u.map lI)=u.map cod:=by
  intro u
  unfold textOf
  induction u with
  | nil=>rfl
  | cons k u ih=>simp [lI,empty_cps,ih]
 have e2:∀ l:List Nat,textOf (l.map fun cd=>(Str.ofString "", chr1 cd))=l:=by
  intro l
  unfold textOf
  induction l with
  | nil=>rfl
  | cons k u ih=>simp [empty_cps,ih]
 have e3:∀ xs ys,textOf (xs++ys)=textOf xs++textOf ys:=by intro xs ys;simp [textOf]
 have e4:∀ q xs,textOf (q::xs)=q.1.cps.toList++q.2.cps.toList++textOf xs:=by intro q xs;simp [textOf]
 show textOf _=recL x u1 u2 t
 rw [e3,e2,e4,e3,e4,e1,e1]
 unfold recL wS
 simp [empty_cps,blank_cps]
private theorem rec_count (x u1 u2:Wd) (t:Fin 3):Txt.count (sl (recL x u1 u2 t)) (Str.ofString " ")=1:=by
 rw [count_blank]
 have f:∀ u:Wd,(u.map cod).filter (· == 32)=[]:=fun u=>by
  have:=filt_cod true u
  simpa using this
 have h:(codU true t == 32)=false:=by simpa using cod_ne32 true t
 unfold recL
 rw [List.filter_append,f,List.nil_append,List.filter_cons,h,List.filter_append,f]
 simp only [Bool.false_eq_true,if_false,List.nil_append,List.filter_cons,f]
 rfl
private theorem rec_strike (x u1 u2:Wd) (t:Fin 3):Txt.replace (sl (recL x u1 u2 t)) (Str.ofString " ") (Str.ofString "")=sl (x.map cod++(codU true t::(u1.map cod++u2.map cod))):=by
 rw [strike_blank]
 have f:∀ u:Wd,(u.map cod).filter (· != 32)=u.map cod:=fun u=>by
  rw [List.filter_eq_self]
  intro c hc
  obtain ⟨k,_,rfl⟩:=List.mem_map.mp hc
  exact bne_iff_ne.mpr (cod_ne32 false k)
 have h:(codU true t != 32)=true:=by simpa using cod_ne32 true t
 unfold recL
 rw [List.filter_append,f,List.filter_cons,h,List.filter_append,f]
 simp [f]
private theorem rec_lower (x u1 u2:Wd) (t:Fin 3):Txt.lower (sl (x.map cod++(codU true t::(u1.map cod++u2.map cod))))=wS (x++t::(u1++u2)):=by
 rw [lower_map lowC]
 ·refine str_ext ?_
  have f:∀ u:Wd,(u.map cod).map lowC=u.map cod:=fun u=>by
   rw [List.map_map]
   apply List.map_congr_left
   intro k _
   exact (low_cod false k).2.2
  simp only [wS,List.map_append,List.map_cons,f,(low_cod true t).2.2]
 ·intro c hc
  rcases List.mem_append.mp hc with h|h
  ·obtain ⟨k,_,rfl⟩:=List.mem_map.mp h
   exact ⟨(low_cod false k).1,(low_cod false k).2.1⟩
  ·rcases List.mem_cons.mp h with rfl|h
   ·exact ⟨(low_cod true t).1,(low_cod true t).2.1⟩
   ·rcases List.mem_append.mp h with h|h <;>
    ·obtain ⟨k,_,rfl⟩:=List.mem_map.mp h
     exact ⟨(low_cod false k).1,(low_cod false k).2.1⟩
noncomputable def LevIs (a b:PySem.Str) (c r:Int):Prop:=
 (0≤c∧c≤1000)∧((a=b∧r=0)∨∃ x u y v,a=sl (x++(u++y))∧b=sl (x++(v++y))∧(sl (x++(u++y)) == sl (x++(v++y)))=false∧Stops (u++y) (v++y)∧Stops u.reverse v.reverse∧x.length+u.length+v.length+y.length≤40∧(∀ z∈u++v,Fit z)∧∀ r',LevOut u v c r'→r'=r)
private theorem sl_ne {a b:List Nat} (h:a≠b):(sl a == sl b)=false:=beq_eq_false_iff_ne.mpr fun e=>h (by have:=congrArg (fun z:PySem.Str=>z.cps.toList) e;simpa using this)
private theorem wS_sl (u:Wd):wS u=sl (u.map cod):=rfl
private theorem fit_map {u:Wd} {z:Nat} (h:z∈u.map cod):Fit z:=by
 obtain ⟨k,_,rfl⟩:=List.mem_map.mp h
 exact fit_cod false k
private theorem lev_rest (x u:Wd) (hu:u≠[]) (hl:x.length+u.length≤40):LevIs (wS x) (wS (x++u)) 16 (2*(((x++u).length:Int)-x.length)):=by
 refine ⟨by exact ⟨lqz [] (.gle Tz (.n 16) 1) rfl,lqz [] (.gle (.n 16) (.n 1000) 1) rfl⟩,.inr ⟨x.map cod,[],[],u.map cod,?_,?_,?_,.left,.left,?_,?_,?_⟩⟩
 ·rw [List.append_nil,List.append_nil];rfl
 ·rw [List.append_nil,←List.map_append];rfl
 ·refine sl_ne fun e=>?_
  have:=congrArg List.length e
  simp only [List.length_append,List.length_nil,List.length_map,Nat.add_zero] at this
  exact hu (List.eq_nil_of_length_eq_zero (by exact Nat.le_antisymm (lqn [_,_] (.eq T0 (.a T0 T1) (-1) (.gle T1 Tz 1)) rfl this) (lqn [_] (.gle Tz T0 1) rfl)))
 ·simp only [List.length_map,List.length_nil];exact lqn [_,_] (.le (.a T0 T1) (.n 40) 1 (.gle (.a (.a (.a T0 Tz) T1) Tz) (.n 40) 1)) rfl hl
 ·intro z hz
  exact fit_map (by simpa using hz)
 ·intro r' h
  rcases h with ⟨_,rfl⟩|⟨h,_⟩
  ·simp only [List.length_nil,List.length_map,List.length_append];lia -abstractProof
  ·exact absurd rfl h
private theorem rev_last {α:Type} (l:List α) (a:α):(l++[a]).reverse=a::l.reverse:=by simp
private theorem lev_rec (x u1 u2:Wd) (t k:Fin 3) (hl:x.length+u1.length+u2.length+2≤18) (h:(u1=[]∧k=t)∨(∃ h r m r',u1=h::r∧h≠t∧u1=r'++[m]∧m≠k)) :
  ∀ c r,(c=2∧r=3)∨(c=4∧r=if u1=[] then 3 else 4)→LevIs (wS (x++(u1++k::u2))) (sl (recL x u1 u2 t)) c r∧LevIs (sl (recL x u1 u2 t)) (wS (x++(u1++k::u2))) c r:=by
 intro c r hcr
 have hc:0≤c∧c≤1000:=by rcases hcr with ⟨rfl,_⟩|⟨rfl,_⟩<;>(first|exact ⟨lqz [] (.gle Tz Ty 1) rfl,lqz [] (.gle Ty (.n 1000) 1) rfl⟩|exact ⟨lqz [] (.gle Tz (.n 4) 1) rfl,lqz [] (.gle (.n 4) (.n 1000) 1) rfl⟩)
 have ea:wS (x++(u1++k::u2))=sl (x.map cod++((u1.map cod++[cod k])++u2.map cod)):=by
  rw [wS_sl];simp
 have eb:recL x u1 u2 t=x.map cod++((codU true t::(u1.map cod++[32]))++u2.map cod):=by
  unfold recL;simp
 have hh:∃ j r,u1.map cod++[cod k]=cod j::r:=by
  cases u1 with
  | nil=>exact ⟨k,[],rfl⟩
  | cons a u=>exact ⟨a,u.map cod++[cod k],rfl⟩
 obtain ⟨j,rj,hj⟩:=hh
 have hcase:cod j≠codU true t:=by
  have:∀ j t:Fin 3,cod j≠codU true t:=by decide
  exact this j t
 have hfit1:∀ z∈u1.map cod++[cod k],Fit z:=by
  intro z hz
  rcases List.mem_append.mp hz with hz|hz
  ·exact fit_map hz
  ·rw [List.mem_singleton.mp hz];exact fit_cod false k
 have hfit2:∀ z∈codU true t::(u1.map cod++[32]),Fit z:=by
  intro z hz
  rcases List.mem_cons.mp hz with rfl|hz
  ·exact fit_cod true t
  ·rcases List.mem_append.mp hz with hz|hz
   ·exact fit_map hz
   ·rw [List.mem_singleton.mp hz];exact fit_32
 have hne:x.map cod++((u1.map cod++[cod k])++u2.map cod)≠x.map cod++((codU true t::(u1.map cod++[32]))++u2.map cod):=by
  intro e
  have:=List.append_cancel_left e
  rw [hj] at this
  simp only [List.cons_append,List.cons.injEq] at this
  exact hcase this.1
 have hl1:(u1.map cod++[cod k]).length=u1.length+1:=by simp
 have hl2:(codU true t::(u1.map cod++[32])).length=u1.length+1+1:=by simp
 have core:∀ r',LevT subC (fun i=>(u1.map cod++[cod k]).getD i 0) (fun i=>(codU true t::(u1.map cod++[32])).getD i 0) (u1.length+1) (u1.length+1+1) c r'→r'=r:=by
  intro r' L
  rcases h with ⟨rfl,rfl⟩|⟨a,rr,m,r2,e1,e2,e3,e4⟩
  ·have:=lev_one (sub:=subC) (a:=fun i=>(([]:Wd).map cod++[cod k]).getD i 0) (b:=fun i=>(codU true k::(([]:Wd).map cod++[32])).getD i 0)
    (by show subC (codU true k) (cod k)=1;rw [sub_up,if_pos rfl]) (by show subC 32 (cod k)=2;exact sub_bl k) L
   rcases hcr with ⟨h1,h2⟩|⟨h1,h2⟩
   ·rw [this.1 h1,h2]
   ·rw [this.2 h1,h2,if_pos rfl]
  ·have hn:u1≠[]:=by rw [e1];simp
   have:=lev_blank (sub:=subC) (t:=u1.length) (a:=fun i=>(u1.map cod++[cod k]).getD i 0) (b:=fun i=>(codU true t::(u1.map cod++[32])).getD i 0) subC_lo subC_up sub_self
    (by
     rw [e1]
     show 2≤subC (codU true t) (cod a)
     rw [sub_up,if_neg (Ne.symm e2)];decide)
    (by
     intro p hp
     show (codU true t::(u1.map cod++[32])).getD (p+1) 0=(u1.map cod++[cod k]).getD p 0
     simp only [List.getD,List.getElem?_cons_succ]
     rw [List.getElem?_append_left (by simpa using hp),List.getElem?_append_left (by simpa using hp)])
    (by
     show 2≤subC ((codU true t::(u1.map cod++[32])).getD (u1.length+1) 0) ((u1.map cod++[cod k]).getD u1.length 0)
     have f1:(codU true t::(u1.map cod++[32])).getD (u1.length+1) 0=32:=by
      simp only [List.getD,List.getElem?_cons_succ]
      rw [List.getElem?_append_right (by simp)];simp
     have f2:(u1.map cod++[cod k]).getD u1.length 0=cod k:=by
      simp only [List.getD]
      rw [List.getElem?_append_right (by simp)];simp
     rw [f1,f2,sub_bl];decide) L
   rcases hcr with ⟨h1,h2⟩|⟨h1,h2⟩
   ·rw [this.1 h1,h2]
   ·rw [this.2 h1,h2,if_neg hn]
 have hgap:¬ c<(((u1.length+1+1:Nat):Int)-(u1.length+1:Nat))*2:=by rcases hcr with ⟨rfl,_⟩|⟨rfl,_⟩<;>lia -abstractProof
 have hne1:u1.map cod++[cod k]≠[]:=by simp
 have hne2:codU true t::(u1.map cod++[32])≠[]:=by simp
 constructor
 ·refine ⟨hc,.inr ⟨x.map cod,u1.map cod++[cod k],u2.map cod,codU true t::(u1.map cod++[32]),ea,by rw [eb],sl_ne hne,?_,?_,?_,?_,?_⟩⟩
  ·rw [hj];exact .diff hcase
  ·rw [rev_last,←List.cons_append,rev_last];exact .diff (cod_ne32 false k)
  ·rw [hl1,hl2];simp only [List.length_map];exact lqn [_,_,_] (.le (.a (.a (.a T0 T1) T2) Ty) (.n 18) 2 (.gle (.a (.a (.a T0 (.a T1 Tx)) (.a (.a T1 Tx) Tx)) T2) (.n 40) 1)) rfl hl
  ·intro z hz
   rcases List.mem_append.mp hz with hz|hz
   ·exact hfit1 z hz
   ·exact hfit2 z hz
  ·intro r' ho
   rcases ho with ⟨h1|h1,_⟩|⟨_,_,a,b,hab,hr⟩
   ·exact absurd h1 hne1
   ·exact absurd h1 hne2
   ·rcases hab with ⟨h1,_⟩|⟨_,rfl,rfl⟩
    ·rw [hl1,hl2] at h1;exact (lqn [_] (.lt (.a (.a T0 Tx) Tx) (.a T0 Tx) 1 (.o)) rfl h1).elim
    ·rw [hl1,hl2] at hr
     rcases hr with ⟨h1,_⟩|⟨_,h2⟩
     ·exact absurd h1 hgap
     ·exact core r' h2
 ·refine ⟨hc,.inr ⟨x.map cod,codU true t::(u1.map cod++[32]),u2.map cod,u1.map cod++[cod k],by rw [eb],ea,sl_ne (Ne.symm hne),?_,?_,?_,?_,?_⟩⟩
  ·rw [hj];exact .diff (Ne.symm hcase)
  ·rw [rev_last,←List.cons_append,rev_last];exact .diff (Ne.symm (cod_ne32 false k))
  ·rw [hl1,hl2];simp only [List.length_map];exact lqn [_,_,_] (.le (.a (.a (.a T0 T1) T2) Ty) (.n 18) 2 (.gle (.a (.a (.a T0 (.a (.a T1 Tx) Tx)) (.a T1 Tx)) T2) (.n 40) 1)) rfl hl
  ·intro z hz
   rcases List.mem_append.mp hz with hz|hz
   ·exact hfit2 z hz
   ·exact hfit1 z hz
  ·intro r' ho
   rcases ho with ⟨h1|h1,_⟩|⟨_,_,a,b,hab,hr⟩
   ·exact absurd h1 hne2
   ·exact absurd h1 hne1
   ·rcases hab with ⟨_,rfl,rfl⟩|⟨h1,_⟩
    ·rw [hl1,hl2] at hr
     rcases hr with ⟨h1,_⟩|⟨_,h2⟩
     ·exact absurd h1 hgap
     ·exact core r' h2
    ·rw [hl1,hl2] at h1;exact (lqn [_] (.le (.a (.a T0 Tx) Tx) (.a T0 Tx) 1 (.o)) rfl h1).elim
private theorem lev_next (x u1 u2:Wd) (t k:Fin 3) (hl:x.length+u1.length+u2.length+2≤18) (h:(u1=[]∧k=t)∨(∃ h r m r',u1=h::r∧h≠t∧u1=r'++[m]∧m≠k)) :
  LevIs (wS (x++(u1++k::u2))) (wS (x++t::(u1++u2))) 9 (if u1=[] then 0 else 4):=by
 refine ⟨by exact ⟨lqz [] (.gle Tz (.n 9) 1) rfl,lqz [] (.gle (.n 9) (.n 1000) 1) rfl⟩,?_⟩
 rcases h with ⟨rfl,rfl⟩|⟨a,rr,m,r2,e1,e2,e3,e4⟩
 ·left;exact ⟨rfl,by rw [if_pos rfl]⟩
 ·right
  have hn:u1≠[]:=by rw [e1];simp
  have hlen:∃ n,u1.length=n+1:=⟨rr.length,by rw [e1];rfl⟩
  obtain ⟨n,hn1⟩:=hlen
  refine ⟨x.map cod,u1.map cod++[cod k],u2.map cod,cod t::u1.map cod,?_,?_,?_,?_,?_,?_,?_,?_⟩
  ·rw [wS_sl];simp
  ·rw [wS_sl];simp
  ·refine sl_ne fun e=>?_
   have:=List.append_cancel_left e
   rw [e1] at this
   simp only [List.map_cons,List.cons_append,List.cons.injEq] at this
   exact e2 (cod_inj _ _ this.1)
  ·rw [e1];exact .diff fun e=>e2 (cod_inj _ _ e)
  ·rw [rev_last]
   have:(cod t::u1.map cod).reverse=cod m::(cod t::r2.map cod).reverse:=by rw [e3];simp
   rw [this];exact .diff fun e=>e4 (cod_inj _ _ e).symm
  ·simp only [List.length_append,List.length_map,List.length_cons,List.length_nil];exact lqn [_,_,_] (.le (.a (.a (.a T0 T1) T2) Ty) (.n 18) 2 (.gle (.a (.a (.a T0 (.a T1 (.a Tz Tx))) (.a T1 Tx)) T2) (.n 40) 1)) rfl hl
  ·intro z hz
   rcases List.mem_append.mp hz with hz|hz
   ·rcases List.mem_append.mp hz with hz|hz
    ·exact fit_map hz
    ·rw [List.mem_singleton.mp hz];exact fit_cod false k
   ·rcases List.mem_cons.mp hz with rfl|hz
    ·exact fit_cod false t
    ·exact fit_map hz
  ·intro r' ho
   have hl1:(u1.map cod++[cod k]).length=n+1+1:=by simp [hn1]
   have hl2:(cod t::u1.map cod).length=n+1+1:=by simp [hn1]
   rw [if_neg hn]
   rcases ho with ⟨h1|h1,_⟩|⟨_,_,a',b',hab,hr⟩
   ·simp at h1
   ·simp at h1
   ·rcases hab with ⟨h1,_⟩|⟨_,rfl,rfl⟩
    ·rw [hl1,hl2] at h1;exact (lqn [_] (.lt (.a (.a T0 Tx) Tx) (.a (.a T0 Tx) Tx) 1 (.o)) rfl h1).elim
    ·rw [hl1,hl2] at hr
     rcases hr with ⟨h1,_⟩|⟨_,h2⟩
     ·exact Int.le_antisymm (lqz [_,_] (.lt (.n 9) (.m (.s T0 T0) Ty) 1 (.gle T1 (.n 4) 0)) rfl h1) (lqz [_,_] (.lt (.n 9) (.m (.s T0 T0) Ty) 1 (.gle (.n 4) T1 0)) rfl h1)
     ·refine lev_same (sub:=subC) (t:=n) (a:=fun i=>(u1.map cod++[cod k]).getD i 0) (b:=fun i=>(cod t::u1.map cod).getD i 0) subC_lo subC_up sub_self ?_ ?_ ?_ (by exact lqz [] (.gle (.n 4) (.n 9) 1) rfl) h2
      ·rw [e1]
       show 2≤subC (cod t) (cod a)
       rw [sub_lo,if_neg (Ne.symm e2)];decide
      ·intro p hp
       show (cod t::u1.map cod).getD (p+1) 0=(u1.map cod++[cod k]).getD p 0
       simp only [List.getD,List.getElem?_cons_succ]
       rw [List.getElem?_append_left (by simpa [hn1] using hp)]
      ·show 2≤subC ((cod t::u1.map cod).getD (n+1) 0) ((u1.map cod++[cod k]).getD (n+1) 0)
       have hr2:r2.length=n:=by
        have:=congrArg List.length e3
        simp only [List.length_append,List.length_singleton] at this
        exact Nat.le_antisymm (lqn [_,_,_] (.eq T0 (.a T1 Tx) 1 (.eq T0 (.a T2 Tx) (-1) (.gle T2 T1 1))) rfl hn1 this) (lqn [_,_,_] (.eq T0 (.a T1 Tx) (-1) (.eq T0 (.a T2 Tx) 1 (.gle T1 T2 1))) rfl hn1 this)
       have f1:(cod t::u1.map cod).getD (n+1) 0=cod m:=by
        rw [e3]
        simp only [List.getD,List.getElem?_cons_succ,List.map_append]
        rw [List.getElem?_append_right (by simp [hr2])];simp [hr2]
       have f2:(u1.map cod++[cod k]).getD (n+1) 0=cod k:=by
        simp only [List.getD]
        rw [List.getElem?_append_right (by simp [hn1])];simp [hn1]
       rw [f1,f2,sub_lo,if_neg e4];decide
end Mine
end
section
open PySem PySem.W PyProof.Rows PySem.Flt PySem.Calls PySem.Builtin PySem.Builtin.Str
namespace Mine
theorem Mkrrrrrrrrrrrrrrrrrrrrrrr:True:=by w_top off;trivial
section
variable {w:World} {p:Program} {loose:List Str} {mean:ExcName→Option Value} {mg mb:Str→Option Value} {dp un:Nat} {gd:Option (List Code)} {fr:Option (List Env)} {s:Shared} {Q E:Value→Shared→Prop}
private theorem c_lev0 {a:PySem.Str} {c:Int} {ta tb tc:Tok} (X:(hd.heap_1 w.params).In s.heap) (T:Top p loose mean mg mb s.heap) (hd:dp+4<recursionLimit)
 (hret:∀ t h' tk',Ext s.heap h'→Q (.int 0 t) { s with heap:=h',toks:=tk' }) :
 wpAny (model PySem.Challenge.rw_sc0045_01.prog w) (AA dp un gd fr) (call (.ref 35) [.str a ta,.str a tb,.int c tc]) Q E s:=by
 revert X
 k_fill
 intro X
 have hs:(a == a)=true:=by simp
 refine wpAny_call ?_
 walk_at "my enter"
 k_steps
 apply hret
 exact Fr.keep (by assumption)
private theorem c_levI {a b:PySem.Str} {c r:Int} {ta tb tc:Tok} (X:(hd.heap_1 w.params).In s.heap) (T:Top p loose mean mg mb s.heap) (hd:dp+4<recursionLimit) (G:AllBare s.gens) (hL:LevIs a b c r)
 (hret:∀ t s',Ext s.heap s'.heap→AllBare s'.gens→s'.os=s.os→Q (.int r t) s') :
 wpAny (model PySem.Challenge.rw_sc0045_01.prog w) (AA dp un gd fr) (call (.ref 35) [.str a ta,.str b tb,.int c tc]) Q E s:=by
 obtain ⟨hc,⟨rfl,rfl⟩|⟨x,u,y,v,rfl,rfl,h1,h2,h3,h4,h5,h6⟩⟩:=hL
 ·exact c_lev0 X T hd fun t h' tk' e=>hret t { s with heap:=h',toks:=tk' } e G rfl
 ·refine c_lev X T hd G h1 h2 h3 h4 hc h5 fun r' t s' ho e g o=>?_
  rw [h6 r' ho]
  exact hret t s' e g o
end
section
variable {w:World} {p:Program} {loose:List Str} {mean:ExcName→Option Value} {mg mb:Str→Option Value} {dp un:Nat} {gd:Option (List Code)} {fr:Option (List Env)} {s:Shared} {Q E:Value→Shared→Prop}
variable {h₀:Heap} {L:Addr} {m:PySem.Str→Option Value} {news:List (Addr × Obj)} {g:Obj→List (Addr × Obj)}
private theorem c_levK {a b:PySem.Str} {c r:Int} {ta tb tc:Tok} (F:Fr h₀ L s.heap m) (N:News h₀ L s.heap news) (X:(hd.heap_1 w.params).In h₀) (T:Top p loose mean mg mb h₀) (hdp:dp+4<recursionLimit) (G:AllBare s.gens) (hL:LevIs a b c r)
 (hret:∀ t s',Fr h₀ L s'.heap m→News h₀ L s'.heap news→AllBare s'.gens→s'.os=s.os→Q (.int r t) s') :
 wpAny (model PySem.Challenge.rw_sc0045_01.prog w) (AA dp un gd fr) (call (.ref 35) [.str a ta,.str b tb,.int c tc]) Q E s:=
 c_levI (X.keeps F.keep) (T.keeps F.keep) hdp G hL fun t s' e g o=>hret t s' (F.grownK e) (N.grown e) g o
private theorem fr_ne {h:Heap} {P:Addr} {o:Obj} (F:Fr h₀ L h m) (hp:h.get? P=some o) (ho:∀ es ep,o.data≠.dict es ep):P≠L:=by
 rintro rfl
 obtain ⟨oL,es,ep,hL,r⟩:=F.ns
 rw [hL] at hp
 cases hp
 exact ho _ _ r.1
private theorem c_recordK {P:Addr} {q:P3} {W:Int} {t0 t1 t2 tw ta tn:Tok} {n:Nat} {ps:Array Value} {ahead T':PySem.Str} {ks:List (Bool × Fin 3)}
 (F:Fr h₀ L s.heap m) (N:News h₀ L s.heap news) (X:(hd.heap_1 w.params).In h₀) (T:Top p loose mean mg mb h₀) (hdp:dp+14<recursionLimit) (hu:un+300<cLine) (G:AllBare s.gens)
 (U:UpdF 105 (tbO ps) news g) (hps:TabIs pStr ps) (hW:60≤W∧W≤1000) (hq:InB W q) (TF:TurnFact W) (hP:h₀.get? P=some (lst3 q t0 t1 t2 n)) (ha:ahead.cps.size≤100) (hnm:ks.length≤100)
 (hT:strJoin (ahead.cps.toList.map (fun cd=>(Str.ofString "", chr1 cd))++recI q ks)=T')
 (hret:∀ s' r t P' t0 t1 t2 n ps' ext,TabIs pStr ps'→Fr h₀ L s'.heap m→News h₀ L s'.heap ((r,tup [.str T' t,.ref P'])::(g (tbO ps')++ext))→PAt h₀ ext P' (lst3 (ops (ks.map (·.2)) q) t0 t1 t2 n)→(∀ p∈news,p.1≠r)→AllBare s'.gens→s'.os=s.os→Q (.ref r) s') :
 wpAny (model PySem.Challenge.rw_sc0045_01.prog w) (AA dp un gd fr) (call (.ref 159) [.str ahead ta,.str (uS ks) tn,.ref P,.int W tw]) Q E s:=by
 have hp:=upd_mem (updF_upd (o':=tbO ps) U)
 have hk:=hide_keep F N (hide_mem1 hp)
 subst hT
 refine c_record (X.keeps hk) (T.keeps hk) hdp hu G hW hq TF (hk _ _ hP) (N.get hp) hps ha hnm fun s' r t P' t0 t1 t2 n ps' hps' hb hp' hr hr' hP' G' os'=>?_
 obtain ⟨F',N'⟩:=but_upd1 F N (updF_upd (o':=tbO ps') U) hb hp'
 have N2:=but_new F N' hr' hr
 have off:∀ p∈news,p.1≠r:=fun p hp e=>by have:=(N p hp).1;rw [e,hr] at this;cases this
 cases e:h₀.get? P' with
 | some o=>
  have:=F'.keep _ _ e
  rw [hP'] at this
  cases this
  exact hret s' r t P' t0 t1 t2 n ps' [] hps' F' (by rw [List.append_nil];exact N2) (.inl e) off G' os'
 | none=>
  refine hret s' r t P' t0 t1 t2 n ps' [(P',lst3 (ops (ks.map (·.2)) q) t0 t1 t2 n)] hps' F' (fun p hp=>?_) (.inr (.head _)) off G' os'
  rcases List.mem_cons.mp hp with rfl|hp
  ·exact N2 _ (.head _)
  ·rcases List.mem_append.mp hp with hp|hp
   ·exact N2 _ (.tail _ hp)
   ·rw [List.mem_singleton.mp hp]
    exact ⟨hP',fr_ne F' hP' (fun _ _ h=>by cases h),e⟩
end
end Mine
end
section
open PySem PySem.W PyProof.Rows PySem.Flt PySem.Calls PySem.Builtin PySem.Builtin.Str
namespace Mine
theorem Mkrrrrrrrrrrrrrrrrrrrrrrrr:True:=trivial
structure LedT (W:Int) (q:P3) (l lo:Wd) (i:Nat) (t t':Fin 3) (x l':Wd) (ks:List (Bool × Fin 3)) (U TX TX2:PySem.Str) (Fa Mo:Int) (b:Bool):Prop where
 pre:SlIs (wS lo) none (some (i:Int)) (wS x)
 it:ItemIs (wS lo) (i:Int) (cod t)
 suf:SlIs (wS l) (some (i:Int)) none U
 add:chr1 (codU true t)++U=uS ks
 addl:(chr1 (codU true t)).length+U.length≤1000
 txt:strJoin ((wS x).cps.toList.map (fun cd=>(Str.ofString "", chr1 cd))++recI (ops x q) ks)=TX
 fin:ops (ks.map (·.2)) (ops x q)=ops lo q
 cnt:Txt.count TX (Str.ofString " ")=1
 rep:Txt.replace TX (Str.ofString " ") (Str.ofString "")=TX2
 repl:TX.length≤1000
 low:Txt.lower TX2=wS l'
 lowl:TX2.length≤1000
 near1:LevIs (wS l) TX 2 3
 near2:LevIs TX (wS l) 2 3
 far1:LevIs (wS l) TX 4 Fa
 far2:LevIs TX (wS l) 4 Fa
 moved:LevIs (wS l) (wS l') 9 Mo
 rest:LevIs (wS x) (wS l) 16 (2*((l.length:Int)-i))
 due:(b=true∧Fa=3∧Mo=0)∨(b=false∧Fa=4∧Mo=4)
 it2:ItemIs (wS l) (i:Int) (cod t')
 cmp:(chr1 (cod t') == chr1 (cod t))=b
 full:Full q l'
 take:l'.take (i+1)=lo.take (i+1)
 len:l'.length=lo.length
 xl:x=lo.take i
 xlen:x.length=i
 kl:ks.length≤100
 ll:l.length=lo.length
private theorem led_turn {W:Int} (hW:0<W) {q:P3} (hs:sum3 q=W) {l lo:Wd} {i:Nat} (hl:Full q l) (ho:Full q lo) (hi:i<lo.length) (hx:l.take i=lo.take i) (hlen:l.length=lo.length) (hsm:lo.length≤12) :
  ∃ t t' x l' ks U TX TX2 Fa Mo b,LedT W q l lo i t t' x l' ks U TX TX2 Fa Mo b:=by
 have el:l=lo.take i++l.drop i:=by rw [← hx,List.take_append_drop]
 have eo:lo=lo.take i++lo[i]::lo.drop (i+1):=by rw [← List.drop_eq_getElem_cons hi,List.take_append_drop]
 have hxl:(lo.take i).length=i:=by rw [List.length_take];lia -abstractProof
 generalize hxe:lo.take i=x at *
 generalize hte:lo[i]=t at *
 generalize hue:l.drop i=u at *
 generalize hve:lo.drop (i+1)=v at *
 have hu:Full (ops x q) u:=full_app x (el▸hl)
 have hv:Full (ops x q) (t::v):=full_app x (eo▸ho)
 have hsx:sum3 (ops x q)=W:=by
  have:∀ (x:Wd) (p:P3),sum3 p=W→sum3 (ops x p)=W:=by
   intro x
   induction x with
   | nil=>intro p h;exact h
   | cons k x ih=>intro p h;exact ih (DD k p) ((sumD k p).trans h)
  exact this x q hs
 refine goalP fun G9 hG9=>?_
 obtain ⟨u1,k,u2,e1,g1,g2,g3⟩:=led_split hW hsx hu hv.1
 refine hG9 ?_
 clear hG9
 have hul:u.length=lo.length-i:=by
  have:=congrArg List.length el
  rw [List.length_append,hxl] at this
  lia -abstractProof
 have hlu:u1.length+u2.length+1=lo.length-i:=by
  rw [← hul,e1,List.length_append,List.length_cons];exact Nat.le_antisymm (lqn [_,_] (.gle (.a (.a T0 T1) Tx) (.a T0 (.a T1 Tx)) 1) rfl) (lqn [_,_] (.gle (.a T0 (.a T1 Tx)) (.a (.a T0 T1) Tx) 1) rfl)
 subst e1
 have hks:(((true,t)::(u1++k::u2).map fun k=>(false,k)):List (Bool × Fin 3)).map (·.2)=t::(u1++k::u2):=by simp [Function.comp_def]
 have hpre:PreP q x:=full_pre x (el▸hl)
 have hfull:Full q (x++t::(u1++u2)):=full_glue x hpre g1
 have hsz:x.length+u1.length+u2.length+2≤18:=by lia -abstractProof
 have hrec:=lev_rec x u1 u2 t k hsz g2
 have hnx:=lev_next x u1 u2 t k hsz g2
 rw [← el] at hrec hnx
 have htl:(recL x u1 u2 t).length≤1000:=by
  unfold recL
  simp only [List.length_append,List.length_map,List.length_cons];exact lqn [_,_,_] (.le (.a (.a (.a T0 T1) T2) Ty) (.n 18) 1 (.gle (.a T0 (.a (.a T1 (.a T2 Tx)) Tx)) (.n 1000) 1)) rfl hsz
 obtain ⟨t',w',ht'⟩:∃ t' w',u1++k::u2=t'::w':=by
  cases u1 with
  | nil=>exact ⟨k,u2,rfl⟩
  | cons a u=>exact ⟨a,u++k::u2,rfl⟩
 have hll:l.length≤1000:=by exact lqn [_,_] (.eq T0 T1 1 (.le T1 (.n 12) 1 (.gle T0 (.n 1000) 1))) rfl hlen hsm
 have hit2:l[i]?=some t':=by
  rw [el,List.getElem?_append_right (by exact lqn [_,_] (.eq T0 T1 1 (.gle T0 T1 1)) rfl hxl),hxl,Nat.sub_self,ht'];rfl
 have hb:(chr1 (cod t') == chr1 (cod t))=decide (u1=[]):=by
  rcases g2 with ⟨h1,h2⟩|⟨a,rr,m,r2,h1,h2,h3,h4⟩
  ·subst h1
   simp only [List.nil_append,List.cons.injEq] at ht'
   rw [← ht'.1,h2];simp
  ·rw [h1] at ht'
   simp only [List.cons_append,List.cons.injEq] at ht'
   rw [← ht'.1,chr1_ne (fun e=>h2 (cod_inj _ _ e))]
   rw [h1];simp
 refine ⟨t,t',x,x++t::(u1++u2),(true,t)::(u1++k::u2).map fun k=>(false,k),wS (u1++k::u2),sl (recL x u1 u2 t),sl (x.map cod++(codU true t::(u1.map cod++u2.map cod))),if u1=[] then 3 else 4,if u1=[] then 0 else 4,decide (u1=[]),
  ⟨?_,?_,?_,?_,?_,?_,?_,rec_count x u1 u2 t,rec_strike x u1 u2 t,htl,rec_lower x u1 u2 t,?_,(hrec 2 3 (.inl ⟨rfl,rfl⟩)).1,(hrec 2 3 (.inl ⟨rfl,rfl⟩)).2,(hrec 4 _ (.inr ⟨rfl,rfl⟩)).1,(hrec 4 _ (.inr ⟨rfl,rfl⟩)).2,hnx,?_,?_,?_,hb,hfull,?_,?_,hxe.symm,hxl,?_,hlen⟩⟩
 ·refine ⟨by show (lo.map cod).length≤1000;rw [List.length_map];exact lqn [_] (.le T0 (.n 12) 1 (.gle T0 (.n 1000) 1)) rfl hsm,?_⟩
  rw [sl_upto]
  refine str_ext ?_
  show (lo.map cod).take i=x.map cod
  rw [← hxe,List.map_take]
 ·refine item_at_sl _ _ _ ?_ (by rw [List.length_map];exact lqn [_] (.le T0 (.n 12) 1 (.gle T0 (.n 1000) 1)) rfl hsm)
  rw [List.getElem?_map,List.getElem?_eq_getElem hi,hte];rfl
 ·refine ⟨by show (l.map cod).length≤1000;rw [List.length_map];exact lqn [_,_] (.eq T0 T1 1 (.le T1 (.n 12) 1 (.gle T0 (.n 1000) 1))) rfl hlen hsm,?_⟩
  rw [sl_from]
  refine str_ext ?_
  show (l.map cod).drop i=(u1++k::u2).map cod
  rw [← hue,List.map_drop]
 ·refine str_ext ?_
  show (#[codU true t]++((u1++k::u2).map cod).toArray).toList=((((true,t)::(u1++k::u2).map fun k=>(false,k)):List (Bool × Fin 3)).map fun z=>codU z.1 z.2)
  rw [List.map_cons,List.map_map,Array.toList_append]
  rfl
 ·show 1+((u1++k::u2).map cod).length≤1000
  rw [List.length_map,hul];exact lqn [_,_,_,_] (.eq (.a (.a T0 T1) Tx) T2 (-1) (.le (.a (.a (.a T3 T0) T1) Ty) (.n 18) 1 (.gle (.a Tx T2) (.n 1000) 1))) rfl hlu hsz
 ·rw [g3];exact rec_text x u1 u2 t
 ·rw [hks]
  have h1:=(led_one hW hsx hu hv.1).2.2
  rw [h1]
  have h2:ops (u1++k::u2) (ops x q)=ops l q:=by unfold ops;rw [← List.foldl_append,←el]
  rw [h2]
  exact (exch hW (nP W q).toNat q hs (by have:=nP_nonneg hW q;lia -abstractProof) l lo hl ho).2 q
 ·show (x.map cod++(codU true t::(u1.map cod++u2.map cod))).length≤1000
  simp only [List.length_append,List.length_map,List.length_cons];exact lqn [_,_,_] (.le (.a (.a (.a T0 T1) T2) Ty) (.n 18) 1 (.gle (.a T0 (.a (.a T1 T2) Tx)) (.n 1000) 1)) rfl hsz
 ·have:=lev_rest x (u1++k::u2) (by simp) (by rw [hul];exact lqn [_,_,_,_] (.eq (.a (.a T0 T1) Tx) T2 (-1) (.le (.a (.a (.a T3 T0) T1) Ty) (.n 18) 1 (.gle (.a T3 T2) (.n 40) 1))) rfl hlu hsz)
  rw [← el,hxl] at this
  exact this
 ·by_cases h:u1=[]
  ·left;simp [h]
  ·right;simp [h]
 ·refine item_at_sl _ _ _ ?_ (by rw [List.length_map];exact lqn [_,_] (.eq T0 T1 1 (.le T1 (.n 12) 1 (.gle T0 (.n 1000) 1))) rfl hlen hsm)
  rw [List.getElem?_map,hit2];rfl
 ·rw [List.take_append,hxl]
  have e3:lo.take (i+1)=x++[t]:=by rw [← hxe,←hte,List.take_add_one,List.getElem?_eq_getElem hi];rfl
  rw [e3,List.take_of_length_le (by exact lqn [_,_] (.eq T0 T1 1 (.gle T0 (.a T1 Tx) 1)) rfl hxl)]
  congr 1
  rw [show i+1-i=1 by lia -abstractProof]
  rfl
 ·rw [List.length_append,List.length_cons,List.length_append,hxl];lia -abstractProof
 ·simp only [List.length_cons,List.length_map,hul];exact lqn [_,_,_,_] (.eq (.a (.a T0 T1) Tx) T2 (-1) (.le (.a (.a (.a T3 T0) T1) Ty) (.n 18) 1 (.gle (.a T2 Tx) (.n 100) 1))) rfl hlu hsz
end Mine
end
section
open PySem PySem.W PyProof.Rows PySem.Flt PySem.Calls PySem.Builtin PySem.Builtin.Str
namespace Mine
theorem Mkrrrrrrrrrrrrrrrrrrrrrrrrr:True:=by w_top off;trivial
private theorem ctD1 {x0:Nat} (h0:x0≤1000):x0≤5592405:=lqn [x0] (.le T0 (.n 1000) 1 (.gle T0 (.n 5592405) 1)) rfl h0
private theorem ctD2 {x0:Nat} (h0:x0≤1000):x0≤1048576:=lqn [x0] (.le T0 (.n 1000) 1 (.gle T0 (.n 1048576) 1)) rfl h0
private theorem ctD3 {x0:Int} (h0:¬ x0<0):0≤x0:=lqz [x0] (.nlt T0 Tz 1 (.gle Tz T0 1)) rfl h0
private theorem ctD4 {x0 x1:Nat} (h0:x0<x1):x0<x1:=lqn [x0,x1] (.lt T0 T1 1 (.glt T0 T1 1)) rfl h0
private theorem ctD5 {x0 x1:Nat} (h0:x0=(x1+1)):x1<x0:=lqn [x0,x1] (.eq T0 (.a T1 Tx) (-1) (.glt T1 T0 1)) rfl h0
private theorem ctD6 {x0:Int} (h0:60≤x0):0<x0:=lqz [x0] (.le (.n 60) T0 1 (.glt Tz T0 1)) rfl h0
private theorem ctD7 {x0 x1:Nat} (h0:x0<x1):x0≤x1:=lqn [x0,x1] (.lt T0 T1 1 (.gle T0 T1 1)) rfl h0
section
variable {prog:Program} {w:World} {A:Around} {E:Value→Shared→Prop} {s:Shared} {value slice:PySem.Expr} {x y z:PySem.Str} {t u v:Tok} {h₀:Heap} {L:Addr} {m:PySem.Str→Option Value} {news:List (Addr × Obj)} {Q:Value→Shared→Prop}
private theorem ld_add (e:x++y=z) (hz:x.length+y.length≤1000) (h:∀ t' k,Q (.str z t') { s with toks:=k }):wpAny (model prog w) A (binaryOp .Add (.str x t) (.str y u)) Q E s:=
 SB.add (fun t' k=>by rw [e];exact h t' k) (by rw [sizeLine_eq];exact Nat.le_trans hz (by decide))
private theorem ld_upper (k:Fin 3) (h:Q (.str (chr1 (codU true k)) s.toks) { s with toks:=s.toks+1 }):wpAny (model prog w) A (call (.builtin "str.upper") [.str (chr1 (cod k)) t]) Q E s:=
 SC.upper (fit_upper_cod k) (by rw [upper_cod];exact h)
private theorem ld_lower (hz:x.length≤1000) (e:Txt.lower x=y) (h:Q (.str y s.toks) { s with toks:=s.toks+1 }):wpAny (model prog w) A (call (.builtin "str.lower") [.str x t]) Q E s:=
 SCL.lower (by omega) fun _=>by rw [e];exact h
private theorem ld_count {n:Int} (e:Txt.count x y=n) (h:Q (.int n s.toks) { s with toks:=s.toks+1 }):wpAny (model prog w) A (call (.builtin "str.count") [.str x t,.str y u]) Q E s:=
 SC.count (by rw [e];exact h)
private theorem ld_ne {P Pl:Addr} {ext:List (Addr × Obj)} {p p':P3} {t0 t1 t2 u0 u1 u2:Tok} {n n':Nat} (F:Fr h₀ L s.heap m) (N:News h₀ L s.heap news) (hP:PAt h₀ ext P (lst3 p t0 t1 t2 n)) (hsub:∀ z∈ext,z∈news)
  (hl:h₀.get? Pl=some (lst3 p' u0 u1 u2 n')) (e:p=p') (hu:A.units+64<cLine) (h:Q (.bool false) s):wpAny (model prog w) A (compareOp .NotEq (.ref P) (.ref Pl)) Q E s:=by
 subst e
 refine ne3 ⟨_,pat_get hP F N hsub,rfl,n,rfl⟩ ⟨_,F.keep _ _ hl,rfl,n',rfl⟩ hu ?_
 simpa using h
private theorem toks_pos {M:Model} {A:Around} {α:Type} {x:Sem α} {Q:α→Shared→Prop} {E:Value→Shared→Prop} {h:Heap} {g:Array GenState} {d:Drawn} {tk:Nat} {o:OsState} (hk:0<tk)
  (k:∀ tk',0<tk'→wpAny M A x Q E { heap:=h,gens:=g,drawn:=d,toks:=tk',os:=o }):wpAny M A x Q E { heap:=h,gens:=g,drawn:=d,toks:=tk,os:=o }:=k tk hk
private theorem ld_replace (hu:0<u) (hv:0<v) (huv:u≠v) (hx:x.length≤1000) (e:Txt.replace x (Str.ofString " ") (Str.ofString "")=z) (h:∀ t' k,Q (.str z t') { s with toks:=k }) :
  wpAny (model prog w) A (call (.builtin "str.replace") [.str x t,.str (Str.ofString " ") u,.str (Str.ofString "") v]) Q E s:=
 SC.replaceW (Nat.pos_iff_ne_zero.mp hu) (Nat.pos_iff_ne_zero.mp hv) huv (by decide +kernel) (by omega) (by decide +kernel) fun t' k=>by rw [e];exact h t' k
structure RefAt (vs:List Value) (i:Int) (v:Value):Prop where
 is:∃ j,seqIndex? i vs.length=some j∧vs[j]?=some v
 lo : -(2 ^ 63)≤i
 hi:i<2 ^ 63
private theorem ld_ref {R:Addr} {vs:List Value} {i:Int} {v:Value} (hl:s.heap.IsList R vs.toArray) (hr:RefAt vs i v) (h:Q v s)
  (hs:subscripted slice false (.ref R) (.int i u)=operate [.ref R,.int i u] (getItem (.ref R) (.int i u))):wpAny (model prog w) A (subscriptTail value slice (.ref R) (.int i u)) Q E s:=by
 obtain ⟨j,h1,h2⟩:=hr.is
 by_cases h0:i<0
 ·exact kde_neg hl h0 hr.lo h1 h2 h hs
 ·refine item_at hl (by omega) hr.hi ?_ h hs
  unfold seqIndex? at h1
  rw [if_neg h0] at h1
  simp only at h1
  split at h1
  ·cases h1;exact h2
  ·cases h1
private theorem ld_refK {R:Addr} {vs:List Value} {n:Nat} {i:Int} {v:Value} (F:Fr h₀ L s.heap m) (hS:h₀.get? R=some (lst vs n)) (hr:RefAt vs i v) (h:Q v s)
  (hs:subscripted slice false (.ref R) (.int i u)=operate [.ref R,.int i u] (getItem (.ref R) (.int i u))):wpAny (model prog w) A (subscriptTail value slice (.ref R) (.int i u)) Q E s:=
 ld_ref ⟨_,F.keep _ _ hS,rfl,n,rfl⟩ hr h hs
private theorem refAt_nat {vs:List Value} {i:Nat} {v:Value} (h:vs[i]?=some v) (hz:vs.length≤1000):RefAt vs (i:Int) v:=by
 have hi:=(List.getElem?_eq_some_iff.mp h).1
 refine ⟨⟨i,?_,h⟩,by omega,by omega⟩
 unfold seqIndex?
 have e1:(if (i:Int)<0 then (i:Int)+(vs.length:Int) else (i:Int))=i:=if_neg (by omega)
 rw [e1]
 have e2:(decide (0≤(i:Int)) && decide ((i:Int)<(vs.length:Int)))=true:=by simp;omega
 simp only [e2,if_true,Int.toNat_natCast]
private theorem refAt_last {vs:List Value} {v:Value} {n:Nat} (hn:vs.length=n+1) (h:vs[n]?=some v) (hz:vs.length≤1000):RefAt vs (-1) v:=by
 refine ⟨⟨n,?_,h⟩,by omega,by omega⟩
 unfold seqIndex?
 have e1:(if (-1:Int)<0 then (-1:Int)+(vs.length:Int) else (-1:Int))=(n:Int):=by rw [if_pos (by omega)];omega
 rw [e1]
 have e2:(decide (0≤(n:Int)) && decide ((n:Int)<(vs.length:Int)))=true:=by simp;omega
 simp only [e2,if_true,Int.toNat_natCast]
end
structure LS where
 l:Wd
 t:Tok
 ps:Array Value
private theorem all_LS {P:LS→Prop} (h:∀ a b c,P ⟨a,b,c⟩) (c:LS):P c:=h c.1 c.2 c.3
section
variable {w:World} {p:Program} {loose:List Str} {mean:ExcName→Option Value} {mg mb:Str→Option Value} {dp un:Nat} {gd:Option (List Code)} {fr:Option (List Env)} {s:Shared} {Q E:Value→Shared→Prop}
private theorem c_led {R:Addr} {q:P3} {W:Int} {lw lo:Wd} {tw to tW:Tok} {ps:Array Value} {refs:List Value} {nS:Nat}
 (X:(hd.heap_1 w.params).In (hideAll s.heap [105])) (T:Top p loose mean mg mb (hideAll s.heap [105])) (hdp:dp+18<recursionLimit) (hu:un+400<cLine) (G:AllBare s.gens)
 (hW:60≤W∧W≤1000) (hq:InB W q) (TF:TurnFact W) (hfw:Full q lw) (hfo:Full q lo)
 (hS:(hideAll s.heap [105]).get? R=some (lst refs nS)) (hst:StL (hideAll s.heap [105]) [] refs (scan q lo)) (hp:s.heap.get? 105=some (tbO ps)) (hps:TabIs pStr ps)
 (hret:∀ s' t ps',ButExt [105] s.heap s'.heap→s'.heap.get? 105=some (tbO ps')→AllBare s'.gens→s'.os=s.os→Q (.str (wS lo) t) s') :
 wpAny (model PySem.Challenge.rw_sc0045_01.prog w) (AA dp un gd fr) (call (.ref 166) [.str (wS lw) tw,.str (wS lo) to,.ref R,.int W tW]) Q E s:=by
 revert X
 k_fill
 intro X
 refine wpAny_call ?_
 have hl9:∀ q∈[(105,tbO ps)],s.heap.get? q.1=some q.2∧q.1∈[105]:=by intro p hp';rw [List.mem_singleton.mp hp'];exact ⟨hp,.head _⟩
 have hs3:sum3 q=W:=hq.1
 have hlo:(lo.length:Int)≤12:=by rw [full_len (by omega) lo q hs3 hfo];exact nP_le (by omega) hq
 have hlw:lw.length=lo.length:=(exch (by omega) (nP W q).toNat q hs3 (by have:=nP_nonneg (W:=W) (by omega) q;omega) lw lo hfw hfo).1
 have hlen:(wS lo).length≤1000:=by show (lo.map cod).length≤1000;rw [List.length_map];omega
 have hrl:refs.length=lo.length+1:=by rw [hst.length,scan_len]
 refine goalP fun G9 hG9=>?_
 obtain ⟨Pl,l0,l1,l2,ln,hl1,hl2⟩:=hst.get lo.length (ops lo q) (by have:=scan_get lo q lo.length (Nat.le_refl _);rwa [List.take_length] at this)
 refine hG9 ?_
 clear hG9 G9
 have hlast:RefAt refs (-1) (.ref Pl):=refAt_last hrl hl1 (by omega)
 have hPl:(hideAll s.heap [105]).get? Pl=some (lst3 (ops lo q) l0 l1 l2 ln):=hl2.elim id fun h=>nomatch h
 walk_at "my enterM"
 rename Fr _ _ _ _=>F0
 replace F0:Fr _ _ _ (ml [(Str.ofString "whole", Value.int W tW),(Str.ofString "states", Value.ref R),(Str.ofString "other", Value.str (wS lo) to),(Str.ofString "word", Value.str (wS lw) tw)]):=F0
 k_steps
 rename Fr _ _ _ _=>F1
 rename News _ _ _ _=>N1
 rename IsRange _ _ _ _ _ _ _ _=>aR
 refine' range_K (σ:=LS) (n:=lo.length) (fun c=>[(105,tbO c.ps)]) (fun c=>[(Str.ofString "word", .str (wS c.l) c.t)])
  [Str.ofString "i", Str.ofString "text", Str.ofString "parts", Str.ofString "later", Str.ofString "pair", Str.ofString "near", Str.ofString "far", Str.ofString "moved", Str.ofString "rest", Str.ofString "due", Str.ofString "word"]
  (fun i c=>Full q c.l∧c.l.take i=lo.take i∧c.l.length=lo.length∧TabIs pStr c.ps) ⟨lw,tw,ps⟩ aR ?lz (by omega) rfl rfl rfl F1 N1 ?lhN (by assumption) ?lhk ⟨hfw,by rw [List.take_zero,List.take_zero],hlw,hps⟩ ?lturn ?ldone
 case lz=>show ((lo.map cod).length:Int)=_;rw [List.length_map]
 case lhN=>walk_at "my in"
 case lhk=>walk_at "my all"
 case ldone=>
  refine all_LS ?_
  intro l t ps' u s4 hq1 F4 N4 G4 o4
  have h1:=hq1.1
  have h2:=hq1.2.1
  have h3:=hq1.2.2.1
  have h4:=hq1.2.2.2
  clear hq1
  (refine Fr.lets F4 ?_;clear F4;intro m9 F4)
  (try dsimp only at h1 h2 h3 h4 F4 N4);(try dsimp only)
  have el:l=lo:=by
   rw [List.take_length,←h3,List.take_length] at h2;exact h2
  subst el
  clear F1 N1 aR
  k_steps
  rename Fr _ _ _ _=>Fz
  exact hret _ _ _ (but_of Fz) (News.get (by k_asm) (by k_mem)) (by assumption) (by walk_at "my os")
 case lturn=>
  intro i ti
  refine all_LS ?_
  intro l t ps' u I oI s4 hi hq1 hO F4 N4 G4 o4
  have h1:=hq1.1
  have h2:=hq1.2.1
  have h3:=hq1.2.2.1
  have h4:=hq1.2.2.2
  clear hq1
  (refine Fr.lets F4 ?_;clear F4;intro m9 F4)
  dsimp only at h1 h2 h3 h4 hO F4 N4
  replace hO:=off1_of hO;(try walk_at "my off")
  refine goalP fun G9 hG9=>?_
  obtain ⟨tt,tt',x,l',ks,U,TX,TX2,Fa,Mo,b,hT⟩:=led_turn (by omega) hs3 h1 hfo hi h2 h3 (by omega)
  refine hG9 ?_
  clear hG9 G9
  refine goalP fun G9 hG9=>?_
  obtain ⟨Pi,i0,i1,i2,iN,hi1,hi2⟩:=hst.get i (ops x q) (by rw [hT.xl];exact scan_get lo q i (by omega))
  refine hG9 ?_
  clear hG9 G9
  have hPi:(hideAll s.heap [105]).get? Pi=some (lst3 (ops x q) i0 i1 i2 iN):=hi2.elim id fun h=>nomatch h
  have hri:RefAt refs (i:Int) (.ref Pi):=refAt_nat hi1 (by omega)
  have hqi:InB W (ops x q):=inB_ops (by omega) x q hq
  have a1:=hT.pre
  have a2:=hT.it
  have a3:=hT.suf
  have a4:=hT.add
  have a5:=hT.addl
  have a6:=hT.txt
  have a7:(wS x).cps.size≤100:=by show (x.map cod).toArray.size≤100;rw [List.size_toArray,List.length_map,hT.xlen];omega
  have a8:=hT.kl
  have a9:=hT.cnt
  have b1:=hT.rep
  have b2:=hT.low
  have b3:=hT.lowl
  have b4:=hT.moved
  have b5:=hT.rest
  have b6:=hT.it2
  have b7:=hT.cmp
  have b8:=hT.fin
  have b9:=hT.repl
  have c1:=hT.near1
  have c2:=hT.near2
  have c3:=hT.far1
  have c4:=hT.far2
  have hdue:=hT.due
  have d1:(wS l).length≤1000:=by show (l.map cod).length≤1000;rw [List.length_map];omega
  have d2:(wS l).length=l.length:=by show (l.map cod).length=_;rw [List.length_map]
  clear F1 N1 aR
  rcases hdue with ⟨rfl,rfl,rfl⟩|⟨rfl,rfl,rfl⟩
  ·k_steps
   all_goals
    rename Fr _ _ _ _=>F3
    rename News _ _ _ _=>N3
    rename TabIs pStr _=>hps9
    dsimp only [MLoopPost]
    refine ⟨⟨l',?ea0,?ea1⟩,_,_,F3,N3,?ea2,?ea3,by assumption,?ea4,?ea5,?ea6,hT.full,hT.take,hT.len,?ea7⟩
    case ea2=>walk_at "my in"
    case ea3=>walk_at "my offgoal"
    case ea4=>walk_at "my os"
    case ea5=>walk_at "my all"
    case ea6=>walk_at "my same"
    case ea7=>exact hps9
  ·k_steps
   all_goals
    rename Fr _ _ _ _=>F3
    rename News _ _ _ _=>N3
    rename TabIs pStr _=>hps9
    dsimp only [MLoopPost]
    refine ⟨⟨l',?eb0,?eb1⟩,_,_,F3,N3,?eb2,?eb3,by assumption,?eb4,?eb5,?eb6,hT.full,hT.take,hT.len,?eb7⟩
    case eb2=>walk_at "my in"
    case eb3=>walk_at "my offgoal"
    case eb4=>walk_at "my os"
    case eb5=>walk_at "my all"
    case eb6=>walk_at "my same"
    case eb7=>exact hps9
end
end Mine
end
section
open PySem PySem.W PyProof.Rows PySem.Flt PySem.Calls PySem.Spec
namespace Mine
theorem Mkrrrrrrrrrrrrrrrrrrrrrrrrrr:True:=trivial
section
variable {prog:Program} {w:World} {A:Around} {E:Value→Shared→Prop} {s:Shared} {h₀:Heap} {L R:Addr} {m:PySem.Str→Option Value} {news:List (Addr × Obj)} {Q:Value→Shared→Prop}
private theorem lz_sumZ {items:Array Value} (hh:A.handled=none) (F:Fr h₀ L s.heap m) (N:News h₀ L s.heap news) (hl:s.heap.IsList R items) (hall:AllInts items)
  (h:∀ z h' tk t,Fr h₀ L h' m→News h₀ L h' news→Q (.int z t) { s with heap:=h',toks:=tk }):wpAny (model prog w) A (call (.builtin "sum") [.ref R]) Q E s:=by
 obtain ⟨xs,rfl⟩:=hall.items
 exact sum_intListG hh hl fun h' tk t' hk=>h _ h' tk t' (F.keeps hk) fun p hp=>⟨hk _ _ (N p hp).1,(N p hp).2⟩
end
section
variable {prog:Program} {w:World} {A:Around} {s:Shared} {K:Frag} {p:Program} {loose:List PySem.Str} {mean:ExcName→Option Value} {mg mb:PySem.Str→Option Value} {R:Result→Shared→Prop}
private theorem mut_defC {name qual:PySem.Str} {params:Arguments} {body:List Stmt} {scope:Scope} {dV kV doc pm cdv ct oc:Value} {an od:Option Addr} {osl:Array (Option Value)} {f:Addr} {args:Args} {binds:List (PySem.Str × Value)}
  (hide:List Addr) (led:List (Addr × Obj)) (hl:∀ q∈led,s.heap.get? q.1=some q.2∧q.1∈hide)
  (X:K.In (hideAll s.heap hide)) (T:Top p loose mean mg mb (hideAll s.heap hide))
  (ho:K.lookup f=some ⟨oc,od,.func (fnOf name qual params body scope dV kV doc pm an cdv ct),osl⟩) (hcd:codeIn K cdv qual=true) (hroom:A.depth<recursionLimit)
  (hbind:BindsTo s (fnOf name qual params body scope dV kV doc pm an cdv ct) args binds) (hkind:(binds.all fun y=>scope.names.lookup y.1 == some .local || scope.names.lookup y.1 == some .cell)=true)
  (hnd:((cellsFrom 0 scope.names []).map (·.1)).Nodup)
  (h:∀ L' h₁ tk cells,Fr (hideAll s.heap hide) L' h₁ (bindL (envOfC qual scope L' f cdv).kindOf binds fun _=>none)→News (hideAll s.heap hide) L' h₁ (cells++led) →
   CellsAre (bindC (envOfC qual scope L' f cdv).kindOf binds fun _=>none) (cellsFrom (L'+1) scope.names []) cells →
   wpAny (model prog w) (A.deeper (envOfC qual scope L' f cdv)) (execs body (envOfC qual scope L' f cdv))
    (fun fl s'=>R (.ok (.ret (match fl with | .ret v=>v|_=>.none))) s') (fun _ _=>False)
    { s with heap:=h₁,toks:=tk })
  (hco:scope.isCoroutine=false) (hgen:scope.isGenerator=false) (hk:scope.kind = .function):codeAny (model prog w) A (.call (.ref f) args) R s:=by
 have up:∀ b o,(hideAll s.heap hide).get? b=some o→s.heap.get? b=some o:=fun b o e=>of_hideAll _ e
 refine codeAny_call_function hroom (up _ _ (X _ _ ho)) rfl hco hgen rfl (codeRec_of (X.keeps up) hcd) (hbind _ _ _ _ ?_)
 refine wpAny_newFunctionEnv_cells hk (kindsX hkind _) fun env' he s' x=>?_
 subst he
 refine ⟨(T.nolimit.keeps up).keeps x.toInCall.keep,codeAny_func ?_⟩
 obtain ⟨h₁,tk,rfl,_⟩:=x.done
 have keep:=x.toInCall.keep
 obtain ⟨cells,NC,Y⟩:=Cl.news (h₀:=hideAll s.heap hide) (Nat.le_of_eq (hideAll_size _ _)) fun n c hm=>⟨x.cell n c (lookup_of_mem_nodup (cellsFrom_names scope.names 0 (s.heap.objs.size+1) [] [] rfl▸hnd) hm),x.above n c hm⟩
 refine wpAny_mono (h s.heap.objs.size h₁ tk cells ⟨x.toInCall.ns,fun b o e=>keep b o (up b o e),Nat.le_of_eq (hideAll_size _ _)⟩ (fun q hq=>?_) Y) (fun _ _ x=>x) fun _ _ x=>x.elim
 rcases List.mem_append.mp hq with hq|hq
 ·exact NC q hq
 ·exact ⟨keep _ _ (hl q hq).1,Nat.ne_of_lt (Heap.lt_size (hl q hq).1),hideAll_none _ (hl q hq).2⟩
private theorem mut_defCL {name qual:PySem.Str} {params:Arguments} {body:List Stmt} {scope:Scope} {dV kV doc pm cdv ct oc:Value} {an od:Option Addr} {osl:Array (Option Value)} {f:Addr} {args:Args} {binds:List (PySem.Str × Value)}
  (hide:List Addr) (led:List (Addr × Obj)) (hl:∀ q∈led,s.heap.get? q.1=some q.2∧q.1∈hide)
  (X:K.In (hideAll s.heap hide)) (T:Top p loose mean mg mb (hideAll s.heap hide))
  (ho:K.lookup f=some ⟨oc,od,.func (fnOf name qual params body scope dV kV doc pm an cdv ct),osl⟩) (hcd:codeIn K cdv qual=true) (hroom:A.depth<recursionLimit)
  (hbind:BindsTo s (fnOf name qual params body scope dV kV doc pm an cdv ct) args binds) (hkind:(binds.all fun y=>scope.names.lookup y.1 == some .local || scope.names.lookup y.1 == some .cell)=true)
  (hnd:((cellsFrom 0 scope.names []).map (·.1)).Nodup)
  (h:∀ L' h₁ tk cells,let B:=A.deeper (envOfC qual scope L' f cdv);Fr (hideAll s.heap hide) L' h₁ (bindL (envOfC qual scope L' f cdv).kindOf binds fun _=>none)→News (hideAll s.heap hide) L' h₁ (cells++led) →
   CellsAre (bindC (envOfC qual scope L' f cdv).kindOf binds fun _=>none) (cellsFrom (L'+1) scope.names []) cells →
   wpAny (model prog w) B (execs body (envOfC qual scope L' f cdv))
    (fun fl s'=>R (.ok (.ret (match fl with | .ret v=>v|_=>.none))) s') (fun _ _=>False)
    { s with heap:=h₁,toks:=tk })
  (hco:scope.isCoroutine=false) (hgen:scope.isGenerator=false) (hk:scope.kind = .function):codeAny (model prog w) A (.call (.ref f) args) R s:=mut_defC hide led hl X T ho hcd hroom hbind hkind hnd h hco hgen hk
end
section
variable {prog:Program} {w:World} {A:Around} {E:Value→Shared→Prop} {s:Shared} {h₀:Heap} {L R:Addr} {m:PySem.Str→Option Value} {news:List (Addr × Obj)}
private theorem lz_slice3 {value slice:PySem.Expr} {S:Addr} {vs:List Value} {ns:List Int} {k:Int} {tk t3:Tok} {ops:List Value} {Q:Value→Shared→Prop} (F:Fr h₀ L s.heap m) (N:News h₀ L s.heap news) (hS:h₀.IsList S vs.toArray) (hi:IntsAre vs ns) (hz:vs.length≤1000)
  (h:∀ items h',Fr h₀ L h' m→News h₀ L h' ((s.heap.objs.size+1,{ cls:=.type "list", data:=.seq items })::news)→AllInts items→Q (.ref (s.heap.objs.size+1)) { s with heap:=h' })
  (hs:subscripted slice false (.ref S) (.ref s.heap.objs.size)=operate ops (getItem (.ref S) (.ref s.heap.objs.size)))
  (ht:∀ r,letTemporaryGo value (.ref S) r=pure ()) :
  wpAny (model prog w) A (subscriptTail value slice (.ref S) (.ref s.heap.objs.size)) Q E { s with heap:=s.heap.push { cls:=.type "slice", data:=.fields #[.int k tk,.none,.int 3 t3] } }:=
 slice_list3 F N (Fr.lst F hS) (.int _ _) .none (.int _ _) (by decide) (fun h' F' N'=>h _ h' F' N' (by
  have:=(hi.pick (some k) none (some 3)).allInts
  simpa using this)) hs ht (by rw [sizeLine_eq,List.size_toArray];lia)
end
structure Draw:Prop where
private theorem lz_mod {prog:Program} {w:World} {A:Around} {E:Value→Shared→Prop} {s:Shared} {Q:Value→Shared→Prop} {a b:Int} {t u:Tok} (_:Draw) (hb:0<b) (h:∀ r,0≤r→r<b→Q (.int r s.toks) { s with toks:=s.toks+1 }):wpAny (model prog w) A (binaryOp .Mod (.int a t) (.int b u)) Q E s:=
 PyProof.Rows.mod_int (by lia) (h _ (Int.fmod_nonneg_of_pos _ hb) (Int.fmod_lt_of_pos _ hb))
end Mine
end
section
open PySem PySem.W PyProof.Rows PySem.Flt
namespace Mine
section
variable {M:PySem.Model} {A:Around} {env:Env} {E:Value→Shared→Prop}
private theorem execs_twoG {Γ:Ctx} (hΓ:Γ.In A):∀ {a b:List Stmt} {Q:Flow→Shared→Prop} {s:Shared} {p:Pos},Sem.wp M Γ (execs a env) (fun f _ s'=>match f with | .next=>wpAny M A (execs b env) Q E s'|f=>Q f s') (fun e _ s'=>E e s') p s→Sem.wp M Γ (execs (a++b) env) (fun f _ s'=>Q f s') (fun e _ s'=>E e s') p s
 | [],b,Q,s,p,h=>h Γ p hΓ
 | st::a,b,Q,s,p,h=>by
  show Sem.wp M Γ (execs (st::(a++b)) env) _ _ p s
  rw [execs_cons,Sem.wp_bind'] at h ⊢
  refine Sem.wp_mono M Γ _ (fun f p' s' h2=>?_) (fun _ _ _ h2=>h2) _ _ h
  cases f with
  | next=>exact execs_twoG hΓ h2
  | _=>exact h2
private theorem seq_split {a b:List Stmt} {Q:Flow→Shared→Prop} {s:Shared} (P:Shared→Prop) (h1:wpAny M A (execs a env) (fun f s'=>Held (f = .next∧P s')) E s) (h2:∀ s',P s'→wpAny M A (execs b env) Q E s'):wpAny M A (execs (a++b) env) Q E s:=
 fun Γ p hΓ=>execs_twoG hΓ (wpAny_mono h1 (Q':=fun f s'=>match f with | .next=>wpAny M A (execs b env) Q E s'|f=>Q f s') (fun f s' hh=>by obtain ⟨rfl,h⟩:=hh.get;exact h2 s' h) (fun _ _ e=>e) Γ p hΓ)
noncomputable abbrev AtK (h₀:Heap) (L:Addr) (o₀:OsState) (ps:List (PySem.Str × Value)) (led:List (Addr × Obj)) (s':Shared) (C:Prop):Prop:=∀ u,Fr h₀ L s'.heap (kstB u ps)→News h₀ L s'.heap led→AllBare s'.gens→s'.os=o₀→C
private theorem At.use {h₀:Heap} {L:Addr} {o₀:OsState} {ps:List (PySem.Str × Value)} {led news:List (Addr × Obj)} {m:PySem.Str→Option Value} {s:Shared} {C:Prop} (k:AtK h₀ L o₀ ps led s C) (F:Fr h₀ L s.heap m) (N:News h₀ L s.heap news)
  (hp:∀ p∈ps,m p.1=some p.2) (hl:∀ p∈led,p∈news) (G:AllBare s.gens) (o:s.os=o₀):C:=by
 have e:kstB m ps=m:=funext fun z=>kstB_eq hp fun _=>rfl
 exact k m (e.symm▸F) (fun p hp=>N p (hl p hp)) G o
noncomputable abbrev AtS (h₀:Heap) (L:Addr) (o₀:OsState) (S:List PySem.Str) (m₀:PySem.Str→Option Value) (ps:List (PySem.Str × Value)) (led:List (Addr × Obj)) (s':Shared) (C:Prop):Prop:=∀ u,Same S u m₀→Fr h₀ L s'.heap (kstB u ps)→News h₀ L s'.heap led→AllBare s'.gens→s'.os=o₀→C
private theorem At.useS {h₀:Heap} {L:Addr} {o₀:OsState} {S:List PySem.Str} {m₀:PySem.Str→Option Value} {ps:List (PySem.Str × Value)} {led news:List (Addr × Obj)} {m:PySem.Str→Option Value} {s:Shared} {C:Prop} (k:AtS h₀ L o₀ S m₀ ps led s C) (F:Fr h₀ L s.heap m) (N:News h₀ L s.heap news)
  (hs:Same S m m₀) (hp:∀ p∈ps,m p.1=some p.2) (hl:∀ p∈led,p∈news) (G:AllBare s.gens) (o:s.os=o₀):C:=by
 have e:kstB m ps=m:=funext fun z=>kstB_eq hp fun _=>rfl
 exact k m hs (e.symm▸F) (fun p hp=>N p (hl p hp)) G o
private theorem Same.kst0 {S:List PySem.Str} {u m₀:PySem.Str→Option Value} (h:Same S u m₀):Same S (kstB u []) m₀:=h
private theorem Same.kst {S:List PySem.Str} {u m₀:PySem.Str→Option Value} {x:PySem.Str} {v:Value} {ps:List (PySem.Str × Value)} (hx:S.contains x=true) (h:Same S (kstB u ps) m₀):Same S (kstB u ((x,v)::ps)) m₀:=fun z hz=>by
 show (if z=x then some v else kstB u ps z)=m₀ z
 by_cases e:z=x
 ·rw [e,hx] at hz;cases hz
 ·rw [if_neg e];exact h z hz
end
private theorem apart7 {a b1 b2 b3 b4 b5 b6 b7 D:Nat} {R:Prop} (h:a<D∧b1<D∧b2<D∧b3<D∧b4<D∧b5<D∧b6<D∧b7<D∧R):∀ b∈[b1,b2,b3,b4,b5,b6,b7],Apart b D:=
 (fcons (Nat.ne_of_lt h.2.1) (fcons (Nat.ne_of_lt h.2.2.1) (fcons (Nat.ne_of_lt h.2.2.2.1) (fcons (Nat.ne_of_lt h.2.2.2.2.1) (fcons (Nat.ne_of_lt h.2.2.2.2.2.1) (fcons (Nat.ne_of_lt h.2.2.2.2.2.2.1) (fcons (Nat.ne_of_lt h.2.2.2.2.2.2.2.1) (List.forall_mem_nil _))))))))
private theorem apartL {b1 b2 b3 b4 b5 b6 b7 D:Nat} (h1:Apart b1 D) (h2:Apart b2 D) (h3:Apart b3 D) (h4:Apart b4 D) (h5:Apart b5 D) (h6:Apart b6 D) (h7:Apart b7 D):∀ b∈[b1,b2,b3,b4,b5,b6,b7],Apart b D:=
 (fcons h1 (fcons h2 (fcons h3 (fcons h4 (fcons h5 (fcons h6 (fcons h7 (List.forall_mem_nil _))))))))
end Mine
end
section
open PySem PySem.W PyProof.Rows PySem.Flt PySem.Calls
namespace Mine
theorem Mkrrrrrrrrrrrrrrrrrrrrrrrrrrr:True:=by w_top off;trivial
private theorem ctL1 {x0:Nat} (h0:x0≤3):x0≤1000:=lqn [x0] (.le T0 (.n 3) 1 (.gle T0 (.n 1000) 1)) rfl h0
private theorem ctL2 {x0:Int} (h0:60≤x0):0<x0:=lqz [x0] (.le (.n 60) T0 1 (.glt Tz T0 1)) rfl h0
private theorem ctL3 {x0:Int} (h0:x0≤12):(0+x0)≤12:=lqz [x0] (.le T0 (.n 12) 1 (.gle (.a Tz T0) (.n 12) 1)) rfl h0
private theorem ctL4 {x0:Nat} (h0:105<x0) (h1:x0=98):False:=lqn [x0] (.lt (.n 105) T0 1 (.eq T0 (.n 98) 1 (.o))) rfl h0 h1
private theorem ctL5 {x0:Nat} (h0:105<x0) (h1:x0=105):False:=lqn [x0] (.lt (.n 105) T0 1 (.eq T0 (.n 105) 1 (.o))) rfl h0 h1
private theorem ctL6 {x0 x1:Nat}:0<((x0+x1)+1):=lqn [x0,x1] (.glt Tz (.a (.a T0 T1) Tx) 1) rfl
private theorem ctL7 {x0 x1:Nat} (h0:x0=(x1+1)) (h1:x0≤48):x1≤48:=lqn [x0,x1] (.eq T0 (.a T1 Tx) (-1) (.le T0 (.n 48) 1 (.gle T1 (.n 48) 1))) rfl h0 h1
private theorem ctL8 {x0 x1:Nat} (h0:x0=(2*x1)) (h1:x1≤48):((1+1)+x0)≤1000:=lqn [x0,x1] (.eq T0 (.m Ty T1) 1 (.le T1 (.n 48) 2 (.gle (.a (.a Tx Tx) T0) (.n 1000) 1))) rfl h0 h1
private theorem ctL9 {x0 x1:Nat} (h0:x0=(2*x1)) (h1:x1≤48):(x0+1)≤1000:=lqn [x0,x1] (.eq T0 (.m Ty T1) 1 (.le T1 (.n 48) 2 (.gle (.a T0 Tx) (.n 1000) 1))) rfl h0 h1
private theorem ctL10 {x0 x1:Nat} (h0:x0=(2*x1)) (h1:x1≤48):((x0+1)+1)≤1000:=lqn [x0,x1] (.eq T0 (.m Ty T1) 1 (.le T1 (.n 48) 2 (.gle (.a (.a T0 Tx) Tx) (.n 1000) 1))) rfl h0 h1
private theorem ctL11 {x0 x1 x2:Int} (h0:x0=x1):(x2+x0)=(x2+x1):=Int.le_antisymm (lqz [x0,x1,x2] (.eq T0 T1 1 (.gle (.a T2 T0) (.a T2 T1) 1)) rfl h0) (lqz [x0,x1,x2] (.eq T0 T1 (-1) (.gle (.a T2 T1) (.a T2 T0) 1)) rfl h0)
private theorem ctL12 {x0 x1:Nat} (h0:(x0+x1)≤1000):x0≤16777216:=lqn [x0,x1] (.le (.a T0 T1) (.n 1000) 1 (.gle T0 (.n 16777216) 1)) rfl h0
private theorem ctL13 {x0 x1:Nat} (h0:x0≤48) (h1:x0=(x1+1)):x1≤48:=lqn [x0,x1] (.le T0 (.n 48) 1 (.eq T0 (.a T1 Tx) (-1) (.gle T1 (.n 48) 1))) rfl h0 h1
private theorem ctL14 {x0:Nat} (h0:x0≤48):x0≤1000:=lqn [x0] (.le T0 (.n 48) 1 (.gle T0 (.n 1000) 1)) rfl h0
private theorem ctL15 {x0:Int} (h0:x0<0):x0≤0:=lqz [x0] (.lt T0 Tz 1 (.gle T0 Tz 1)) rfl h0
private theorem ctL16 {x0 x1:Nat} (h0:x0≤48) (h1:x1≤3):(x0+x1)≤1000:=lqn [x0,x1] (.le T0 (.n 48) 1 (.le T1 (.n 3) 1 (.gle (.a T0 T1) (.n 1000) 1))) rfl h0 h1
section
variable {w:World} {p:Program} {loose:List Str} {mean:ExcName→Option Value} {mg mb:Str→Option Value} {dp un:Nat} {gd:Option (List Code)} {fr:Option (List Env)} {s:Shared} {Q E:Value→Shared→Prop}
private theorem c_play {P Fg:Addr} {q:P3} {W:Int} {t0 t1 t2 tw:Tok} {n:Nat} {pl pq:Array Value} {fvs:List Value} {fns:List Int}
 (X:(hd.heap_1 w.params).In (hideAll s.heap [98,105])) (T:Top p loose mean mg mb (hideAll s.heap [98,105])) (hdp:dp+14<recursionLimit) (hu:un+300<cLine) (G:AllBare s.gens)
 (hW:60≤W∧W≤1000) (hq:InB W q) (TF:TurnFact W)
 (hP:(hideAll s.heap [98,105]).get? P=some (lst3 q t0 t1 t2 n)) (hF:(hideAll s.heap [98,105]).IsList Fg fvs.toArray) (hfi:IntsAre fvs fns) (hfl:fns.length=12)
 (hp:s.heap.get? 98=some (tbO pl)) (hpl:TabIs pLen pl) (hp2:s.heap.get? 105=some (tbO pq)) (hpq:TabIs pStr pq)
 (hret:∀ s' r S t refs nS pl' pq' l,TabIs pLen pl'→TabIs pStr pq'→ButExt [98,105] s.heap s'.heap→s'.heap.get? 98=some (tbO pl')→s'.heap.get? 105=some (tbO pq')→s.heap.get? r=none→s'.heap.get? r=some (tup [.str (wS l) t,.ref S]) →
  s.heap.get? S=none→s'.heap.get? S=some (lst refs nS)→StL s'.heap [] refs (scan q l)→Full q l→AllBare s'.gens→s'.os=s.os→Q (.ref r) s') :
 wpAny (model PySem.Challenge.rw_sc0045_01.prog w) (AA dp un gd fr) (call (.ref 152) [.ref P,.int W tw,.ref Fg]) Q E s:=by
 revert X
 k_fill
 intro X
 refine wpAny_call ?_
 have hl9:∀ q∈[(98,tbO pl),(105,tbO pq)],s.heap.get? q.1=some q.2∧q.1∈[98,105]:=by
  intro p hp'
  rcases List.mem_cons.mp hp' with rfl|hp'
  ·exact ⟨hp,.head _⟩
  ·rw [List.mem_singleton.mp hp'];exact ⟨hp2,.tail _ (.head _)⟩
 walk_at "my enterM"
 rename Fr _ _ _ _=>F0
 replace F0:Fr _ _ _ (ml [(Str.ofString "figures", Value.ref Fg),(Str.ofString "whole", Value.int W tw),(Str.ofString "parts", Value.ref P)]):=F0
 k_steps
 rename_i L1 hA vA bA tkB hB x dx hsx tdx ex Ax lx1 lx2 hC mC tkC tkD hD y dy hsy tdy ey tqy Ay ly1 ly2 hE mE tkE S hF' lS hG mG F' N' hH tkH tr ur vr aR aF aN aK
 have ap0:Apart x dx:=by unfold Apart;omega
 have ap1:Apart x y:=by unfold Apart;omega
 have ap2:Apart x dy:=by unfold Apart;omega
 have ap3:Apart x S:=by unfold Apart;omega
 have ap4:Apart x 98:=by unfold Apart;omega
 have ap5:Apart x 105:=by unfold Apart;omega
 have ap6:Apart dx y:=by unfold Apart;omega
 have ap7:Apart dx dy:=by unfold Apart;omega
 have ap8:Apart dx S:=by unfold Apart;omega
 have ap9:Apart dx 98:=by unfold Apart;omega
 have ap10:Apart dx 105:=by unfold Apart;omega
 have ap11:Apart y dy:=by unfold Apart;omega
 have ap12:Apart y S:=by unfold Apart;omega
 have ap13:Apart y 98:=by unfold Apart;omega
 have ap14:Apart y 105:=by unfold Apart;omega
 have ap15:Apart dy S:=by unfold Apart;omega
 have ap16:Apart dy 98:=by unfold Apart;omega
 have ap17:Apart dy 105:=by unfold Apart;omega
 have ap18:Apart S 98:=by unfold Apart;omega
 have ap19:Apart S 105:=by unfold Apart;omega
 have ap98:Apart 98 105:=by unfold Apart;omega
 have ap_S98:S≠98:=neN (by omega)
 have ap_S105:S≠105:=neN (by omega)
 clear lx1 lx2 ly1 ly2 lS
 refine range_K (σ:=List Value × Nat × List (Addr × Obj)) (n:=3) (fun c=>(x,accO dx c.1 c.2.1)::(dx,szD hsx tdx 3 ?tkA ex)::(y,accO dy [] 0)::(dy,szD hsy tdy 0 tqy ey)::(S,lst [.ref P] 0)::(98,tbO pl)::(105,tbO pq)::c.2.2) (fun _=>[]) [Str.ofString "k"]
  (fun i c=>ItemsL c.2.2 c.1 ((negsTo i q).map wI)∧OwnOff c.2.2 [x,dx,y,dy,S,98,105]) ([],0,[]) aR rfl (by decide) rfl rfl rfl aF aN ?_ G (fun _ h=>nomatch h) ?_ ?_ ?_
 rotate_left
 ·(try dsimp only);first|walk_at "my in" | kst_in
 ·exact ⟨.nil,fun _ h=>nomatch h⟩
 ·intro i t
  refine all_b ?_
  intro its n1 old u I oI s2 hi hq1 hO F2 N2 G2 o2
  have hit:=hq1.1
  have hoff:=hq1.2
  clear hq1
  (refine Fr.lets F2 ?_;clear F2;intro m9 F2)
  dsimp only at hit hoff hO N2
  replace hO:=off1_of hO;(try walk_at "my off")
  have hz:its.length≤1000:=by
   rw [hit.length,List.length_map];have:=negsTo_len i q;omega
  obtain ⟨k3,rfl⟩:∃ k:Fin 3,i=k.val:=⟨⟨i,hi⟩,rfl⟩
  clear aF aN aK aR F' N'
  k_steps
  ·rename Fr _ _ _ _=>F3
   rename News _ _ _ _=>N3
   rename part k3 q<0=>hneg
   dsimp only [MLoopPost]
   refine ⟨(its++[.ref ?nr8],n1+1,(?nr8,tup [.str (Str.ofString " ") ?tq1,.str (chr1 (cod k3)) ?tq2])::old),_,_,F3,N3,?_,?_,G2,o2,?_,?_,?_⟩
   rotate_left 3
   ·(try dsimp only);first|walk_at "my in" | kst_in
   ·walk_at "my offgoal"
   ·intro p hp;cases hp
   ·walk_at "my same"
   ·refine ⟨?_,?_⟩
    ·dsimp only
     rw [negsTo_succ hi,if_pos hneg,List.map_append]
     exact hit.snoc (fun p hp=>.tail _ hp) (.head _)
    ·walk_at "my ownoff"
  ·rename Fr _ _ _ _=>F3
   rename News _ _ _ _=>N3
   rename ¬ part k3 q<0=>hneg
   dsimp only [MLoopPost]
   refine ⟨(its,n1,old),_,_,F3,N3,?_,?_,G2,o2,?_,?_,?_⟩
   ·(try dsimp only);first|walk_at "my in" | kst_in
   ·walk_at "my offgoal"
   ·intro p hp;cases hp
   ·walk_at "my same"
   ·refine ⟨?_,hoff⟩
    dsimp only
    rw [negsTo_succ hi,if_neg hneg,List.append_nil]
    exact hit
 ·refine all_b ?_
  intro its n1 old u s2 hq1 F2 N2 G2 o2
  have hit:=hq1.1
  have hoff:=hq1.2
  clear hq1
  (refine Fr.lets F2 ?_;clear F2;intro m9 F2)
  (try dsimp only at hit hoff N2);(try dsimp only)
  clear aF aN aK aR F' N'
  k_steps
  unfold Stop
  rename Fr _ _ _ _=>F1
  rename News _ _ _ _=>N1
  have hnq:=nP_le (by omega) hq
  have hnq0:=nP_nonneg (W:=W) (by omega) q
  have hnl:=negsTo_len 3 q
  obtain ⟨ub,hs0⟩:=Fr.base (S:=[Str.ofString "text", Str.ofString "rest", Str.ofString "piece", Str.ofString "left", Str.ofString "size", Str.ofString "name", Str.ofString "k", Str.ofString "parts", Str.ofString "j", Str.ofString "taken"]) (ps:=[(Str.ofString "whole", .int W tw),(Str.ofString "figures", .ref Fg),(Str.ofString "waiting", .ref x),(Str.ofString "log", .ref y),(Str.ofString "states", .ref S)]) F1 (by walk_at "my all")
  refine while_KS (m₀:=kstB ub [(Str.ofString "whole", .int W tw),(Str.ofString "figures", .ref Fg),(Str.ofString "waiting", .ref x),(Str.ofString "log", .ref y),(Str.ofString "states", .ref S)]) (fun c:PS=>(x,accO dx c.its c.n1)::(dx,szD hsx c.td c.sz c.ts ex)::(y,accO dy c.lits c.n2)::(dy,szD hsy tdy 0 tqy ey)::(S,lst c.refs c.nS)::(98,tbO c.pl)::(105,tbO c.pq)::c.old)
   (fun c=>[(Str.ofString "parts", .ref c.Pc),(Str.ofString "size", .int c.sz c.tz),(Str.ofString "taken", .int c.tn c.tt),(Str.ofString "name", .str c.nm c.tm)])
   [Str.ofString "text", Str.ofString "rest", Str.ofString "piece", Str.ofString "left", Str.ofString "size", Str.ofString "name", Str.ofString "k", Str.ofString "parts", Str.ofString "j", Str.ofString "taken"]
   (PInv (hideAll s.heap [98,105]) q W x dx y dy S) (pmu q W)
   { its:=its,n1:=n1,lits:=[],n2:=0,refs:=[.ref P],nS:=0,td:=tdx,ts:=?ts,sz:=3,Pc:=P,c0:=t0,c1:=t1,c2:=t2,nc:=n,tz:=?tz,tn:=0,tt:=?tt,nm:=Str.ofString "rgb", tm:=?tm,pl:=pl,pq:=pq,old:=old,qu:=negsTo 3 q,l:=[],dn:=false }
   F1 N1 ?_ G2 ?_ hs0 ?_ ?_
  rotate_left 4
  ·(try dsimp only);first|walk_at "my in" | kst_in
  ·walk_at "my all"
  ·refine ⟨hit,.nil,.cons (.inl hP) .nil,hoff,.inl hP,.inl rfl,hpl,hpq,fun k hk=>?_,trivial,?_,?_,(fun h=>by cases h),fun _=>(by show Str.ofString "rgb" ≠ Str.ofString ""; decide)⟩
   ·exact negs_mem hk
   ·show ((negsTo 3 q).length:Int)+3*nP W q≤48
    omega
   ·show (0:Int)+nP W q≤12
    omega
  ·rintro ⟨its,n1,lits,n2,refs,nS,td,ts,sz,Pc,c0,c1,c2,nc,tz,tn,tt,nm,tm,pl,pq,old,qu,l,dn⟩ u3 s3 hInv F2 N2 G3 o3
   (refine Fr.lets F2 ?_;clear F2;intro m9 F2)
   have ⟨hit,hlt,hst,hoff,hpt,hsz,hpl,hpq,hwt,hpre,hlen,hll,hd1,hd2⟩:=hInv
   clear F1 N1 hs0
   (try dsimp only at hit hlt hst hoff hpt hsz hpl hpq hwt hpre hlen hll hd1 hd2 F2 N2);(try dsimp only)
   cases dn with
   | true=>
    obtain ⟨rfl,rfl⟩:=hd1 rfl
    have hw1:=lI_len l
    have hnn:=nP_nonneg (W:=W) (by omega) (ops l q)
    have hw2:(l.map lI).length≤1000:=by rw [List.length_map];omega
    clear hlen hll hnn
    k_steps
    rename Fr _ _ _ _=>F3
    rename News _ _ _ _=>N3
    rename TabIs pStr _=>hps9
    rename_i s9 t9 ps9 G9 o9 D9 h6 l1
    have hx:∀ k,¬ part k (ops l q)<0:=fun k hk=>by have:=hwt k hk;cases this
    have h5:=N3.get (.head _)
    rw [text_lI] at h5
    refine hret _ _ _ _ _ _ _ _ _ hpl hps9 (but_of F3) (N3.get (by k_mem)) (N3.get (by k_mem)) ?_ h5 (fresh_of N3 (by k_mem) ?_) (N3.get (by k_mem)) (hst.base fun P o z=>pat_get z F3 N3 (by walk_at "my sub")) (full_of_pre l q hpre hx) G9 (o9.trans (o3.trans o2))
    ·refine fresh_of N3 (.head _) ?_
     intro hh
     simp only [List.mem_cons,List.not_mem_nil,or_false] at hh
     rcases hh with hh|hh<;>exact absurd hh (neN (by omega))
    ·intro hh
     simp only [List.mem_cons,List.not_mem_nil,or_false] at hh
     rcases hh with hh|hh
     ·exact ap_S98 hh
     ·exact ap_S105 hh
   | false=>
    have hnm:=hd2 rfl
    have hw0:∀ q∈([]:List (PySem.Str × PySem.Str)),q.1.length+q.2.length≤1000:=fun _ h=>nomatch h
    have hw00:([]:List (PySem.Str × PySem.Str)).length≤1000:=by decide
    have hnn:=nP_nonneg (W:=W) (by omega) (ops l q)
    k_steps
    unfold Stop
    rename Fr _ _ _ _=>F1
    rename News _ _ _ _=>N1
    by_cases hqe:qu=[]
    ·subst hqe
     have hI0:ItemsL old its []:=hit
     have hls:lenSum []=0:=by decide
     have hle:(Str.ofString "").length=0:=len_e
     have hE0:(Str.ofString "" ++ Str.ofString "")++Str.ofString "" = Str.ofString "" := by decide +kernel
     have hI1:its=[]:=List.eq_nil_of_length_eq_zero hI0.length
     subst hI1
     clear hit
     k_dflt (refine seq_split (a:=[_,_,_]) (P:=fun s'=>∀ C9:Prop,(∀  (n1':Nat) (td' ts':Tok) (sz':Int) (tz' t1 t2 tl tx:Tok) (lf:PySem.Str) (D:Addr) (pl' pq':Array Value),(sz'=3∨sz'=0)→TabIs pLen pl'→TabIs pStr pq'→(∀ b∈[x,dx,y,dy,S,98,105],Apart b D)→lf=Str.ofString "" → AtS (hideAll s.heap [98,105]) L1 s2.os [Str.ofString "text", Str.ofString "rest", Str.ofString "piece", Str.ofString "left", Str.ofString "size", Str.ofString "name", Str.ofString "k", Str.ofString "parts", Str.ofString "j", Str.ofString "taken"] (kstB ub [(Str.ofString "whole", .int W tw),(Str.ofString "figures", .ref Fg),(Str.ofString "waiting", .ref x),(Str.ofString "log", .ref y),(Str.ofString "states", .ref S)]) ((Str.ofString "piece", .ref D)::(Str.ofString "left", .str lf tl)::(Str.ofString "text", .str (Str.ofString "") tx)::(Str.ofString "size", .int sz' tz')::(Str.ofString "parts", .ref Pc)::(Str.ofString "taken", .int tn tt)::[(Str.ofString "whole", .int W tw),(Str.ofString "figures", .ref Fg),(Str.ofString "waiting", .ref x),(Str.ofString "log", .ref y),(Str.ofString "states", .ref S)]) ((x,accO dx [] n1')::(dx,szD hsx td' sz' ts' ex)::(y,accO dy lits n2)::(dy,szD hsy tdy 0 tqy ey)::(S,lst refs nS)::(98,tbO pl')::(105,tbO pq')::(D,tup [.str (Str.ofString "") t1,.str (Str.ofString "") t2])::old) s' C9)→C9) ?_ ?_)
     ·k_steps
      ·rename Fr _ _ _ _=>F3
       rename News _ _ _ _=>N3
       refine' ⟨⟨rfl,fun C9 k9=>At.useS (k9  _ _ _ _ _ _ _ _ _ _ _ _ _ (.inr rfl) (by assumption) (by assumption) ?maap ?malf) F3 N3 ?masm ?mahp ?mahl (by assumption) ?maos⟩⟩
       case malf=>first|exact hE0|rfl
       case mahp=>walk_at "my all"
       case mahl=>first|walk_at "my in" | kst_in
       case maap=>first|exact apart7 (by assumption)|exact apartL (by assumption) (by assumption) (by assumption) (by assumption) (by assumption) (by assumption) (by assumption)
       case masm=>walk_at "my sm"
       case maos=>walk_at "my os"
      ·rename Fr _ _ _ _=>F3
       rename News _ _ _ _=>N3
       refine' ⟨⟨rfl,fun C9 k9=>At.useS (k9  _ _ _ _ _ _ _ _ _ _ _ _ _ hsz (by assumption) (by assumption) ?mbap ?mblf) F3 N3 ?mbsm ?mbhp ?mbhl (by assumption) ?mbos⟩⟩
       case mblf=>first|rfl|exact hE0|decide +kernel
       case mbhp=>walk_at "my all"
       case mbhl=>first|walk_at "my in" | kst_in
       case mbap=>first|exact apart7 (by assumption)|exact apartL (by assumption) (by assumption) (by assumption) (by assumption) (by assumption) (by assumption) (by assumption)
       case mbsm=>walk_at "my sm"
       case mbos=>walk_at "my os"
     ·intro s4 k9
      refine k9 _ ?_
      clear k9 F1 N1
      intro n1' td' ts' sz' tz' t1 t2 tl tx lf D pl' pq' hsz' hpl' hpq' hD hlf u4 hs4 F1 N1 G4 o4
      (refine Fr.lets F1 ?_;clear F1;intro m9 F1)
      subst hlf
      have ad1:=(List.forall_mem_cons.mp hD).1;replace hD:=(List.forall_mem_cons.mp hD).2
      have ad2:=(List.forall_mem_cons.mp hD).1;replace hD:=(List.forall_mem_cons.mp hD).2
      have ad3:=(List.forall_mem_cons.mp hD).1;replace hD:=(List.forall_mem_cons.mp hD).2
      have ad4:=(List.forall_mem_cons.mp hD).1;replace hD:=(List.forall_mem_cons.mp hD).2
      have ad5:=(List.forall_mem_cons.mp hD).1;replace hD:=(List.forall_mem_cons.mp hD).2
      have ad6:=(List.forall_mem_cons.mp hD).1;replace hD:=(List.forall_mem_cons.mp hD).2
      have ad7:=(List.forall_mem_cons.mp hD).1;replace hD:=(List.forall_mem_cons.mp hD).2
      clear hD
      k_steps
      rename Fr _ _ _ _=>F3
      rename News _ _ _ _=>N3
      refine ⟨?_⟩
      dsimp only [WLoopPost]
      refine ⟨{ its:=[],n1:=n1',lits:=lits,n2:=n2,refs:=refs,nS:=nS,td:=td',ts:=ts',sz:=sz',Pc:=Pc,c0:=c0,c1:=c1,c2:=c2,nc:=nc,tz:=tz',tn:=tn+1,tt:=?va5,nm:=Str.ofString "", tm:=?va6,pl:=pl',pq:=pq',old:=old,qu:=[],l:=l,dn:=true },_,_,F3,N3,?ga1,by assumption,?ga2,?ga3,?ga4,?ga5,?ga6⟩
      case ga1=>walk_at "my in"
      case ga2=>walk_at "my os"
      case ga3=>walk_at "my all"
      case ga4=>walk_at "my same"
      case ga5=>exact ⟨.nil,hlt,hst,hoff,hpt,hsz',hpl',hpq',hwt,hpre,hlen,hll,(fun _=>⟨rfl,rfl⟩),fun h=>by cases h⟩
      case ga6=>show (0:Nat)<_+1;omega
    ·refine goalP fun G9 hG9=>?_
     obtain ⟨k1,rest,hq1⟩:=List.exists_cons_of_ne_nil hqe
     obtain ⟨init,k2,hq2⟩:∃ init k2,qu=init++[k2]:=⟨qu.dropLast,qu.getLast hqe,(List.dropLast_concat_getLast hqe).symm⟩
     have hmm:qu.map wI=init.map wI++[wI k2]:=by rw [hq2,List.map_append];rfl
     obtain ⟨its2,r2,v1,v2,rfl,hC,hm⟩:=ItemsL.last (hmm▸hit)
     refine hG9 ?_
     clear hG9 G9
     have hA:ItemsL old ((its2++[Value.ref r2]).take 1) [wI k1]:=by have:=hit.take 1;rw [hq1] at this;exact this
     have hB:ItemsL old ((its2++[Value.ref r2]).drop 1) (rest.map wI):=by have:=hit.drop 1;rw [hq1] at this;exact this
     have hw1:=wI_len qu
     have hw2:=wI_len rest
     have hw3:=wI_len init
     have hw4:=wI_len [k1]
     have hw5:(qu.map wI).length≤1000:=by rw [List.length_map];omega
     have hlq:qu.length=rest.length+1:=by rw [hq1];rfl
     have hlq2:qu.length=init.length+1:=by rw [hq2];simp
     have hw6:(rest.map wI).length≤1000:=by rw [List.length_map];omega
     have hw7:(init.map wI).length≤1000:=by rw [List.length_map];omega
     have hw8:[wI k1].length≤1000:=by show 1≤1000;omega
     have hz1:(its2++[Value.ref r2]).length≤1000:=by rw [hit.length];exact hw5
     have hz2:its2.length≤1000:=by rw [hC.length];exact hw7
     have hz3:((its2++[Value.ref r2]).take 1).length≤1000:=by rw [hA.length];exact hw8
     have hz4:((its2++[Value.ref r2]).drop 1).length≤1000:=by rw [hB.length];exact hw6
     have hz5:lits.length≤1000:=by rw [hlt.length,List.length_map];omega
     have hz6:refs.length≤1000:=by rw [hst.length,scan_len];omega
     have hls:=lenSum_eq (qu.map wI)
     have hs1:=wI_tlen qu
     have hs2:=wI_tlen rest
     have hs3:=wI_tlen init
     have hs4:qu.length≤48:=by omega
     have hs5:rest.length≤48:=by omega
     have hs6:init.length≤48:=by omega
     have hL1:(Str.ofString " " ++ chr1 (cod k1))++strJoin (rest.map wI)=strJoin (qu.map wI):=by rw [text_front,hq1]
     have hL2:(strJoin (init.map wI)++Str.ofString " ")++chr1 (cod k2)=strJoin (qu.map wI):=by rw [text_back,hq2]
     have hz7:(Str.ofString " " ++ chr1 (cod k1)).length+(strJoin (rest.map wI)).length≤1000:=by rw [len_app,len_b,len_c];omega
     have hz8:(strJoin (init.map wI)).length+(Str.ofString " ").length≤1000:=by rw [len_b];omega
     have hz9:(strJoin (init.map wI)++Str.ofString " ").length+(chr1 (cod k2)).length≤1000:=by rw [len_app,len_b,len_c];omega
     have hc1:=chr_ne (cod k1)
     have hc2:=chr_ne (cod k2)
     have hb:=inB_ops (by omega) l q hq
     have hm':(r2,tup [.str (Str.ofString " ") v1,.str (chr1 (cod k2)) v2])∈old:=hm
     generalize hpc:ops l q=pc at *
     have hB0:=hB
     clear hm hlen hll hmm
     k_dflt (refine seq_split (a:=[_,_,_]) (P:=fun s'=>∀ C9:Prop,(∀ (k:Fin 3) (rest:Wd) (its':List Value) (n1':Nat) (td' ts':Tok) (sz':Int) (tz' t1 t2 tl tx:Tok) (lf:PySem.Str) (D:Addr) (pl' pq':Array Value),ItemsL old its' (rest.map wI)→qu.length=rest.length+1→(∀ j∈qu,j=k∨j∈rest)→(sz'=3∨sz'=0)→TabIs pLen pl'→TabIs pStr pq'→(∀ b∈[x,dx,y,dy,S,98,105],Apart b D)→lf=strJoin (qu.map wI)→AtS (hideAll s.heap [98,105]) L1 s2.os [Str.ofString "text", Str.ofString "rest", Str.ofString "piece", Str.ofString "left", Str.ofString "size", Str.ofString "name", Str.ofString "k", Str.ofString "parts", Str.ofString "j", Str.ofString "taken"] (kstB ub [(Str.ofString "whole", .int W tw),(Str.ofString "figures", .ref Fg),(Str.ofString "waiting", .ref x),(Str.ofString "log", .ref y),(Str.ofString "states", .ref S)]) ((Str.ofString "piece", .ref D)::(Str.ofString "left", .str lf tl)::(Str.ofString "text", .str (strJoin (qu.map wI)) tx)::(Str.ofString "size", .int sz' tz')::(Str.ofString "parts", .ref Pc)::(Str.ofString "taken", .int tn tt)::[(Str.ofString "whole", .int W tw),(Str.ofString "figures", .ref Fg),(Str.ofString "waiting", .ref x),(Str.ofString "log", .ref y),(Str.ofString "states", .ref S)]) ((x,accO dx its' n1')::(dx,szD hsx td' sz' ts' ex)::(y,accO dy lits n2)::(dy,szD hsy tdy 0 tqy ey)::(S,lst refs nS)::(98,tbO pl')::(105,tbO pq')::(D,tup [.str (Str.ofString " ") t1,.str (chr1 (cod k)) t2])::old) s' C9)→C9) ?_ ?_)
     ·k_steps
      ·rename Fr _ _ _ _=>F3
       rename News _ _ _ _=>N3
       refine' ⟨⟨rfl,fun C9 k9=>At.useS (k9 k1 rest ((its2++[Value.ref r2]).drop 1) _ _ _ _ _ _ _ _ _ _ _ _ _ hB hlq (by rw [hq1];exact fun j hj=>List.mem_cons.mp hj) (.inr rfl) (by assumption) (by assumption) ?mcap ?mclf) F3 N3 ?mcsm ?mchp ?mchl (by assumption) ?mcos⟩⟩
       case mclf=>exact hL1
       case mchp=>walk_at "my all"
       case mchl=>first|walk_at "my in" | kst_in
       case mcap=>first|exact apart7 (by assumption)|exact apartL (by assumption) (by assumption) (by assumption) (by assumption) (by assumption) (by assumption) (by assumption)
       case mcsm=>walk_at "my sm"
       case mcos=>walk_at "my os"
      ·rename Fr _ _ _ _=>F3
       rename News _ _ _ _=>N3
       refine' ⟨⟨rfl,fun C9 k9=>At.useS (k9 k2 init its2 _ _ _ _ _ _ _ _ _ _ _ _ _ hC hlq2 (by rw [hq2];exact fun j hj=>(List.mem_append.mp hj).symm.imp List.mem_singleton.mp id) hsz (by assumption) (by assumption) ?mdap ?mdlf) F3 N3 ?mdsm ?mdhp ?mdhl (by assumption) ?mdos⟩⟩
       case mdlf=>exact hL2
       case mdhp=>walk_at "my all"
       case mdhl=>first|walk_at "my in" | kst_in
       case mdap=>exact fun b hb=>Ne.symm (hoff _ hm' b hb)
       case mdsm=>walk_at "my sm"
       case mdos=>walk_at "my os"
     ·intro s4 k9
      refine k9 _ ?_
      clear k9 F1 N1
      intro k rest its' n1' td' ts' sz' tz' t1 t2 tl tx lf D pl' pq' hB hlq9 hmm9 hsz' hpl' hpq' hD hlf u4 hs4 F1 N1 G4 o4
      (refine Fr.lets F1 ?_;clear F1;intro m9 F1)
      subst hlf
      have ad1:=(List.forall_mem_cons.mp hD).1;replace hD:=(List.forall_mem_cons.mp hD).2
      have ad2:=(List.forall_mem_cons.mp hD).1;replace hD:=(List.forall_mem_cons.mp hD).2
      have ad3:=(List.forall_mem_cons.mp hD).1;replace hD:=(List.forall_mem_cons.mp hD).2
      have ad4:=(List.forall_mem_cons.mp hD).1;replace hD:=(List.forall_mem_cons.mp hD).2
      have ad5:=(List.forall_mem_cons.mp hD).1;replace hD:=(List.forall_mem_cons.mp hD).2
      have ad6:=(List.forall_mem_cons.mp hD).1;replace hD:=(List.forall_mem_cons.mp hD).2
      have ad7:=(List.forall_mem_cons.mp hD).1;replace hD:=(List.forall_mem_cons.mp hD).2
      clear hD hA hC hm' hw2 hw3 hw4 hw6 hw7 hw8 hz1 hz2 hz3 hz4 hls hs1 hs2 hs3 hs5 hs6 hL1 hL2 hz7 hz8 hz9 hc1 hc2 hB0
      have hc9:=chr_ne (cod k)
      have hs9:rest.length≤48:=by omega
      have hz9:its'.length≤1000:=by rw [hB.length,List.length_map];omega
      k_steps
      ·rename Fr _ _ _ _=>F3
       rename News _ _ _ _=>N3
       rename part k pc<0=>hneg
       refine' news_use (l:=(x,accO dx its' ?q1b13)::(dx,szD hsx ?q1b1 sz' ?q1b2 ex)::(y,accO dy (lits++[.ref ?q1b3]) (n2+1))::(dy,szD hsy tdy 0 tqy ey)::(S,lst (refs++[.ref ?q1b4]) (nS+1))::(98,tbO ?q1b5)::(105,tbO ?q1b6)::(?q1b3,tup [.str (Str.ofString "") ?q1b7,.str (chr1 (cod k)) ?q1b8])::(?q1b4,lst3 (raw k pc) ?q1b9 ?q1b10 ?q1b11 ?q1b12)::old) N3 ?q1gN ?_
       case q1gN=>walk_at "my in"
       intro N4
       have hoff3:OwnOff ((?q1b3,tup [.str (Str.ofString "") ?q1b7,.str (chr1 (cod k)) ?q1b8])::(?q1b4,lst3 (raw k pc) ?q1b9 ?q1b10 ?q1b11 ?q1b12)::old) [x,dx,y,dy,S,98,105]:=by walk_at "my ownoff"
       rename IsRange _ _ _ _ _ _ _ _=>aR
       refine' range_K (σ:=List Value × Nat × List (Addr × Obj)) (n:=3) (fun c=>(x,accO dx c.1 c.2.1)::(dx,szD hsx ?q1b1 sz' ?q1b2 ex)::(y,accO dy (lits++[.ref ?q1b3]) (n2+1))::(dy,szD hsy tdy 0 tqy ey)::(S,lst (refs++[.ref ?q1b4]) (nS+1))::(98,tbO ?q1b5)::(105,tbO ?q1b6)::c.2.2) (fun _=>[]) [Str.ofString "j"] (fun i c=>ItemsL c.2.2 c.1 ((rest++negsTo i (raw k pc)).map wI)∧OwnOff c.2.2 [x,dx,y,dy,S,98,105]∧(∀ p∈(?q1b3,tup [.str (Str.ofString "") ?q1b7,.str (chr1 (cod k)) ?q1b8])::(?q1b4,lst3 (raw k pc) ?q1b9 ?q1b10 ?q1b11 ?q1b12)::old,p∈c.2.2)) (its',?q1b13,(?q1b3,tup [.str (Str.ofString "") ?q1b7,.str (chr1 (cod k)) ?q1b8])::(?q1b4,lst3 (raw k pc) ?q1b9 ?q1b10 ?q1b11 ?q1b12)::old) aR rfl (by decide) rfl rfl rfl F3 N4 ?q1hN (by assumption) (fun _ h=>nomatch h) ?q1i0 ?q1turn ?q1done
       case q1hN=>walk_at "my in"
       case q1i0=>exact ⟨by rw [show negsTo 0 (raw k pc)=[] from rfl,List.append_nil];exact hB.mono (fun p hp=>.tail _ (.tail _ hp)),hoff3,fun _ h=>h⟩
       case q1turn=>
        intro i t
        refine all_b ?_
        intro its3 n3 old3 u I oI s4 hi hq1 hO F4 N5 G4 o4
        have hit3:=hq1.1
        have hoff4:=hq1.2.1
        have hsub3:=hq1.2.2
        clear hq1
        (refine Fr.lets F4 ?_;clear F4;intro m9 F4)
        dsimp only at hit3 hoff4 hsub3 hO N5
        replace hO:=off1_of hO;(try walk_at "my off")
        have hz:its3.length≤1000:=by
         rw [hit3.length,List.length_map,List.length_append];have:=negsTo_len i (raw k pc);omega
        have hpt3:PAt (hideAll s.heap [98,105]) old3 ?q1b4 (lst3 (raw k pc) ?q1b9 ?q1b10 ?q1b11 ?q1b12):=.inr (hsub3 _ (.tail _ (.head _)))
        obtain ⟨k3,rfl⟩:∃ k:Fin 3,i=k.val:=⟨⟨i,hi⟩,rfl⟩
        clear N3 N4 F3 hInv
        k_steps
        ·rename Fr _ _ _ _=>F3
         rename News _ _ _ _=>N3
         rename part k3 (raw k pc)<0=>hneg3
         dsimp only [MLoopPost]
         refine ⟨(its3++[.ref ?q1r1],n3+1,(?q1r1,tup [.str (Str.ofString " ") ?q1r2,.str (chr1 (cod k3)) ?q1r3])::old3),_,_,F3,N3,?q1t1,?q1t2,G4,o4,?q1t3,?q1t4,?q1t5,?q1t6,?q1t7⟩
         case q1t1=>walk_at "my in"
         case q1t2=>walk_at "my offgoal"
         case q1t3=>intro p hp;cases hp
         case q1t4=>walk_at "my same"
         case q1t5=>
          dsimp only
          rw [negsTo_succ hi,if_pos hneg3,←List.append_assoc,List.map_append]
          exact hit3.snoc (fun p hp=>.tail _ hp) (.head _)
         case q1t6=>walk_at "my ownoff"
         case q1t7=>exact fun p hp=>.tail _ (hsub3 p hp)
        ·rename Fr _ _ _ _=>F3
         rename News _ _ _ _=>N3
         rename ¬ part k3 (raw k pc)<0=>hneg3
         dsimp only [MLoopPost]
         refine ⟨(its3,n3,old3),_,_,F3,N3,?q1u1,?q1u2,G4,o4,?q1u3,?q1u4,?q1u5,hoff4,hsub3⟩
         case q1u1=>walk_at "my in"
         case q1u2=>walk_at "my offgoal"
         case q1u3=>intro p hp;cases hp
         case q1u4=>walk_at "my same"
         case q1u5=>
          dsimp only
          rw [negsTo_succ hi,if_neg hneg3,List.append_nil]
          exact hit3
       case q1done=>
        refine all_b ?_
        intro its3 n3 old3 u s4 hq1 F4 N5 G4 o4
        have hit3:=hq1.1
        have hoff4:=hq1.2.1
        have hsub3:=hq1.2.2
        clear hq1
        (refine Fr.lets F4 ?_;clear F4;intro m9 F4)
        (try dsimp only at hit3 hoff4 hsub3 N5);(try dsimp only)
        clear N3 N4 F3
        k_steps
        rename Fr _ _ _ _=>F3
        rename News _ _ _ _=>N3
        refine ⟨?_⟩
        dsimp only [WLoopPost]
        refine ⟨{ its:=its3,n1:=n3,lits:=lits++[.ref ?q1b3],n2:=n2+1,refs:=refs++[.ref ?q1b4],nS:=nS+1,td:=?q1b1,ts:=?q1b2,sz:=sz',Pc:=?q1b4,c0:=?q1b9,c1:=?q1b10,c2:=?q1b11,nc:=?q1b12,tz:=?q1w1,tn:=tn+1,tt:=?q1w2,nm:=chr1 (cod k),tm:=?q1w3,pl:=?q1b5,pq:=?q1b6,old:=old3,qu:=rest++negsTo 3 (raw k pc),l:=l++[k],dn:=false },_,_,F3,N3,?q1x1,by assumption,?q1x2,?q1x3,?q1x4,?q1x5⟩
        case q1x1=>walk_at "my in"
        case q1x2=>walk_at "my os"
        case q1x3=>walk_at "my all"
        case q1x4=>walk_at "my same"
        case q1x5=>exact pinv_turn (by omega) hq hInv rfl hlq9 hpc hneg hit3 hoff4 hsub3 hsz' (by assumption) (by assumption)
      ·rename Fr _ _ _ _=>F3
       rename News _ _ _ _=>N3
       rename ¬ part k pc<0=>hneg
       refine ⟨?_⟩
       dsimp only [WLoopPost]
       refine ⟨{ its:=its',n1:=?q2b13,lits:=lits,n2:=n2,refs:=refs,nS:=nS,td:=?q2b1,ts:=?q2b2,sz:=sz',Pc:=Pc,c0:=c0,c1:=c1,c2:=c2,nc:=nc,tz:=?q2w1,tn:=tn+1,tt:=?q2w2,nm:=chr1 (cod k),tm:=?q2w3,pl:=?q2b5,pq:=?q2b6,old:=old,qu:=rest,l:=l,dn:=false },_,_,F3,N3,?q2x1,by assumption,?q2x2,?q2x3,?q2x4,?q2x5⟩
       case q2x1=>walk_at "my in"
       case q2x2=>walk_at "my os"
       case q2x3=>walk_at "my all"
       case q2x4=>walk_at "my same"
       case q2x5=>exact pinv_pass hInv rfl hlq9 hmm9 hpc hneg hB hsz' (by assumption) (by assumption)
end
end Mine
end
section
namespace Mine
theorem Mkrrrrrrrrrrrrrrrrrrrrrrrrrrrr:True:=trivial
noncomputable def endF (W x0 x1 x2:Int):P3:=
 let r0:=min (x0 % W) (min (x1 % W) (x2 % W))
 let r2:=max (x0 % W) (max (x1 % W) (x2 % W))
 let r1:=x0 % W+x1 % W+x2 % W-r0-r2
 let n:=(x0/W+x1/W+x2/W) % 3
 if n=0 then ⟨r1-r0,r2-r1,W+r0-r2⟩ else if n=1 then ⟨r2-r1,W+r0-r2,r1-r0⟩ else ⟨W+r0-r2,r1-r0,r2-r1⟩
private theorem endF_congr {W x0 x1 x2 y0 y1 y2:Int} (h0:x0 % W=y0 % W) (h1:x1 % W=y1 % W) (h2:x2 % W=y2 % W) (hn:x0/W+x1/W+x2/W=y0/W+y1/W+y2/W):endF W x0 x1 x2=endF W y0 y1 y2:=by
 unfold endF
 rw [h0,h1,h2,hn]
private theorem endF_shift {W:Int} (hW:0<W) (x0 x1 x2 a b c:Int) (h:a+b+c=0):endF W (x0+W*a) (x1+W*b) (x2+W*c)=endF W x0 x1 x2:=by
 refine endF_congr (Int.add_mul_emod_self_left ..) (Int.add_mul_emod_self_left ..) (Int.add_mul_emod_self_left ..) ?_
 rw [Int.add_mul_ediv_left _ _ (Int.ne_of_gt hW),Int.add_mul_ediv_left _ _ (Int.ne_of_gt hW),Int.add_mul_ediv_left _ _ (Int.ne_of_gt hW)]
 exact Int.le_antisymm (lqz [_,_,_,_,_,_] (.eq (.a (.a T0 T1) T2) Tz 1 (.gle (.a (.a (.a T3 T0) (.a T4 T1)) (.a T5 T2)) (.a (.a T3 T4) T5) 1)) rfl h) (lqz [_,_,_,_,_,_] (.eq (.a (.a T0 T1) T2) Tz (-1) (.gle (.a (.a T3 T4) T5) (.a (.a (.a T3 T0) (.a T4 T1)) (.a T5 T2)) 1)) rfl h)
private theorem endF_swap01 (W x0 x1 x2:Int):endF W x1 x0 x2=endF W x0 x1 x2:=by
 unfold endF
 have e0:min (x1 % W) (min (x0 % W) (x2 % W))=min (x0 % W) (min (x1 % W) (x2 % W)):=by rw [← Int.min_assoc,Int.min_comm (x1 % W),Int.min_assoc]
 have e2:max (x1 % W) (max (x0 % W) (x2 % W))=max (x0 % W) (max (x1 % W) (x2 % W)):=by rw [← Int.max_assoc,Int.max_comm (x1 % W),Int.max_assoc]
 have e3:x1 % W+x0 % W+x2 % W=x0 % W+x1 % W+x2 % W:=by exact Int.le_antisymm (lqz [_,_,_] (.gle (.a (.a T0 T1) T2) (.a (.a T1 T0) T2) 1) rfl) (lqz [_,_,_] (.gle (.a (.a T0 T1) T2) (.a (.a T1 T0) T2) 1) rfl)
 have e4:x1/W+x0/W+x2/W=x0/W+x1/W+x2/W:=by exact Int.le_antisymm (lqz [_,_,_] (.gle (.a (.a T0 T1) T2) (.a (.a T1 T0) T2) 1) rfl) (lqz [_,_,_] (.gle (.a (.a T0 T1) T2) (.a (.a T1 T0) T2) 1) rfl)
 rw [e0,e2,e3,e4]
private theorem endF_swap12 (W x0 x1 x2:Int):endF W x0 x2 x1=endF W x0 x1 x2:=by
 unfold endF
 have e0:min (x0 % W) (min (x2 % W) (x1 % W))=min (x0 % W) (min (x1 % W) (x2 % W)):=by rw [Int.min_comm (x2 % W)]
 have e2:max (x0 % W) (max (x2 % W) (x1 % W))=max (x0 % W) (max (x1 % W) (x2 % W)):=by rw [Int.max_comm (x2 % W)]
 have e3:x0 % W+x2 % W+x1 % W=x0 % W+x1 % W+x2 % W:=by exact Int.le_antisymm (lqz [_,_,_] (.gle (.a (.a T0 T1) T2) (.a (.a T0 T2) T1) 1) rfl) (lqz [_,_,_] (.gle (.a (.a T0 T1) T2) (.a (.a T0 T2) T1) 1) rfl)
 have e4:x0/W+x2/W+x1/W=x0/W+x1/W+x2/W:=by exact Int.le_antisymm (lqz [_,_,_] (.gle (.a (.a T0 T1) T2) (.a (.a T0 T2) T1) 1) rfl) (lqz [_,_,_] (.gle (.a (.a T0 T1) T2) (.a (.a T0 T2) T1) 1) rfl)
 rw [e0,e2,e3,e4]
private theorem endF_rot (W x0 x1 x2:Int):endF W x2 x0 x1=endF W x0 x1 x2:=(endF_swap01 W x0 x2 x1).trans (endF_swap12 W x0 x1 x2)
private theorem floor_two {W a b:Int} (hW:0<W) (h1:a≤b) (h2:b≤a+W):(b/W=a/W∧b % W=b-W*(a/W))∨(b/W=a/W+1∧b % W=b-W*(a/W)-W):=by
 have ea:=Int.mul_ediv_add_emod a W
 have a0:=Int.emod_nonneg a (Int.ne_of_gt hW)
 have a1:=Int.emod_lt_of_pos a hW
 have eb:=Int.mul_ediv_add_emod b W
 have b0:=Int.emod_nonneg b (Int.ne_of_gt hW)
 have b1:=Int.emod_lt_of_pos b hW
 by_cases h:b<W*(a/W)+W
 ·left
  have:=(Int.ediv_emod_unique (a:=b) (b:=W) (q:=a/W) (r:=b-W*(a/W)) hW).mpr ⟨by exact Int.le_antisymm (lqz [_,_] (.gle (.a (.s T0 T1) T1) T0 1) rfl) (lqz [_,_] (.gle T0 (.a (.s T0 T1) T1) 1) rfl),by exact lqz [_,_,_,_] (.le T0 T1 1 (.eq (.a T2 T3) T0 1 (.le Tz T3 1 (.gle Tz (.s T1 T2) 1)))) rfl h1 ea a0,by exact lqz [_,_,_] (.lt T0 (.a T1 T2) 1 (.glt (.s T0 T1) T2 1)) rfl h⟩
  exact this
 ·right
  have:=(Int.ediv_emod_unique (a:=b) (b:=W) (q:=a/W+1) (r:=b-W*(a/W)-W) hW).mpr ⟨by rw [Int.mul_add,Int.mul_one];exact Int.le_antisymm (lqz [_,_,_] (.gle (.a (.s (.s T0 T1) T2) (.a T1 T2)) T0 1) rfl) (lqz [_,_,_] (.gle T0 (.a (.s (.s T0 T1) T2) (.a T1 T2)) 1) rfl),by exact lqz [_,_,_] (.nlt T0 (.a T1 T2) 1 (.gle Tz (.s (.s T0 T1) T2) 1)) rfl h,by exact lqz [_,_,_,_,_] (.le T0 (.a T1 T2) 1 (.eq (.a T3 T4) T1 (-1) (.lt T4 T2 1 (.glt (.s (.s T0 T3) T2) T2 1)))) rfl h2 ea a1⟩
  exact this
private theorem mm_abc {a b c:Int} (h:a≤b) (k:b≤c):min a (min b c)=a∧max a (max b c)=c:=⟨by rw [Int.min_eq_left k,Int.min_eq_left h],by rw [Int.max_eq_right k,Int.max_eq_right (Int.le_trans h k)]⟩
private theorem mm_cab {a b c:Int} (h:c≤a) (k:a≤b):min a (min b c)=c∧max a (max b c)=b:=⟨by rw [Int.min_eq_right (Int.le_trans h k),Int.min_eq_right h],by rw [Int.max_eq_left (Int.le_trans h k),Int.max_eq_right k]⟩
private theorem mm_bca {a b c:Int} (h:b≤c) (k:c≤a):min a (min b c)=b∧max a (max b c)=a:=⟨by rw [Int.min_eq_left h,Int.min_eq_right (Int.le_trans h k)],by rw [Int.max_eq_right h,Int.max_eq_left k]⟩
private theorem mod3' {x r:Int} (f:Int) (h:x=r+3*f):x % 3=r % 3:=by rw [h];exact Int.add_mul_emod_self_left r 3 f
private theorem mod3 (f:Int):(f+f+f) % 3=0∧(f+f+(f+1)) % 3=1∧(f+(f+1)+(f+1)) % 3=2:=⟨mod3' (r:=0) f (by lia -abstractProof),mod3' (r:=1) f (by lia -abstractProof),mod3' (r:=2) f (by lia -abstractProof)⟩
private theorem endF_window {W t0 t1 t2:Int} (hW:0<W) (h1:t0≤t1) (h2:t1≤t2) (h3:t2≤t0+W):endF W t0 t1 t2=⟨t1-t0,t2-t1,t0+W-t2⟩:=by
 have ea:=Int.mul_ediv_add_emod t0 W
 have a0:=Int.emod_nonneg t0 (Int.ne_of_gt hW)
 have a1:=Int.emod_lt_of_pos t0 hW
 have b0:=Int.emod_nonneg t1 (Int.ne_of_gt hW)
 have b1:=Int.emod_lt_of_pos t1 hW
 have c0:=Int.emod_nonneg t2 (Int.ne_of_gt hW)
 have c1:=Int.emod_lt_of_pos t2 hW
 have f1:=floor_two hW h1 (by lia -abstractProof:t1≤t0+W)
 have f2:=floor_two hW (by lia -abstractProof:t0≤t2) h3
 unfold endF
 generalize t0/W=f at *
 generalize W*f=A at *
 generalize t0 % W=r at *
 generalize t1 % W=r1 at *
 generalize t2 % W=r2 at *
 generalize t1/W=g1 at *
 generalize t2/W=g2 at *
 dsimp only
 rcases f1 with ⟨p1,q1⟩|⟨p1,q1⟩<;>rcases f2 with ⟨p2,q2⟩|⟨p2,q2⟩
 ·rw [p1,p2,if_pos (mod3 f).1]
  refine and2 (mm_abc (a:=r) (b:=r1) (c:=r2) (by exact lqz [_,_,_,_,_] (.le T0 T1 1 (.eq (.a T2 T3) T0 1 (.eq T4 (.s T1 T2) (-1) (.gle T3 T4 1)))) rfl h1 ea q1) (by exact lqz [_,_,_,_,_] (.le T0 T1 1 (.eq T2 (.s T0 T3) 1 (.eq T4 (.s T1 T3) (-1) (.gle T2 T4 1)))) rfl h2 q1 q2)) fun m1 m2=>?_
  rw [m1,m2]
  apply P3.ext'<;>dsimp only
  ·exact Int.le_antisymm (lqz [_,_,_,_,_,_] (.eq (.a T0 T1) T2 (-1) (.eq T3 (.s T4 T0) 1 (.gle (.s (.s (.s (.a (.a T1 T3) T5) T1) T5) T1) (.s T4 T2) 1))) rfl ea q1) (lqz [_,_,_,_,_,_] (.eq (.a T0 T1) T2 1 (.eq T3 (.s T4 T0) (-1) (.gle (.s T4 T2) (.s (.s (.s (.a (.a T1 T3) T5) T1) T5) T1) 1))) rfl ea q1)
  ·exact Int.le_antisymm (lqz [_,_,_,_,_,_] (.eq T0 (.s T1 T2) (-1) (.eq T3 (.s T4 T2) 1 (.gle (.s T3 (.s (.s (.a (.a T5 T0) T3) T5) T3)) (.s T4 T1) 1))) rfl q1 q2) (lqz [_,_,_,_,_,_] (.eq T0 (.s T1 T2) 1 (.eq T3 (.s T4 T2) (-1) (.gle (.s T4 T1) (.s T3 (.s (.s (.a (.a T5 T0) T3) T5) T3)) 1))) rfl q1 q2)
  ·exact Int.le_antisymm (lqz [_,_,_,_,_,_] (.eq (.a T0 T1) T2 1 (.eq T3 (.s T4 T0) (-1) (.gle (.s (.a T5 T1) T3) (.s (.a T2 T5) T4) 1))) rfl ea q2) (lqz [_,_,_,_,_,_] (.eq (.a T0 T1) T2 (-1) (.eq T3 (.s T4 T0) 1 (.gle (.s (.a T2 T5) T4) (.s (.a T5 T1) T3) 1))) rfl ea q2)
 ·rw [p1,p2,if_neg (by rw [(mod3 f).2.1];decide),if_pos (mod3 f).2.1]
  refine and2 (mm_cab (a:=r) (b:=r1) (c:=r2) (by exact lqz [_,_,_,_,_,_] (.le T0 (.a T1 T2) 1 (.eq (.a T3 T4) T1 (-1) (.eq T5 (.s (.s T0 T3) T2) 1 (.gle T5 T4 1)))) rfl h3 ea q2) (by exact lqz [_,_,_,_,_] (.le T0 T1 1 (.eq (.a T2 T3) T0 1 (.eq T4 (.s T1 T2) (-1) (.gle T3 T4 1)))) rfl h1 ea q1)) fun m1 m2=>?_
  rw [m1,m2]
  apply P3.ext'<;>dsimp only
  ·exact Int.le_antisymm (lqz [_,_,_,_,_,_] (.eq (.a T0 T1) T2 (-1) (.eq T3 (.s T4 T0) 1 (.gle (.s T3 (.s (.s (.a (.a T1 T3) T5) T5) T3)) (.s T4 T2) 1))) rfl ea q1) (lqz [_,_,_,_,_,_] (.eq (.a T0 T1) T2 1 (.eq T3 (.s T4 T0) (-1) (.gle (.s T4 T2) (.s T3 (.s (.s (.a (.a T1 T3) T5) T5) T3)) 1))) rfl ea q1)
  ·exact Int.le_antisymm (lqz [_,_,_,_,_,_] (.eq T0 (.s T1 T2) (-1) (.eq T3 (.s (.s T4 T2) T5) 1 (.gle (.s (.a T5 T3) T0) (.s T4 T1) 1))) rfl q1 q2) (lqz [_,_,_,_,_,_] (.eq T0 (.s T1 T2) 1 (.eq T3 (.s (.s T4 T2) T5) (-1) (.gle (.s T4 T1) (.s (.a T5 T3) T0) 1))) rfl q1 q2)
  ·exact Int.le_antisymm (lqz [_,_,_,_,_,_,_] (.eq (.a T0 T1) T2 1 (.eq T3 (.s (.s T4 T0) T5) (-1) (.gle (.s (.s (.s (.a (.a T1 T6) T3) T3) T6) T3) (.s (.a T2 T5) T4) 1))) rfl ea q2) (lqz [_,_,_,_,_,_,_] (.eq (.a T0 T1) T2 (-1) (.eq T3 (.s (.s T4 T0) T5) 1 (.gle (.s (.a T2 T5) T4) (.s (.s (.s (.a (.a T1 T6) T3) T3) T6) T3) 1))) rfl ea q2)
 ·exfalso;exact lqz [_,_,_,_,_,_] (.le T0 T1 1 (.le Tz T2 1 (.lt T3 T4 1 (.eq T2 (.s (.s T0 T5) T4) 1 (.eq T3 (.s T1 T5) (-1) (.o)))))) rfl h2 b0 c1 q1 q2
 ·rw [p1,p2,if_neg (by rw [(mod3 f).2.2];decide),if_neg (by rw [(mod3 f).2.2];decide)]
  refine and2 (mm_bca (a:=r) (b:=r1) (c:=r2) (by exact lqz [_,_,_,_,_,_] (.le T0 T1 1 (.eq T2 (.s (.s T0 T3) T4) 1 (.eq T5 (.s (.s T1 T3) T4) (-1) (.gle T2 T5 1)))) rfl h2 q1 q2) (by exact lqz [_,_,_,_,_,_] (.le T0 (.a T1 T2) 1 (.eq (.a T3 T4) T1 (-1) (.eq T5 (.s (.s T0 T3) T2) 1 (.gle T5 T4 1)))) rfl h3 ea q2)) fun m1 m2=>?_
  rw [m1,m2]
  apply P3.ext'<;>dsimp only
  ·exact Int.le_antisymm (lqz [_,_,_,_,_,_] (.eq (.a T0 T1) T2 (-1) (.eq T3 (.s (.s T4 T0) T5) 1 (.gle (.s (.a T5 T3) T1) (.s T4 T2) 1))) rfl ea q1) (lqz [_,_,_,_,_,_] (.eq (.a T0 T1) T2 1 (.eq T3 (.s (.s T4 T0) T5) (-1) (.gle (.s T4 T2) (.s (.a T5 T3) T1) 1))) rfl ea q1)
  ·exact Int.le_antisymm (lqz [_,_,_,_,_,_,_] (.eq T0 (.s (.s T1 T2) T3) (-1) (.eq T4 (.s (.s T5 T2) T3) 1 (.gle (.s (.s (.s (.a (.a T6 T0) T4) T0) T6) T0) (.s T5 T1) 1))) rfl q1 q2) (lqz [_,_,_,_,_,_,_] (.eq T0 (.s (.s T1 T2) T3) 1 (.eq T4 (.s (.s T5 T2) T3) (-1) (.gle (.s T5 T1) (.s (.s (.s (.a (.a T6 T0) T4) T0) T6) T0) 1))) rfl q1 q2)
  ·exact Int.le_antisymm (lqz [_,_,_,_,_,_,_] (.eq (.a T0 T1) T2 1 (.eq T3 (.s (.s T4 T0) T5) (-1) (.gle (.s T1 (.s (.s (.a (.a T1 T6) T3) T6) T1)) (.s (.a T2 T5) T4) 1))) rfl ea q2) (lqz [_,_,_,_,_,_,_] (.eq (.a T0 T1) T2 (-1) (.eq T3 (.s (.s T4 T0) T5) 1 (.gle (.s (.a T2 T5) T4) (.s T1 (.s (.s (.a (.a T1 T6) T3) T6) T1)) 1))) rfl ea q2)
private theorem endF_exists {W:Int} (hW:0<W) (x0 x1 x2:Int):∃ t0 t1 t2,t0≤t1∧t1≤t2∧t2≤t0+W∧∀ δ,endF W (x0+δ) (x1+δ) (x2+δ)=endF W (t0+δ) (t1+δ) (t2+δ):=by
 have key:∀ x0 x1 x2:Int,x0 % W≤x1 % W→x1 % W≤x2 % W→∃ t0 t1 t2,t0≤t1∧t1≤t2∧t2≤t0+W∧∀ δ,endF W (x0+δ) (x1+δ) (x2+δ)=endF W (t0+δ) (t1+δ) (t2+δ):=by
  intro x0 x1 x2 h1 h2
  have ea:=Int.mul_ediv_add_emod x0 W
  have a0:=Int.emod_nonneg x0 (Int.ne_of_gt hW)
  have a1:=Int.emod_lt_of_pos x0 hW
  have eb:=Int.mul_ediv_add_emod x1 W
  have b0:=Int.emod_nonneg x1 (Int.ne_of_gt hW)
  have b1:=Int.emod_lt_of_pos x1 hW
  have ec:=Int.mul_ediv_add_emod x2 W
  have c0:=Int.emod_nonneg x2 (Int.ne_of_gt hW)
  have c1:=Int.emod_lt_of_pos x2 hW
  generalize x0 % W=r0 at *
  generalize x1 % W=r1 at *
  generalize x2 % W=r2 at *
  generalize x0/W=k0 at *
  generalize x1/W=k1 at *
  generalize x2/W=k2 at *
  obtain ⟨m,e,he,hm⟩:∃ m e:Int,(e=0∨e=1∨e=2)∧k0+k1+k2=3*m+e:=⟨(k0+k1+k2)/3,(k0+k1+k2) % 3,by lia -abstractProof,by lia -abstractProof⟩
  rcases he with rfl|rfl|rfl
  ·refine ⟨r0+W*m,r1+W*m,r2+W*m,by exact lqz [_,_,_] (.le T0 T1 1 (.gle (.a T0 T2) (.a T1 T2) 1)) rfl h1,by exact lqz [_,_,_] (.le T0 T1 1 (.gle (.a T0 T2) (.a T1 T2) 1)) rfl h2,by exact lqz [_,_,_,_] (.le Tz T0 1 (.lt T1 T2 1 (.gle (.a T1 T3) (.a (.a T0 T3) T2) 1))) rfl a0 c1,fun δ=>?_⟩
   have:=endF_shift hW (r0+W*m+δ) (r1+W*m+δ) (r2+W*m+δ) (k0-m) (k1-m) (k2-m) (by exact Int.le_antisymm (lqz [_,_,_,_] (.eq (.a (.a T0 T1) T2) (.a (.m (.n 3) T3) Tz) 1 (.gle (.a (.a (.s T0 T3) (.s T1 T3)) (.s T2 T3)) Tz 1)) rfl hm) (lqz [_,_,_,_] (.eq (.a (.a T0 T1) T2) (.a (.m (.n 3) T3) Tz) (-1) (.gle Tz (.a (.a (.s T0 T3) (.s T1 T3)) (.s T2 T3)) 1)) rfl hm))
   rw [← this]
   rw [Int.mul_sub,Int.mul_sub,Int.mul_sub]
   congr 1<;>(first|exact Int.le_antisymm (lqz [_,_,_,_,_] (.eq (.a T0 T1) T2 (-1) (.gle (.a T2 T3) (.a (.a (.a T1 T4) T3) (.s T0 T4)) 1)) rfl ea) (lqz [_,_,_,_,_] (.eq (.a T0 T1) T2 1 (.gle (.a (.a (.a T1 T3) T4) (.s T0 T3)) (.a T2 T4) 1)) rfl ea)|exact Int.le_antisymm (lqz [_,_,_,_,_] (.eq (.a T0 T1) T2 (-1) (.gle (.a T2 T3) (.a (.a (.a T1 T4) T3) (.s T0 T4)) 1)) rfl eb) (lqz [_,_,_,_,_] (.eq (.a T0 T1) T2 1 (.gle (.a (.a (.a T1 T3) T4) (.s T0 T3)) (.a T2 T4) 1)) rfl eb)|exact Int.le_antisymm (lqz [_,_,_,_,_] (.eq (.a T0 T1) T2 (-1) (.gle (.a T2 T3) (.a (.a (.a T1 T4) T3) (.s T0 T4)) 1)) rfl ec) (lqz [_,_,_,_,_] (.eq (.a T0 T1) T2 1 (.gle (.a (.a (.a T1 T3) T4) (.s T0 T3)) (.a T2 T4) 1)) rfl ec))
  ·refine ⟨r1+W*m,r2+W*m,r0+W*(m+1),by exact lqz [_,_,_] (.le T0 T1 1 (.gle (.a T0 T2) (.a T1 T2) 1)) rfl h2,?_,?_,fun δ=>?_⟩
   ·rw [Int.mul_add,Int.mul_one];exact lqz [_,_,_,_] (.le Tz T0 1 (.lt T1 T2 1 (.gle (.a T1 T3) (.a T0 (.a T3 T2)) 1))) rfl a0 c1
   ·rw [Int.mul_add,Int.mul_one];exact lqz [_,_,_,_] (.le T0 T1 1 (.gle (.a T0 (.a T2 T3)) (.a (.a T1 T2) T3) 1)) rfl h1
   ·have:=endF_shift hW (r0+W*(m+1)+δ) (r1+W*m+δ) (r2+W*m+δ) (k0-(m+1)) (k1-m) (k2-m) (by exact Int.le_antisymm (lqz [_,_,_,_] (.eq (.a (.a T0 T1) T2) (.a (.m (.n 3) T3) Tx) 1 (.gle (.a (.a (.s T0 (.a T3 Tx)) (.s T1 T3)) (.s T2 T3)) Tz 1)) rfl hm) (lqz [_,_,_,_] (.eq (.a (.a T0 T1) T2) (.a (.m (.n 3) T3) Tx) (-1) (.gle Tz (.a (.a (.s T0 (.a T3 Tx)) (.s T1 T3)) (.s T2 T3)) 1)) rfl hm))
    rw [← endF_swap12 W (r1+W*m+δ),←endF_swap01 W (r1+W*m+δ),←this]
    rw [Int.mul_sub,Int.mul_sub,Int.mul_sub]
    congr 1<;>(first|exact Int.le_antisymm (lqz [_,_,_,_,_] (.eq (.a T0 T1) T2 (-1) (.gle (.a T2 T3) (.a (.a (.a T1 T4) T3) (.s T0 T4)) 1)) rfl ea) (lqz [_,_,_,_,_] (.eq (.a T0 T1) T2 1 (.gle (.a (.a (.a T1 T3) T4) (.s T0 T3)) (.a T2 T4) 1)) rfl ea)|exact Int.le_antisymm (lqz [_,_,_,_,_] (.eq (.a T0 T1) T2 (-1) (.gle (.a T2 T3) (.a (.a (.a T1 T4) T3) (.s T0 T4)) 1)) rfl eb) (lqz [_,_,_,_,_] (.eq (.a T0 T1) T2 1 (.gle (.a (.a (.a T1 T3) T4) (.s T0 T3)) (.a T2 T4) 1)) rfl eb)|exact Int.le_antisymm (lqz [_,_,_,_,_] (.eq (.a T0 T1) T2 (-1) (.gle (.a T2 T3) (.a (.a (.a T1 T4) T3) (.s T0 T4)) 1)) rfl ec) (lqz [_,_,_,_,_] (.eq (.a T0 T1) T2 1 (.gle (.a (.a (.a T1 T3) T4) (.s T0 T3)) (.a T2 T4) 1)) rfl ec))
  ·refine ⟨r2+W*m,r0+W*(m+1),r1+W*(m+1),?_,?_,?_,fun δ=>?_⟩
   ·rw [Int.mul_add,Int.mul_one];exact lqz [_,_,_,_] (.le Tz T0 1 (.lt T1 T2 1 (.gle (.a T1 T3) (.a T0 (.a T3 T2)) 1))) rfl a0 c1
   ·exact lqz [_,_,_] (.le T0 T1 1 (.gle (.a T0 T2) (.a T1 T2) 1)) rfl h1
   ·rw [Int.mul_add,Int.mul_one];exact lqz [_,_,_,_] (.le T0 T1 1 (.gle (.a T0 (.a T2 T3)) (.a (.a T1 T2) T3) 1)) rfl h2
   ·have:=endF_shift hW (r0+W*(m+1)+δ) (r1+W*(m+1)+δ) (r2+W*m+δ) (k0-(m+1)) (k1-(m+1)) (k2-m) (by exact Int.le_antisymm (lqz [_,_,_,_] (.eq (.a (.a T0 T1) T2) (.a (.m (.n 3) T3) Ty) 1 (.gle (.a (.a (.s T0 (.a T3 Tx)) (.s T1 (.a T3 Tx))) (.s T2 T3)) Tz 1)) rfl hm) (lqz [_,_,_,_] (.eq (.a (.a T0 T1) T2) (.a (.m (.n 3) T3) Ty) (-1) (.gle Tz (.a (.a (.s T0 (.a T3 Tx)) (.s T1 (.a T3 Tx))) (.s T2 T3)) 1)) rfl hm))
    rw [← endF_swap01 W (r2+W*m+δ),←endF_swap12 W (r0+W*(m+1)+δ),←this]
    rw [Int.mul_sub,Int.mul_sub,Int.mul_sub]
    congr 1<;>(first|exact Int.le_antisymm (lqz [_,_,_,_,_] (.eq (.a T0 T1) T2 (-1) (.gle (.a T2 T3) (.a (.a (.a T1 T4) T3) (.s T0 T4)) 1)) rfl ea) (lqz [_,_,_,_,_] (.eq (.a T0 T1) T2 1 (.gle (.a (.a (.a T1 T3) T4) (.s T0 T3)) (.a T2 T4) 1)) rfl ea)|exact Int.le_antisymm (lqz [_,_,_,_,_] (.eq (.a T0 T1) T2 (-1) (.gle (.a T2 T3) (.a (.a (.a T1 T4) T3) (.s T0 T4)) 1)) rfl eb) (lqz [_,_,_,_,_] (.eq (.a T0 T1) T2 1 (.gle (.a (.a (.a T1 T3) T4) (.s T0 T3)) (.a T2 T4) 1)) rfl eb)|exact Int.le_antisymm (lqz [_,_,_,_,_] (.eq (.a T0 T1) T2 (-1) (.gle (.a T2 T3) (.a (.a (.a T1 T4) T3) (.s T0 T4)) 1)) rfl ec) (lqz [_,_,_,_,_] (.eq (.a T0 T1) T2 1 (.gle (.a (.a (.a T1 T3) T4) (.s T0 T3)) (.a T2 T4) 1)) rfl ec))
 rcases Int.le_total (x0 % W) (x1 % W) with h01|h01<;>rcases Int.le_total (x1 % W) (x2 % W) with h12|h12<;>rcases Int.le_total (x0 % W) (x2 % W) with h02|h02
 ·exact key x0 x1 x2 h01 h12
 ·exact key x0 x1 x2 h01 h12
 ·refine goalP fun G9 hG9=>?_
  obtain ⟨t0,t1,t2,a,b,c,d⟩:=key x0 x2 x1 h02 h12
  refine hG9 ?_
  clear hG9
  exact ⟨t0,t1,t2,a,b,c,fun δ=>by rw [← d δ,endF_swap12]⟩
 ·refine goalP fun G9 hG9=>?_
  obtain ⟨t0,t1,t2,a,b,c,d⟩:=key x2 x0 x1 h02 h01
  refine hG9 ?_
  clear hG9
  exact ⟨t0,t1,t2,a,b,c,fun δ=>by rw [← d δ];exact (endF_rot W (x0+δ) (x1+δ) (x2+δ)).symm⟩
 ·refine goalP fun G9 hG9=>?_
  obtain ⟨t0,t1,t2,a,b,c,d⟩:=key x1 x0 x2 h01 h02
  refine hG9 ?_
  clear hG9
  exact ⟨t0,t1,t2,a,b,c,fun δ=>by rw [← d δ,endF_swap01]⟩
 ·refine goalP fun G9 hG9=>?_
  obtain ⟨t0,t1,t2,a,b,c,d⟩:=key x1 x2 x0 h12 h02
  refine hG9 ?_
  clear hG9
  exact ⟨t0,t1,t2,a,b,c,fun δ=>by rw [← d δ];exact endF_rot W (x1+δ) (x2+δ) (x0+δ)⟩
 ·refine goalP fun G9 hG9=>?_
  obtain ⟨t0,t1,t2,a,b,c,d⟩:=key x2 x1 x0 h12 h01
  refine hG9 ?_
  clear hG9
  exact ⟨t0,t1,t2,a,b,c,fun δ=>by rw [← d δ,endF_swap01,endF_swap12,endF_swap01]⟩
 ·refine goalP fun G9 hG9=>?_
  obtain ⟨t0,t1,t2,a,b,c,d⟩:=key x2 x1 x0 h12 h01
  refine hG9 ?_
  clear hG9
  exact ⟨t0,t1,t2,a,b,c,fun δ=>by rw [← d δ,endF_swap01,endF_swap12,endF_swap01]⟩
private theorem endF_off {W:Int} (hW:0<W) (x0 x1 x2 δ:Int):endF W (x0+δ) (x1+δ) (x2+δ)=endF W x0 x1 x2:=by
 refine goalP fun G9 hG9=>?_
 obtain ⟨t0,t1,t2,a,b,c,d⟩:=endF_exists hW x0 x1 x2
 refine hG9 ?_
 clear hG9
 have h0:=d 0
 simp only [Int.add_zero] at h0
 rw [d δ,h0,endF_window hW a b c,endF_window hW (by exact lqz [_,_,_] (.le T0 T1 1 (.gle (.a T0 T2) (.a T1 T2) 1)) rfl a) (by exact lqz [_,_,_] (.le T0 T1 1 (.gle (.a T0 T2) (.a T1 T2) 1)) rfl b) (by exact lqz [_,_,_,_] (.le T0 (.a T1 T2) 1 (.gle (.a T0 T3) (.a (.a T1 T3) T2) 1)) rfl c)]
 apply P3.ext'<;>dsimp only
 ·exact Int.le_antisymm (lqz [_,_,_] (.gle (.s (.a T0 T1) (.a T2 T1)) (.s T0 T2) 1) rfl) (lqz [_,_,_] (.gle (.s T0 T1) (.s (.a T0 T2) (.a T1 T2)) 1) rfl)
 ·exact Int.le_antisymm (lqz [_,_,_] (.gle (.s (.a T0 T1) (.a T2 T1)) (.s T0 T2) 1) rfl) (lqz [_,_,_] (.gle (.s T0 T1) (.s (.a T0 T2) (.a T1 T2)) 1) rfl)
 ·exact Int.le_antisymm (lqz [_,_,_,_] (.gle (.s (.a (.a T0 T1) T2) (.a T3 T1)) (.s (.a T0 T2) T3) 1) rfl) (lqz [_,_,_,_] (.gle (.s (.a T0 T1) T2) (.s (.a (.a T0 T3) T1) (.a T2 T3)) 1) rfl)
noncomputable def endP (W:Int) (p:P3):P3:=endF W 0 p.a (p.a+p.b)
private theorem endP_done {W:Int} (hW:0<W) {p:P3} (hs:sum3 p=W) (h:∀ k,¬ part k p<0):endP W p=p:=by
 have h0:=h 0
 have h1:=h 1
 have h2:=h 2
 simp only [part] at h0 h1 h2
 unfold sum3 at hs
 unfold endP
 rw [endF_window hW (by exact lqz [_] (.nlt T0 Tz 1 (.gle Tz T0 1)) rfl h0) (by exact lqz [_,_] (.nlt T0 Tz 1 (.gle T1 (.a T1 T0) 1)) rfl h1) (by exact lqz [_,_,_,_] (.eq (.a (.a T0 T1) T2) T3 1 (.nlt T2 Tz 1 (.gle (.a T0 T1) (.a Tz T3) 1))) rfl hs h2)]
 apply P3.ext'<;>dsimp only
 ·exact Int.le_antisymm (lqz [_] (.gle (.s T0 Tz) T0 1) rfl) (lqz [_] (.gle T0 (.s T0 Tz) 1) rfl)
 ·exact Int.le_antisymm (lqz [_,_] (.gle (.s (.a T0 T1) T0) T1 1) rfl) (lqz [_,_] (.gle T0 (.s (.a T1 T0) T1) 1) rfl)
 ·exact Int.le_antisymm (lqz [_,_,_,_] (.eq (.a (.a T0 T1) T2) T3 (-1) (.gle (.s (.a Tz T3) (.a T0 T1)) T2 1)) rfl hs) (lqz [_,_,_,_] (.eq (.a (.a T0 T1) T2) T3 1 (.gle T2 (.s (.a Tz T3) (.a T0 T1)) 1)) rfl hs)
private theorem endP_turn {W:Int} (hW:0<W) {p:P3} (hs:sum3 p=W) (k:Fin 3) (h:part k p<0):endP W (DD k p)=endP W p:=by
 unfold sum3 at hs
 match k with
 | 0=>
  simp only [part] at h
  unfold endP DD D0
  simp only [if_pos h]
  have:=endF_off hW 0 (-p.a) (-p.a+(p.b+p.a)) p.a
  rw [← this,show (0:Int)+p.a=p.a by exact Int.le_antisymm (lqz [_] (.gle (.a Tz T0) T0 1) rfl) (lqz [_] (.gle T0 (.a Tz T0) 1) rfl),show -p.a+p.a=0 by exact Int.le_antisymm (lqz [_] (.gle (.a (.g T0) T0) Tz 1) rfl) (lqz [_] (.gle Tz (.a (.g T0) T0) 1) rfl),show -p.a+(p.b+p.a)+p.a=p.a+p.b by exact Int.le_antisymm (lqz [_,_] (.gle (.a (.a (.g T0) (.a T1 T0)) T0) (.a T0 T1) 1) rfl) (lqz [_,_] (.gle (.a T0 T1) (.a (.a (.g T0) (.a T1 T0)) T0) 1) rfl),endF_swap01]
 | 1=>
  simp only [part] at h
  unfold endP DD D1
  simp only [if_pos h]
  rw [show p.a+p.b + -p.b=p.a by exact Int.le_antisymm (lqz [_,_] (.gle (.a (.a T0 T1) (.g T1)) T0 1) rfl) (lqz [_,_] (.gle T0 (.a (.a T0 T1) (.g T1)) 1) rfl),endF_swap12]
 | 2=>
  simp only [part] at h
  unfold endP DD D2
  simp only [if_pos h]
  have:=endF_off hW 0 (p.a+p.c) (p.a+p.c+(p.b+p.c)) (-p.c)
  rw [← this,show (0:Int) + -p.c=(p.a+p.b)+W*(-1) by exact Int.le_antisymm (lqz [_,_,_,_] (.eq (.a (.a T0 T1) T2) T3 (-1) (.gle (.a Tz (.g T2)) (.a (.a T0 T1) (.m T3 (.g Tx))) 1)) rfl hs) (lqz [_,_,_,_] (.eq (.a (.a T0 T1) T2) T3 1 (.gle (.a (.a T0 T1) (.m T3 (.g Tx))) (.a Tz (.g T2)) 1)) rfl hs),show p.a+p.c + -p.c=p.a+W*0 by exact Int.le_antisymm (lqz [_,_,_] (.gle (.a (.a T0 T1) (.g T1)) (.a T0 (.m T2 Tz)) 1) rfl) (lqz [_,_,_] (.gle (.a T0 (.m T1 Tz)) (.a (.a T0 T2) (.g T2)) 1) rfl),show p.a+p.c+(p.b+p.c) + -p.c=0+W*1 by exact Int.le_antisymm (lqz [_,_,_,_] (.eq (.a (.a T0 T1) T2) T3 1 (.gle (.a (.a (.a T0 T2) (.a T1 T2)) (.g T2)) (.a Tz (.m T3 Tx)) 1)) rfl hs) (lqz [_,_,_,_] (.eq (.a (.a T0 T1) T2) T3 (-1) (.gle (.a Tz (.m T3 Tx)) (.a (.a (.a T0 T2) (.a T1 T2)) (.g T2)) 1)) rfl hs),endF_shift hW _ _ _ (-1) 0 1 (by exact Int.le_antisymm (lqz [] (.gle (.a (.a (.g Tx) Tz) Tx) Tz 1) rfl) (lqz [] (.gle Tz (.a (.a (.g Tx) Tz) Tx) 1) rfl)),
   endF_swap01,endF_swap12,endF_swap01]
private theorem endP_ops {W:Int} (hW:0<W):∀ (u:List (Fin 3)) {p:P3},sum3 p=W→Full p u→endP W p=ops u p
 | [],p,hs,h=>endP_done hW hs h
 | k::u,p,hs,h=>by
  have:=endP_ops hW u ((sumD k p).trans hs) h.2
  rw [endP_turn hW hs k h.1] at this
  exact this
end Mine
end
section
namespace Mine
private theorem perm_sumI {l l':List Int} (h:l.Perm l'):l.sum=l'.sum:=by
 induction h with
 | nil=>rfl
 | cons x _ ih=>simp only [List.sum_cons,ih]
 | swap x y l=>simp only [List.sum_cons];exact Int.le_antisymm (lqz [_,_,_] (.gle (.a T0 (.a T1 T2)) (.a T1 (.a T0 T2)) 1) rfl) (lqz [_,_,_] (.gle (.a T0 (.a T1 T2)) (.a T1 (.a T0 T2)) 1) rfl)
 | trans _ _ a b=>exact a.trans b
private theorem perm3 {x0 x1 x2 a b c:Int} (h:[x0,x1,x2].Perm [a,b,c]) (g1:x0≤x1) (g2:x1≤x2):x0=min a (min b c)∧x2=max a (max b c)∧x0+x1+x2=a+b+c:=by
 have hs:x0+x1+x2=a+b+c:=by
  have:=perm_sumI h
  simp only [List.sum_cons,List.sum_nil] at this
  exact Int.le_antisymm (lqz [_,_,_,_,_,_] (.eq (.a T0 (.a T1 (.a T2 Tz))) (.a T3 (.a T4 (.a T5 Tz))) 1 (.gle (.a (.a T0 T1) T2) (.a (.a T3 T4) T5) 1)) rfl this) (lqz [_,_,_,_,_,_] (.eq (.a T0 (.a T1 (.a T2 Tz))) (.a T3 (.a T4 (.a T5 Tz))) (-1) (.gle (.a (.a T3 T4) T5) (.a (.a T0 T1) T2) 1)) rfl this)
 have ma:∀ x∈[x0,x1,x2],x=a∨x=b∨x=c:=fun x hx=>by simpa using h.mem_iff.mp hx
 have mb:∀ x∈[a,b,c],x=x0∨x=x1∨x=x2:=fun x hx=>by simpa using h.mem_iff.mpr hx
 have h0:=ma x0 (by simp)
 have h2:=ma x2 (by simp)
 have ha:=mb a (by simp)
 have hb:=mb b (by simp)
 have hc:=mb c (by simp)
 clear ma mb h
 have la:x0≤a∧a≤x2:=by rcases ha with h|h|h<;>(first|exact ⟨lqz [_,_] (.eq T0 T1 (-1) (.gle T1 T0 1)) rfl h,lqz [_,_,_,_] (.le T0 T1 1 (.le T1 T2 1 (.eq T3 T0 1 (.gle T3 T2 1)))) rfl g1 g2 h⟩|exact ⟨lqz [_,_,_] (.le T0 T1 1 (.eq T2 T1 (-1) (.gle T0 T2 1))) rfl g1 h,lqz [_,_,_] (.le T0 T1 1 (.eq T2 T0 1 (.gle T2 T1 1))) rfl g2 h⟩|exact ⟨lqz [_,_,_,_] (.le T0 T1 1 (.le T1 T2 1 (.eq T3 T2 (-1) (.gle T0 T3 1)))) rfl g1 g2 h,lqz [_,_] (.eq T0 T1 1 (.gle T0 T1 1)) rfl h⟩)
 have lb:x0≤b∧b≤x2:=by rcases hb with h|h|h<;>(first|exact ⟨lqz [_,_] (.eq T0 T1 (-1) (.gle T1 T0 1)) rfl h,lqz [_,_,_,_] (.le T0 T1 1 (.le T1 T2 1 (.eq T3 T0 1 (.gle T3 T2 1)))) rfl g1 g2 h⟩|exact ⟨lqz [_,_,_] (.le T0 T1 1 (.eq T2 T1 (-1) (.gle T0 T2 1))) rfl g1 h,lqz [_,_,_] (.le T0 T1 1 (.eq T2 T0 1 (.gle T2 T1 1))) rfl g2 h⟩|exact ⟨lqz [_,_,_,_] (.le T0 T1 1 (.le T1 T2 1 (.eq T3 T2 (-1) (.gle T0 T3 1)))) rfl g1 g2 h,lqz [_,_] (.eq T0 T1 1 (.gle T0 T1 1)) rfl h⟩)
 have lc:x0≤c∧c≤x2:=by rcases hc with h|h|h<;>(first|exact ⟨lqz [_,_] (.eq T0 T1 (-1) (.gle T1 T0 1)) rfl h,lqz [_,_,_,_,_,_] (.le T0 T1 1 (.eq (.a (.a T2 T0) T1) (.a (.a T3 T4) T5) (-1) (.le T2 T3 1 (.le T2 T4 1 (.eq T5 T2 1 (.gle T5 T1 2)))))) rfl g2 hs la.1 lb.1 h⟩|exact ⟨lqz [_,_,_] (.le T0 T1 1 (.eq T2 T1 (-1) (.gle T0 T2 1))) rfl g1 h,lqz [_,_,_] (.le T0 T1 1 (.eq T2 T0 1 (.gle T2 T1 1))) rfl g2 h⟩|exact ⟨lqz [_,_,_,_,_,_] (.le T0 T1 1 (.eq (.a (.a T0 T1) T2) (.a (.a T3 T4) T5) 1 (.le T3 T2 1 (.le T4 T2 1 (.eq T5 T2 (-1) (.gle T0 T5 2)))))) rfl g1 hs la.2 lb.2 h,lqz [_,_] (.eq T0 T1 1 (.gle T0 T1 1)) rfl h⟩)
 clear ha hb hc
 refine ⟨?_,?_,hs⟩
 ·refine Int.le_antisymm (Int.le_min.mpr ⟨la.1,Int.le_min.mpr ⟨lb.1,lc.1⟩⟩) ?_
  rcases h0 with h|h|h<;>rw [h]
  ·exact Int.min_le_left _ _
  ·exact Int.le_trans (Int.min_le_right _ _) (Int.min_le_left _ _)
  ·exact Int.le_trans (Int.min_le_right _ _) (Int.min_le_right _ _)
 ·refine Int.le_antisymm ?_ (Int.max_le.mpr ⟨la.2,Int.max_le.mpr ⟨lb.2,lc.2⟩⟩)
  rcases h2 with h|h|h<;>rw [h]
  ·exact Int.le_max_left _ _
  ·exact Int.le_trans (Int.le_max_left _ _) (Int.le_max_right _ _)
  ·exact Int.le_trans (Int.le_max_right _ _) (Int.le_max_right _ _)
private theorem end_is {W a b wh x0 x1 x2:Int} (hW:0<W) (hpm:[x0,x1,x2].Perm [Int.fmod 0 W,Int.fmod a W,Int.fmod b W]) (g1:x0≤x1) (g2:x1≤x2) (hwh:wh=Int.fdiv 0 W+Int.fdiv a W+Int.fdiv b W) :
  (⟨[x1-x0,x2-x1,W+x0-x2].getD (Int.fmod (wh+((0:Nat):Int)) 3).toNat 0,[x1-x0,x2-x1,W+x0-x2].getD (Int.fmod (wh+((1:Nat):Int)) 3).toNat 0,[x1-x0,x2-x1,W+x0-x2].getD (Int.fmod (wh+((2:Nat):Int)) 3).toNat 0⟩:P3)=endF W 0 a b:=by
 have hf:∀ z:Int,Int.fmod z W=z % W:=fun z=>Int.fmod_eq_emod_of_nonneg z (by exact lqz [_] (.lt Tz T0 1 (.gle Tz T0 1)) rfl hW)
 have hd:∀ z:Int,Int.fdiv z W=z/W:=fun z=>Int.fdiv_eq_ediv_of_nonneg z (by exact lqz [_] (.lt Tz T0 1 (.gle Tz T0 1)) rfl hW)
 have hf3:∀ z:Int,Int.fmod z 3=z % 3:=fun z=>Int.fmod_eq_emod_of_nonneg z (by exact lqz [] (.gle Tz (.n 3) 1) rfl)
 rw [hf,hf,hf] at hpm
 rw [hd,hd,hd] at hwh
 refine and3 (perm3 hpm g1 g2) fun e0 e2 es=>?_
 unfold endF
 dsimp only
 rw [← e0,←e2,←hwh,←es,hf3,hf3,hf3]
 rw [show x0+x1+x2-x0-x2=x1 by exact Int.le_antisymm (lqz [_,_,_] (.gle (.s (.s (.a (.a T0 T1) T2) T0) T2) T1 1) rfl) (lqz [_,_,_] (.gle T0 (.s (.s (.a (.a T1 T0) T2) T1) T2) 1) rfl)]
 clear e0 e2 es hpm hwh
 have h3:wh % 3=0∨wh % 3=1∨wh % 3=2:=by lia -abstractProof
 rcases h3 with h|h|h
 ·have a0:(wh+((0:Nat):Int)) % 3=0:=by lia -abstractProof
  have a1:(wh+((1:Nat):Int)) % 3=1:=by lia -abstractProof
  have a2:(wh+((2:Nat):Int)) % 3=2:=by lia -abstractProof
  rw [a0,a1,a2,if_pos h];rfl
 ·have a0:(wh+((0:Nat):Int)) % 3=1:=by lia -abstractProof
  have a1:(wh+((1:Nat):Int)) % 3=2:=by lia -abstractProof
  have a2:(wh+((2:Nat):Int)) % 3=0:=by lia -abstractProof
  rw [a0,a1,a2,if_neg (by lia -abstractProof),if_pos h];rfl
 ·have a0:(wh+((0:Nat):Int)) % 3=2:=by lia -abstractProof
  have a1:(wh+((1:Nat):Int)) % 3=0:=by lia -abstractProof
  have a2:(wh+((2:Nat):Int)) % 3=1:=by lia -abstractProof
  rw [a0,a1,a2,if_neg (by lia -abstractProof),if_neg (by lia -abstractProof)];rfl
noncomputable def cntF (W x:Int):Int:=if x<0 then 0-Int.fdiv x W else Int.fdiv (max 0 (x-1)) W
private theorem count_is {W:Int} (hW:0<W) (p:P3):cntF W p.a+cntF W p.b+cntF W p.c=nP W p:=by
 have hd:∀ z:Int,Int.fdiv z W=z/W:=fun z=>Int.fdiv_eq_ediv_of_nonneg z (by exact lqz [_] (.lt Tz T0 1 (.gle Tz T0 1)) rfl hW)
 have:∀ x,cntF W x=nOf W x:=by
  intro x
  unfold cntF nOf
  rw [hd,hd]
  split<;>(first|exact Int.le_antisymm (lqz [_] (.gle (.s Tz T0) (.g T0) 1) rfl) (lqz [_] (.gle (.g T0) (.s Tz T0) 1) rfl)|exact Int.le_antisymm (lqz [_] (.gle T0 T0 1) rfl) (lqz [_] (.gle T0 T0 1) rfl))
 unfold nP
 rw [this,this,this]
end Mine
end
section
open PySem PySem.W PyProof.Rows PySem.Flt PySem.Calls
namespace Mine
section
variable {h₀ h:Heap} {L:Addr} {m:PySem.Str→Option Value}
private theorem stl_ext (F:Fr h₀ L h m) {refs:List Value} {qs:List P3} (z:StL h [] refs qs):∃ ext,News h₀ L h ext∧StL h₀ ext refs qs∧∀ p∈ext,p.2.cls = .type "list" := by
 induction z with
 | nil=>exact ⟨[],News.nil,.nil,fun _ h=>nomatch h⟩
 | @cons P q t0 t1 t2 n _ _ hp z ih=>
  obtain ⟨ext,N,S,C⟩:=ih
  have e:h.get? P=some (lst3 q t0 t1 t2 n):=hp.elim id fun x=>nomatch x
  cases e0:h₀.get? P with
  | some o=>
   have e1:=F.keep _ _ e0
   rw [e] at e1
   cases e1
   exact ⟨ext,N,.cons (.inl e0) S,C⟩
  | none=>
   refine ⟨(P,lst3 q t0 t1 t2 n)::ext,fun p hp=>?_,.cons (.inr (.head _)) (S.mono fun p hp=>.tail _ hp),fun p hp=>by
    rcases List.mem_cons.mp hp with rfl|hp
    ·rfl
    ·exact C p hp⟩
   rcases List.mem_cons.mp hp with rfl|hp
   ·exact ⟨e,fr_ne F e (fun es ep=>by intro x;cases x),e0⟩
   ·exact N p hp
variable {w:World} {p:Program} {loose:List PySem.Str} {mean:ExcName→Option Value} {mg mb:PySem.Str→Option Value} {dp un:Nat} {gd:Option (List Code)} {fr:Option (List Env)} {s:Shared} {Q E:Value→Shared→Prop}
private theorem c_playK {P Fg:Addr} {q:P3} {W:Int} {t0 t1 t2 tw:Tok} {n e:Nat} {pl pq:Array Value} {fvs:List Value} {fns:List Int} {rest:List (Addr × Obj)}
 (F:Fr h₀ L s.heap m) (N:News h₀ L s.heap ((98,tbO pl)::(105,tbO pq)::rest)) (hO:∀ p∈rest,@Ne Nat p.1 98∧@Ne Nat p.1 105) (X:(hd.heap_1 w.params).In h₀) (T:Top p loose mean mg mb h₀) (hdp:dp+14<recursionLimit) (hu:un+300<cLine) (G:AllBare s.gens)
 (hW:60≤W∧W≤1000) (hq:InB W q) (TF:TurnFact W) (hP:(P,lst3 q t0 t1 t2 n)∈rest) (hF:(Fg,lst fvs e)∈rest) (hfi:IntsAre fvs fns) (hfl:fns.length=12) (hpl:TabIs pLen pl) (hpq:TabIs pStr pq)
 (hret:∀ s' r S t refs nS pl' pq' l ext,TabIs pLen pl'→TabIs pStr pq'→Full q l→StL h₀ ext refs (scan q l)→(∀ p∈ext,p.2.cls = .type "list")→Fr h₀ L s'.heap m→News h₀ L s'.heap ((98,tbO pl')::(105,tbO pq')::(r,tup [.str (wS l) t,.ref S])::(S,lst refs nS)::(rest++ext))→(∀ p∈rest,@Ne Nat p.1 r∧@Ne Nat p.1 S)→AllBare s'.gens→s'.os=s.os→Q (.ref r) s') :
 wpAny (model PySem.Challenge.rw_sc0045_01.prog w) (AA dp un gd fr) (call (.ref 152) [.ref P,.int W tw,.ref Fg]) Q E s:=by
 have hm:∀ a∈[98,105],∃ o,(a,o)∈(98,tbO pl)::(105,tbO pq)::rest:=hide_mem2 (.head _) (.tail _ (.head _))
 have hk:=hide_keep F N hm
 have out:∀ {b:Addr} {o:Obj},(b,o)∈rest→b ∉ [98,105]:=fun hb hh=>by
  rcases List.mem_cons.mp hh with q|q
  ·exact (hO _ hb).1 q
  ·exact (hO _ hb).2 (List.mem_singleton.mp q)
 have hin:∀ {b:Addr} {o:Obj},(b,o)∈rest→(hideAll s.heap [98,105]).get? b=some o:=fun hb=>hideAll_get _ (N.get (.tail _ (.tail _ hb))) (out hb)
 refine c_play (X.keeps hk) (T.keeps hk) hdp hu G hW hq TF (hin hP) ⟨_,hin hF,rfl,e,rfl⟩ hfi hfl (N.get (.head _)) hpl (N.get (.tail _ (.head _))) hpq fun s' r S t refs nS pl' pq' l hpl' hpq' hb h98 h105 hr hr' hS hS' hst hf G' o'=>?_
 have F':Fr h₀ L s'.heap m:=but_fr F N hm hb
 obtain ⟨ext,Nx,Sx,Cx⟩:=stl_ext F' hst
 have new:∀ {b:Addr} {o:Obj},s.heap.get? b=none→s'.heap.get? b=some o→s'.heap.get? b=some o∧b≠L∧h₀.get? b=none:=by
  intro b o hb hb'
  refine ⟨hb',fun q=>?_,?_⟩
  ·subst q
   obtain ⟨oL,es,ep,hL,_⟩:=F.ns
   rw [hL] at hb;cases hb
  ·cases e0:h₀.get? b with
   | none=>rfl
   | some o=>have:=F.keep _ _ e0;rw [hb] at this;cases this
 refine hret s' r S t refs nS pl' pq' l ext hpl' hpq' hf Sx Cx F' ?_ ?_ G' o'
 ·intro z hz
  rcases List.mem_cons.mp hz with rfl|hz
  ·exact ⟨h98,(N _ (.head _)).2⟩
  rcases List.mem_cons.mp hz with rfl|hz
  ·exact ⟨h105,(N _ (.tail _ (.head _))).2⟩
  rcases List.mem_cons.mp hz with rfl|hz
  ·exact new hr hr'
  rcases List.mem_cons.mp hz with rfl|hz
  ·exact new hS hS'
  rcases List.mem_append.mp hz with hz|hz
  ·exact ⟨hb _ _ (out (b:=z.1) (o:=z.2) hz) (N.get (.tail _ (.tail _ hz))),(N _ (.tail _ (.tail _ hz))).2⟩
  ·exact Nx _ hz
 ·intro z hz
  have hz':=N.get (a:=z.1) (o:=z.2) (.tail _ (.tail _ hz))
  refine ⟨fun q=>?_,fun q=>?_⟩
  ·have q':z.1=r:=q
   rw [q',hr] at hz';cases hz'
  ·have q':z.1=S:=q
   rw [q',hS] at hz';cases hz'
private theorem c_playL {P Fg:Addr} {q:P3} {W:Int} {t0 t1 t2 tw:Tok} {n e:Nat} {pl pq:Array Value} {fvs:List Value} {fns:List Int} {rest:List (Addr × Obj)}
 (F:Fr h₀ L s.heap m) (N:News h₀ L s.heap ((98,tbO pl)::(105,tbO pq)::(Fg,lst fvs e)::rest)) (hO:∀ p∈(Fg,lst fvs e)::rest,@Ne Nat p.1 98∧@Ne Nat p.1 105) (X:(hd.heap_1 w.params).In h₀) (T:Top p loose mean mg mb h₀) (hdp:dp+14<recursionLimit) (hu:un+300<cLine) (G:AllBare s.gens)
 (hW:60≤W∧W≤1000) (hq:InB W q) (TF:TurnFact W) (hP:(P,lst3 q t0 t1 t2 n)∈rest) (hfi:IntsAre fvs fns) (hfl:fns.length=12) (hpl:TabIs pLen pl) (hpq:TabIs pStr pq)
 (hret:∀ s' r S t refs nS pl' pq' l ext,TabIs pLen pl'→TabIs pStr pq'→Full q l→StL h₀ ext refs (scan q l)→(∀ p∈ext,p.2.cls = .type "list")→Fr h₀ L s'.heap m→News h₀ L s'.heap ((98,tbO pl')::(105,tbO pq')::(r,tup [.str (wS l) t,.ref S])::(S,lst refs nS)::((Fg,lst fvs e)::rest++ext))→(∀ p∈(Fg,lst fvs e)::rest,@Ne Nat p.1 r∧@Ne Nat p.1 S)→AllBare s'.gens→s'.os=s.os→Q (.ref r) s') :
 wpAny (model PySem.Challenge.rw_sc0045_01.prog w) (AA dp un gd fr) (call (.ref 152) [.ref P,.int W tw,.ref Fg]) Q E s:=
 c_playK F N hO X T hdp hu G hW hq TF (.tail _ hP) (.head _) hfi hfl hpl hpq hret
private theorem c_ledK {R:Addr} {q:P3} {W:Int} {lw lo:Wd} {tw to tW:Tok} {pq:Array Value} {refs:List Value} {nS:Nat} {news ext:List (Addr × Obj)} (keep:List (Addr × Obj))
 (F:Fr h₀ L s.heap m) (N:News h₀ L s.heap news) (h105:(105,tbO pq)∈news) (X:(hd.heap_1 w.params).In h₀) (T:Top p loose mean mg mb h₀) (hdp:dp+18<recursionLimit) (hu:un+400<cLine) (G:AllBare s.gens)
 (hW:60≤W∧W≤1000) (hq:InB W q) (TF:TurnFact W) (hfw:Full q lw) (hfo:Full q lo) (hS:(R,lst refs nS)∈news) (hR:@Ne Nat R 105) (hst:StL h₀ ext refs (scan q lo)) (hx:∀ p∈ext,p∈news) (hx2:∀ p∈ext,@Ne Nat p.1 105) (hps:TabIs pStr pq)
 (hk:∀ p∈keep,p∈news) (hk2:∀ p∈keep,@Ne Nat p.1 105)
 (hret:∀ s' t ps',Fr h₀ L s'.heap m→News h₀ L s'.heap ((105,tbO ps')::keep)→AllBare s'.gens→s'.os=s.os→Q (.str (wS lo) t) s') :
 wpAny (model PySem.Challenge.rw_sc0045_01.prog w) (AA dp un gd fr) (call (.ref 166) [.str (wS lw) tw,.str (wS lo) to,.ref R,.int W tW]) Q E s:=by
 have hm:=hide_mem1 h105
 have hkp:=hide_keep F N hm
 have hin:∀ {b:Addr} {o:Obj},(b,o)∈news→@Ne Nat b 105→(hideAll s.heap [105]).get? b=some o:=fun hb hn=>hideAll_get _ (N.get hb) fun hh=>hn (List.mem_singleton.mp hh)
 refine c_led (X.keeps hkp) (T.keeps hkp) hdp hu G hW hq TF hfw hfo (hin hS hR) (hst.base fun P o z=>z.elim (fun e=>hkp _ _ e) fun e=>hin (hx _ e) (hx2 _ e)) (N.get h105) hps fun s' t ps' hb h105' G' o'=>?_
 exact hret s' t ps' (but_fr F N hm hb) ((fcons ⟨h105',(N _ h105).2⟩ (fun z hz=>⟨hb _ _ (fun hh=>hk2 z hz (List.mem_singleton.mp hh)) (N.get (a:=z.1) (o:=z.2) (hk z hz)),(N z (hk z hz)).2⟩))) G' o'
end
end Mine
end
section
open PySem PySem.W PyProof.Rows PySem.Flt PySem.Calls
namespace Mine
theorem Mkrrrrrrrrrrrrrrrrrrrrrrrrrrrrr:True:=by w_top off;trivial
private theorem ctW1 {x0:Int} (h0:0≤x0):0<(2*(60+x0)):=lqz [x0] (.le Tz T0 2 (.glt Tz (.m Ty (.a (.n 60) T0)) 1)) rfl h0
private theorem ctW2 {x0:Int} (h0:0≤x0):0<(4*(60+x0)):=lqz [x0] (.le Tz T0 4 (.glt Tz (.m (.n 4) (.a (.n 60) T0)) 1)) rfl h0
private theorem ctW3 {x0:Int} (h0:0≤x0):60≤(60+x0):=lqz [x0] (.le Tz T0 1 (.gle (.n 60) (.a (.n 60) T0) 1)) rfl h0
private theorem ctW4 {x0:Int} (h0:x0<941):(60+x0)≤1000:=lqz [x0] (.lt T0 (.n 941) 1 (.gle (.a (.n 60) T0) (.n 1000) 1)) rfl h0
private theorem ctW5 {x0 x1:Int} (h0:x0<(2*(60+x1))):((-1)-(2*(60+x1)))<((0-1)-x0):=lqz [x0,x1] (.lt T0 (.m Ty (.a (.n 60) T1)) 1 (.glt (.s (.g Tx) (.m Ty (.a (.n 60) T1))) (.s (.s Tz Tx) T0) 1)) rfl h0
private theorem ctW6 {x0:Int} (h0:0≤x0):((0-1)-x0)≤(-1):=lqz [x0] (.le Tz T0 1 (.gle (.s (.s Tz Tx) T0) (.g Tx) 1)) rfl h0
private theorem ctW7 {x0 x1:Int} (h0:0≤x0):(-(2*(60+x1)))≤(x0-(2*(60+x1))):=lqz [x0,x1] (.le Tz T0 1 (.gle (.g (.m Ty (.a (.n 60) T1))) (.s T0 (.m Ty (.a (.n 60) T1))) 1)) rfl h0
private theorem ctW8 {x0 x1:Int} (h0:x0<(4*(60+x1))):(x0-(2*(60+x1)))<(2*(60+x1)):=lqz [x0,x1] (.lt T0 (.m (.n 4) (.a (.n 60) T1)) 1 (.glt (.s T0 (.m Ty (.a (.n 60) T1))) (.m Ty (.a (.n 60) T1)) 1)) rfl h0
private theorem ctW9 {x0 x1 x2:Int}:((x0+x1)+((x2-x0)-x1))=x2:=Int.le_antisymm (lqz [x0,x1,x2] (.gle (.a (.a T0 T1) (.s (.s T2 T0) T1)) T2 1) rfl) (lqz [x2,x0,x1] (.gle T0 (.a (.a T1 T2) (.s (.s T0 T1) T2)) 1) rfl)
private theorem ctW10 {x0 x1 x2:Int}:((x0+((x1-x2)-x0))+x2)=x1:=Int.le_antisymm (lqz [x0,x1,x2] (.gle (.a (.a T0 (.s (.s T1 T2) T0)) T2) T1 1) rfl) (lqz [x1,x0,x2] (.gle T0 (.a (.a T1 (.s (.s T0 T2) T1)) T2) 1) rfl)
private theorem ctW11 {x0 x1 x2:Int}:((((x0-x1)-x2)+x1)+x2)=x0:=Int.le_antisymm (lqz [x0,x1,x2] (.gle (.a (.a (.s (.s T0 T1) T2) T1) T2) T0 1) rfl) (lqz [x0,x1,x2] (.gle T0 (.a (.a (.s (.s T0 T1) T2) T1) T2) 1) rfl)
private theorem ctW13 {x0 x1 x2:Int}:(x0+(x1+(x2+0)))=((x0+x1)+x2):=Int.le_antisymm (lqz [x0,x1,x2] (.gle (.a T0 (.a T1 (.a T2 Tz))) (.a (.a T0 T1) T2) 1) rfl) (lqz [x0,x1,x2] (.gle (.a (.a T0 T1) T2) (.a T0 (.a T1 (.a T2 Tz))) 1) rfl)
private theorem ctW14 {x0:Int} (h0:0≤x0):0≤x0:=lqz [x0] (.le Tz T0 1 (.gle Tz T0 1)) rfl h0
private theorem ctW15 {x0:Int} (h0:60≤x0):0<x0:=lqz [x0] (.le (.n 60) T0 1 (.glt Tz T0 1)) rfl h0
private theorem ctW16 {x0:Nat} (h0:x0=12):x0≤16777216:=lqn [x0] (.eq T0 (.n 12) 1 (.gle T0 (.n 16777216) 1)) rfl h0
private theorem ctW17 {x0 x1:Int} (h0:x0=x1):x0=x1:=Int.le_antisymm (lqz [x0,x1] (.eq T0 T1 1 (.gle T0 T1 1)) rfl h0) (lqz [x0,x1] (.eq T0 T1 (-1) (.gle T1 T0 1)) rfl h0)
private theorem ctW18 {x0:Int} (h0:x0=0):x0≤0:=lqz [x0] (.eq T0 Tz 1 (.gle T0 Tz 1)) rfl h0
private theorem mem3 {R:Addr} {a b c:Int} {t0 t1 t2:Tok} {n:Nat} {l:List (Addr × Obj)} (h:(R,PySem.W.listOf #[.int a t0,.int b t1,.int c t2] n)∈l):(R,lst3 ⟨a,b,c⟩ t0 t1 t2 n)∈l:=h
private theorem lz_tw1 {k:Int} (h:k<0+((12-0:Int).toNat:Int)):k≤1000000:=by lia
private theorem lz_tw2 {k:Int} (h:k<0+((12-0:Int).toNat:Int)):k<9000:=by lia
private theorem src3 {a b c:Int} {ta tb tc:Tok} {i:Nat} {v:Value} (h:(#[Value.int a ta,Value.int b tb,Value.int c tc]:Array Value)[i]?=some v):∃ t,v = .int ([a,b,c].getD i 0) t:=by
 match i,h with
 | 0,h=>exact ⟨ta,by simpa using h.symm⟩
 | 1,h=>exact ⟨tb,by simpa using h.symm⟩
 | 2,h=>exact ⟨tc,by simpa using h.symm⟩
 | n+3,h=>simp at h
private theorem sorted3 {l:List Int} {a b c:Int} (h:l.Perm [a,b,c]) (hs:List.Pairwise (fun x y=>x≤y) l):∃ x0 x1 x2,l=[x0,x1,x2]∧x0≤x1∧x1≤x2:=by
 match l,h.length_eq,hs with
 | [x0,x1,x2],_,hs=>
  simp only [List.pairwise_cons,List.mem_cons,List.not_mem_nil,or_false,forall_eq_or_imp,forall_eq] at hs
  exact ⟨x0,x1,x2,rfl,hs.1.1,hs.2.1⟩
private theorem ints3v {vs:List Value} {a b c:Int} (h:IntsAre vs [a,b,c]):∃ t u v,vs=[.int a t,.int b u,.int c v]:=by
 cases h with
 | cons _ t h=>cases h with
  | cons _ u h=>cases h with
   | cons _ v h=>cases h;exact ⟨t,u,v,rfl⟩
private theorem memV {R:Addr} {vs:List Value} {n:Nat} {l:List (Addr × Obj)} (h:(R,PySem.W.listOf vs.toArray n)∈l):(R,lst vs n)∈l:=h
private theorem memE {R:Addr} {a b c:Int} {t0 t1 t2:Tok} {l:List (Addr × Obj)} (h:(R,LCg.lst [Value.int a t0,.int b t1,.int c t2])∈l):(R,lst3 ⟨a,b,c⟩ t0 t1 t2 3)∈l:=h
private theorem cnt_neg {W x:Int} {u:Tok} (h:x<0):∃ t,Value.int (0-Int.fdiv x W) u=Value.int (cntF W x) t:=⟨u,by unfold cntF;rw [if_pos h]⟩
private theorem cnt_pos {W x:Int} {u:Tok} (h:¬ x<0):∃ t,Value.int (Int.fdiv (if x-1>0 then x-1 else 0) W) u=Value.int (cntF W x) t:=⟨u,by
 unfold cntF
 rw [if_neg h]
 by_cases q:x-1>0
 ·rw [if_pos q,Int.max_eq_right (by omega)]
 ·rw [if_neg q,Int.max_eq_left (by omega)]⟩
private theorem ints_of:∀ {n:Nat} {ys:List Value},ys.length=n→(∀ (i:Nat) (y:Value),ys[i]?=some y→∃ z t,y=Value.int z t)→∃ ns,IntsAre ys ns∧ns.length=n
 | _,[],h,_=>⟨[],.nil,h⟩
 | _,y::ys,h,hr=>by
  obtain ⟨z,t,rfl⟩:=hr 0 y rfl
  obtain ⟨ns,a,b⟩:=ints_of (n:=ys.length) (ys:=ys) rfl fun i y e=>hr (i+1) y (by simpa using e)
  exact ⟨z::ns,.cons z t a,by rw [List.length_cons,b,←h,List.length_cons]⟩
private theorem memF {R:Addr} {ys:List Value} {l:List (Addr × Obj)} (h:(R,LCg.lst ys)∈l):(R,lst ys ys.length)∈l:=h
private theorem lz_sumB {prog:Program} {w:World} {A:Around} {E:Value→Shared→Prop} {s:Shared} {h₀:Heap} {L R:Addr} {m:PySem.Str→Option Value} {news:List (Addr × Obj)} {Q:Value→Shared→Prop} {vs:List Value} {ns:List Int} (hh:A.handled=none) (F:Fr h₀ L s.heap m) (N:News h₀ L s.heap news) (hl:h₀.IsList R vs.toArray) (hi:IntsAre vs ns)
  (h:∀ h' tk t,Fr h₀ L h' m→News h₀ L h' news→Q (.int ns.sum t) { s with heap:=h',toks:=tk }):wpAny (model prog w) A (call (.builtin "sum") [.ref R]) Q E s:=by
 have hl:s.heap.IsList R vs.toArray:=Fr.lst F hl
 obtain ⟨xs,hx⟩:=hi.allInts.items
 rw [hx] at hl
 refine sum_intListG hh hl fun h' tk t' hk=>?_
 have q:=h h' tk t' (F.keeps hk) fun p hp=>⟨hk _ _ (N p hp).1,(N p hp).2⟩
 have e1:preSum (numAt xs) xs.size=ns.sum:=by
  rw [preSum_eq,List.take_of_length_le (by simp)]
  have e2:numsOf (intItems xs).toList=numsOf vs:=by rw [← hx]
  rw [nums_intItems,hi.numsOf] at e2
  rw [e2]
 rw [e1]
 exact q
private theorem news_sub {h₀ h:Heap} {L:Addr} {l news:List (Addr × Obj)} (N:News h₀ L h news) (hs:∀ p∈l,p∈news):News h₀ L h l:=fun p hp=>N p (hs p hp)
private theorem neO {h₀ h:Heap} {L a b:Addr} {o o':Obj} {news:List (Addr × Obj)} (N:News h₀ L h news) (ha:(a,o)∈news) (hb:(b,o')∈news) (hc:o.cls≠o'.cls):@Ne Nat a b:=fun q=>by
 have q':a=b:=q
 subst q'
 have:=N.get ha
 rw [N.get hb] at this
 cases this
 exact hc rfl
private theorem stl_last {h₀:Heap} {ext:List (Addr × Obj)} {refs:List Value} {q:P3} {l:Wd} {W:Int} (hW:0<W) (hq:InB W q) (hf:Full q l) (hst:StL h₀ ext refs (scan q l)):∃ Pl t0 t1 t2 n ext1,RefAt refs (-1) (.ref Pl)∧PAt h₀ ext1 Pl (lst3 (ops l q) t0 t1 t2 n)∧(∀ p∈ext1,p∈ext∧p.2.cls = .type "list"):=by
 have hlo:(l.length:Int)≤12:=by rw [full_len hW l q hq.1 hf];exact nP_le hW hq
 have hrl:refs.length=l.length+1:=by rw [hst.length,scan_len]
 refine goalP fun G9 hG9=>?_
 obtain ⟨Pl,l0,l1,l2,ln,hl1,hl2⟩:=hst.get l.length (ops l q) (by have:=scan_get l q l.length (Nat.le_refl _);rwa [List.take_length] at this)
 refine hG9 ?_
 clear hG9 G9
 rcases hl2 with e|e
 ·exact ⟨Pl,l0,l1,l2,ln,[],refAt_last hrl hl1 (by omega),.inl e,fun _ h=>nomatch h⟩
 ·exact ⟨Pl,l0,l1,l2,ln,[(Pl,lst3 (ops l q) l0 l1 l2 ln)],refAt_last hrl hl1 (by omega),.inr (.head _),fun p hp=>by rw [List.mem_singleton.mp hp];exact ⟨e,rfl⟩⟩
private theorem ints_at {vs:List Value} {ns:List Int} (hi:IntsAre vs ns):∀ (i:Nat) (v:Value),vs[i]?=some v→∃ z t,v=Value.int z t:=by
 induction hi with
 | nil=>intro i v h;simp at h
 | cons z t _ ih=>
  intro i v h
  cases i with
  | zero=>simp at h;exact ⟨z,t,h.symm⟩
  | succ i=>exact ih i v (by simpa using h)
private theorem lz_refN {prog:Program} {w:World} {A:Around} {E:Value→Shared→Prop} {s:Shared} {h₀:Heap} {L R:Addr} {news:List (Addr × Obj)} {Q:Value→Shared→Prop} {value slice:PySem.Expr} {vs:List Value} {n:Nat} {i:Int} {u:Tok} {v:Value} (N:News h₀ L s.heap news) (hS:(R,lst vs n)∈news) (hr:RefAt vs i v) (h:Q v s)
  (hs:subscripted slice false (.ref R) (.int i u)=operate [.ref R,.int i u] (getItem (.ref R) (.int i u))):wpAny (model prog w) A (subscriptTail value slice (.ref R) (.int i u)) Q E s:=
 ld_ref ⟨_,N.get hS,rfl,n,rfl⟩ hr h hs
private theorem lz_ne {prog:Program} {w:World} {A:Around} {E:Value→Shared→Prop} {s:Shared} {h₀:Heap} {L:Addr} {m:PySem.Str→Option Value} {news:List (Addr × Obj)} {Q:Value→Shared→Prop} {P Pl:Addr} {ext:List (Addr × Obj)} {p p':P3} {t0 t1 t2 u0 u1 u2:Tok} {n n':Nat} (F:Fr h₀ L s.heap m) (N:News h₀ L s.heap news) (hP:PAt h₀ ext P (lst3 p t0 t1 t2 n)) (hsub:∀ z∈ext,z∈news)
  (hl:(Pl,lst3 p' u0 u1 u2 n')∈news) (e:p=p') (hu:A.units+64<cLine) (h:Q (.bool false) s):wpAny (model prog w) A (compareOp .NotEq (.ref P) (.ref Pl)) Q E s:=by
 subst e
 refine ne3 ⟨_,pat_get hP F N hsub,rfl,n,rfl⟩ ⟨_,N.get hl,rfl,n',rfl⟩ hu ?_
 simpa using h
private theorem lz_ne2 {prog:Program} {w:World} {A:Around} {E:Value→Shared→Prop} {s:Shared} {h₀:Heap} {L:Addr} {news:List (Addr × Obj)} {Q:Value→Shared→Prop} {P Pl:Addr} {p p':P3} {t0 t1 t2 u0 u1 u2:Tok} {n n':Nat} (N:News h₀ L s.heap news) (hP:(P,lst3 p t0 t1 t2 n)∈news)
  (hl:(Pl,lst3 p' u0 u1 u2 n')∈news) (e:p=p') (hu:A.units+64<cLine) (h:Q (.bool false) s):wpAny (model prog w) A (compareOp .NotEq (.ref P) (.ref Pl)) Q E s:=by
 subst e
 refine ne3 ⟨_,N.get hP,rfl,n,rfl⟩ ⟨_,N.get hl,rfl,n',rfl⟩ hu ?_
 simpa using h
private theorem ws_len {W:Int} {q:P3} {l:Wd} (hW:0<W) (hq:InB W q) (hf:Full q l):((wS l).length:Int)=nP W q∧(wS l).length≤1000:=by
 have e1:((wS l).length:Int)=(l.length:Int):=by
  show ((l.map cod).length:Int)=_
  rw [List.length_map]
 have e2:=full_len hW l q hq.1 hf
 have e3:=nP_le hW hq
 constructor<;>omega
structure ListMark:Prop where
private theorem memL {R:Addr} {a b c:Value} {n:Nat} {l:List (Addr × Obj)} (h:(R,PySem.W.listOf #[a,b,c] n)∈l):(R,lst [a,b,c] n)∈l:=h
section
variable {w:World} {p:Program} {loose:List Str} {mean:ExcName→Option Value} {mg mb:Str→Option Value} {dp un:Nat} {gd:Option (List Code)} {fr:Option (List Env)} {s:Shared} {Q E:Value→Shared→Prop}
private theorem c_law {R:Result→Shared→Prop} {S:Addr} {vs:List Value} {ns:List Int} {pl pq:Array Value}
 (X:(hd.heap_1 w.params).In (hideAll s.heap [98,105])) (T:Top p loose mean mg mb (hideAll s.heap [98,105])) (hdp:dp+30<recursionLimit) (hu:un+600<cLine) (G:AllBare s.gens)
 (TF:∀ W:Int,60≤W→W≤1000→TurnFact W) (hS:(hideAll s.heap [98,105]).IsList S vs.toArray) (hi:IntsAre vs ns)
 (hp:s.heap.get? 98=some (tbO pl)) (hpl:TabIs pLen pl) (hp2:s.heap.get? 105=some (tbO pq)) (hpq:TabIs pStr pq) (hz:vs.length≤1000)
 (hret:∀ s' pl' pq',ButExt [98,105] s.heap s'.heap→s'.heap.get? 98=some (tbO pl')→s'.heap.get? 105=some (tbO pq')→AllBare s'.gens→s'.os=s.os→R (.ok (.ret (.bool true))) s') :
 codeAny (model PySem.Challenge.rw_sc0045_01.prog w) (AA dp un gd fr) (.call (.ref 171) { pos:=[.ref S] }) R s:=by
 revert X
 k_fill
 intro X
 have hl9:∀ q∈[(98,tbO pl),(105,tbO pq)],s.heap.get? q.1=some q.2∧q.1∈[98,105]:=by
  intro p hp'
  rcases List.mem_cons.mp hp' with rfl|hp'
  ·exact ⟨hp,.head _⟩
  ·rw [List.mem_singleton.mp hp'];exact ⟨hp2,.tail _ (.head _)⟩
 walk_at "my enterMC"
 have hph:Draw:=⟨⟩
 rename Fr _ _ _ _=>F0
 rename News _ _ _ _=>N0
 rename_i L0 h0 tk0 b0 oW oA oH oS dW dA dH dS
 have hL0:@LT.lt Nat instLTNat 105 L0:=by
  have e1:=F0.above
  rw [hideAll_size] at e1
  exact Nat.lt_of_lt_of_le (Heap.lt_size hp2) e1
 clear hp hp2
 k_dflt (refine seq_split (a:=[_,_,_,_,_,_]) (P:=fun s'=>∀ C9:Prop,(∀ (W lo sd sh:Int) (t0 t1 t2 t3 t4:Tok) (Rw:Addr) (n:Nat) (oC:Obj),60≤W→W≤1000 → -1-2*W<lo→lo ≤ -1 → -(2*W)≤sd→sd<2*W→(sh=0∨sh=1∨sh=2)→oC.data=Data.cell (some (.int W t4))→@LT.lt Nat instLTNat (L0+4) Rw→AtK (hideAll s.heap [98,105]) L0 s.os [(Str.ofString "shift", .int sh t3),(Str.ofString "row", .ref Rw)] [(L0+1+1+1+1,oW),(L0+1+1+1,oA),(L0+1+1,oC),(L0+1,oS),(98,tbO pl),(105,tbO pq),(Rw,lst [.int lo t0,.int sd t1,.int (W-lo-sd) t2] n)] s' C9)→C9) ?_ ?_)
 ·k_steps
  unfold StopC
  refine lc_3z (src:=fun i t=>.int (0+(i:Int)) t) (fun i v _ hv=>hv) ?_ ?_ ?_
  ·intro i tv I oI C oC D m₂ ys h tk E' hlt hC hx F N off K hK
   k_steps
   walk_at "my elt"
  ·lcg_src
  ·intro za ta zb tb zc tc
   k_steps
   rename Fr _ _ _ _=>F3
   rename News _ _ _ _=>N3
   (try dsimp only [List.cons_append,List.nil_append] at N3)
   rename _<941=>hw
   rename _<2*(60+_)=>hlo
   rename _<4*(60+_)=>hsi
   rename _<3=>hsh
   rename Obj.data _=Data.cell (some (Value.int _ _))=>hcw
   rename _<_∧_=>l1
   refine' ⟨⟨rfl,fun C9 k9=>At.use (k9 _ _ _ _ _ _ _ _ _ _ _ _ ?c1 ?c2 ?c3 ?c4 ?c5 ?c6 ?c7 hcw ?c8) F3 N3 ?hp ?hl G rfl⟩⟩
   case hl=>
    refine' (fcons ?_ (fcons ?_ (fcons ?_ (fcons ?_ (fcons ?_ (fcons ?_ (fcons ?_ (List.forall_mem_nil _))))))))
    rotate_left 6
    ·refine' memL ?mz1
     case mz1=>exact List.mem_cons_self
    all_goals walk_at "my mem1"
   case hp=>first|walk_at "my all" | kst_all
   case c8=>exact l1.2.1
   all_goals omega
 intro s1 k9;refine k9 _ ?_;clear k9;intro W lo sd sh t0 t1 t2 t3 t4 Rw n oC w1 w2 lo1 lo2 sd1 sd2 hsh hcw hRw u F1 N1 G1 o1
 (refine Fr.lets F1 ?_;clear F1;intro m9 F1)
 clear F0 N0 dH h0 tk0 oH
 k_dflt (refine seq_split (a:=[_]) (P:=fun s'=>∀ C9:Prop,(∀ (q:P3) (R:Addr) (t0 t1 t2:Tok) (n:Nat),InB W q→@LT.lt Nat instLTNat (L0+4) R→AtK (hideAll s.heap [98,105]) L0 s.os [(Str.ofString "parts", .ref R)] [(L0+1+1+1+1,oW),(L0+1+1+1,oA),(L0+1+1,oC),(L0+1,oS),(98,tbO pl),(105,tbO pq),(R,lst3 q t0 t1 t2 n)] s' C9)→C9) ?_ ?_)
 ·rcases hsh with rfl|rfl|rfl
  ·k_steps
   rename Fr _ _ _ _=>F3
   rename News _ _ _ _=>N3
   rename _<_∧_=>l1
   (try dsimp only [List.cons_append,List.nil_append] at N3)
   refine' ⟨⟨rfl,fun C9 k9=>At.use (k9 ⟨lo,sd,W-lo-sd⟩ _ _ _ _ _ ?inb ?lt) F3 N3 ?hp ?hl G1 o1⟩⟩
   case hl=>(walk_at "my led7"; refine' mem3 ?mz9;(case mz9=>exact List.mem_cons_self))
   case hp=>first|walk_at "my all" | kst_all
   case lt=>exact l1.2.2.1
   case inb=>
    refine ⟨?_,fun k=>?_⟩
    ·simp only [sum3];omega
    ·match k with
     | 0=>simp only [part];omega
     | 1=>simp only [part];omega
     | 2=>simp only [part];omega
  ·k_steps
   rename Fr _ _ _ _=>F3
   rename News _ _ _ _=>N3
   rename _<_∧_=>l1
   (try dsimp only [List.cons_append,List.nil_append] at N3)
   refine' ⟨⟨rfl,fun C9 k9=>At.use (k9 ⟨sd,W-lo-sd,lo⟩ _ _ _ _ _ ?inb ?lt) F3 N3 ?hp ?hl G1 o1⟩⟩
   case hl=>(walk_at "my led7"; refine' mem3 ?mz9;(case mz9=>exact List.mem_cons_self))
   case hp=>first|walk_at "my all" | kst_all
   case lt=>exact l1.2.2.1
   case inb=>
    refine ⟨?_,fun k=>?_⟩
    ·simp only [sum3];omega
    ·match k with
     | 0=>simp only [part];omega
     | 1=>simp only [part];omega
     | 2=>simp only [part];omega
  ·k_steps
   rename Fr _ _ _ _=>F3
   rename News _ _ _ _=>N3
   rename _<_∧_=>l1
   (try dsimp only [List.cons_append,List.nil_append] at N3)
   refine' ⟨⟨rfl,fun C9 k9=>At.use (k9 ⟨W-lo-sd,lo,sd⟩ _ _ _ _ _ ?inb ?lt) F3 N3 ?hp ?hl G1 o1⟩⟩
   case hl=>(walk_at "my led7"; refine' mem3 ?mz9;(case mz9=>exact List.mem_cons_self))
   case hp=>first|walk_at "my all" | kst_all
   case lt=>exact l1.2.2.1
   case inb=>
    refine ⟨?_,fun k=>?_⟩
    ·simp only [sum3];omega
    ·match k with
     | 0=>simp only [part];omega
     | 1=>simp only [part];omega
     | 2=>simp only [part];omega
 intro s2 k9;refine k9 _ ?_;clear k9;intro q R t0 t1 t2 n hq hR u F2 N2 G2 o2
 (refine Fr.lets F2 ?_;clear F2;intro m9 F2)
 clear F1 N1 o1 G1 hRw hsh lo1 lo2 sd1 sd2 hph
 have hW0:W≠0:=by omega
 k_dflt (refine seq_split (a:=[_,_]) (P:=fun s'=>∀ C9:Prop,(∀ (x0 x1 x2:Int) (Sp Pl:Addr) (t3 t5 t6 t7 t8 t9:Tok) (n1 n2:Nat),[x0,x1,x2].Perm [Int.fmod 0 W,Int.fmod q.a W,Int.fmod (q.a+q.b) W]→x0≤x1→x1≤x2→@LT.lt Nat instLTNat R Sp→@LT.lt Nat instLTNat Sp Pl→AtK (hideAll s.heap [98,105]) L0 s.os [(Str.ofString "parts", .ref R),(Str.ofString "spots", .ref Sp),(Str.ofString "places", .ref Pl)] [(L0+1+1+1+1,oW),(L0+1+1+1,oA),(L0+1+1,oC),(L0+1,oS),(98,tbO pl),(105,tbO pq),(R,lst3 q t0 t1 t2 n),(Sp,lst [.int 0 t3,.int q.a t5,.int (q.a+q.b) t6] n1),(Pl,lst [.int x0 t7,.int x1 t8,.int x2 t9] n2)] s' C9)→C9) ?_ ?_)
 ·k_steps
  unfold StopC
  refine lc_3n (src:=fun i t=>.int ([0,q.a,q.a+q.b].getD i 0) t) (fun i t=>.int (Int.fmod ([0,q.a,q.a+q.b].getD i 0) W) t) (fun i v _ hv=>src3 hv) ?_ ?_ ?_
  ·intro i tv I oI C oC D m₂ ys h tk E' hlt hC hx F N off K hK
   k_steps
   walk_at "my elt"
  ·lcg_src
  ·intro ta tb tc
   k_steps
   rename Fr _ _ _ _=>F3
   rename News _ _ _ _=>N3
   rename _<_∧_=>l1
   have lt2:=l1.2.1
   clear l1
   rename _<_∧_=>l0
   rename List.Perm _ _=>hpm
   rename List.Pairwise _ _=>hpw
   rename IntsAre _ _=>hiv
   refine goalP fun G9 hG9=>?_
   obtain ⟨x0,x1,x2,rfl,g1,g2⟩:=sorted3 hpm hpw
   refine hG9 ?_
   clear hG9 G9
   refine goalP fun G9 hG9=>?_
   obtain ⟨u0,u1,u2,rfl⟩:=ints3v hiv
   refine hG9 ?_
   clear hG9 G9
   (try dsimp only [List.cons_append,List.nil_append] at N3)
   simp only [show [q.a,q.b,q.c].getD (Int.toNat 0) 0=q.a from rfl,show [q.a,q.b,q.c].getD (Int.toNat 1) 0=q.b from rfl] at N3
   refine' ⟨⟨rfl,fun C9 k9=>At.use (k9 x0 x1 x2 _ _ _ _ _ _ _ _ _ _ hpm g1 g2 ?lt ?lt2) F3 N3 ?hp ?hl G2 o2⟩⟩
   case hl=>
    refine' (fcons ?_ (fcons ?_ (fcons ?_ (fcons ?_ (fcons ?_ (fcons ?_ (fcons ?_ (fcons ?_ (fcons ?_ (List.forall_mem_nil _))))))))))
    iterate 7 (focus walk_at "my mem1")
    ·refine' memL (List.mem_cons_of_mem _ (List.mem_cons_of_mem _ (List.mem_cons.mpr (.inl (Prod.ext rfl ?mz9)))))
     case mz9=>dsimp only
    ·refine' memV ?mz8;(case mz8=>exact List.mem_cons_self)
   case hp=>first|walk_at "my all" | kst_all
   case lt=>exact l0.2.2.2.2.2.2
   case lt2=>exact lt2
 intro s3 k9;refine k9 _ ?_;clear k9;intro x0 x1 x2 Sp Pl t3 t5 t6 t7 t8 t9 n1 n2 hpm g1 g2 hSp hPl u F3 N3 G3 o3
 (refine Fr.lets F3 ?_;clear F3;intro m9 F3)
 clear F2 N2 G2 o2
 k_dflt (refine seq_split (a:=[_,_]) (P:=fun s'=>∀ C9:Prop,(∀ (wh:Int) (Ar:Addr) (t3 t5 t6 tw:Tok) (n1:Nat) (oA oW:Obj),wh=Int.fdiv 0 W+Int.fdiv q.a W+Int.fdiv (q.a+q.b) W→oA.data=Data.cell (some (.ref Ar))→oW.data=Data.cell (some (.int wh tw))→@LT.lt Nat instLTNat R Ar→AtK (hideAll s.heap [98,105]) L0 s.os [(Str.ofString "parts", .ref R)] [(L0+1+1+1+1,oW),(L0+1+1+1,oA),(L0+1+1,oC),(L0+1,oS),(98,tbO pl),(105,tbO pq),(R,lst3 q t0 t1 t2 n),(Ar,lst [.int (x1-x0) t3,.int (x2-x1) t5,.int (W+x0-x2) t6] n1)] s' C9)→C9) ?_ ?_)
 ·k_steps
  unfold StopC
  refine lc_3n (src:=fun i t=>.int ([0,q.a,q.a+q.b].getD i 0) t) (fun i t=>.int (Int.fdiv ([0,q.a,q.a+q.b].getD i 0) W) t) (fun i v _ hv=>src3 hv) ?_ ?_ ?_
  ·intro i tv I oI C oC D m₂ ys h tk E' hlt hC hx F N off K hK
   k_steps
   walk_at "my elt"
  ·lcg_src
  ·intro ta tb tc
   k_steps
   rename Fr _ _ _ _=>F4
   rename News _ _ _ _=>N4
   rename _<_∧_=>l1
   rename Obj.data _=Data.cell (some (Value.int _ _))=>hwd
   rename Obj.data _=Data.cell (some (Value.ref _))=>had
   (try dsimp only [List.cons_append,List.nil_append] at N4)
   simp only [show [x0,x1,x2].getD (Int.toNat 0) 0=x0 from rfl,show [x0,x1,x2].getD (Int.toNat 1) 0=x1 from rfl,show [x0,x1,x2].getD (Int.toNat 2) 0=x2 from rfl] at N4
   refine' ⟨⟨rfl,fun C9 k9=>At.use (k9 _ _ _ _ _ _ _ _ _ ?wh had hwd ?lt) F4 N4 ?hp ?hl G3 o3⟩⟩
   case wh=>
    show Int.fdiv 0 W+(Int.fdiv q.a W+(Int.fdiv (q.a+q.b) W+0))=_
    omega
   case hl=>
    refine' (fcons ?_ (fcons ?_ (fcons ?_ (fcons ?_ (fcons ?_ (fcons ?_ (fcons ?_ (fcons ?_ (List.forall_mem_nil _)))))))))
    iterate 7 (focus walk_at "my mem1")
    ·refine' memL (List.mem_cons_of_mem _ (List.mem_cons.mpr (.inl (Prod.ext rfl ?mz9))))
     case mz9=>dsimp only
   case hp=>first|walk_at "my all" | kst_all
   case lt=>exact l1.2.2.2.2.2.2.1
 intro s4 k9;refine k9 _ ?_;clear k9;intro wh Ar t3 t5 t6 tw n1 oA1 oW1 hwh had hwd hAr u F4 N4 G4 o4
 (refine Fr.lets F4 ?_;clear F4;intro m9 F4)
 clear F3 N3 G3 o3 dA dW oA oW hSp hPl
 k_dflt (refine seq_split (a:=[_]) (P:=fun s'=>∀ C9:Prop,(∀ (En:Addr) (t3 t5 t6:Tok) (n1:Nat),AtK (hideAll s.heap [98,105]) L0 s.os [(Str.ofString "parts", .ref R),(Str.ofString "end", .ref En)] [(L0+1+1+1+1,oW1),(L0+1+1+1,oA1),(L0+1+1,oC),(L0+1,oS),(98,tbO pl),(105,tbO pq),(R,lst3 q t0 t1 t2 n),(En,lst3 (endP W q) t3 t5 t6 n1)] s' C9)→C9) ?_ ?_)
 ·k_steps
  unfold StopC
  refine lc_3n (src:=fun i t=>.int (i:Int) t) (fun i t=>.int ([x1-x0,x2-x1,W+x0-x2].getD (Int.fmod (wh+(i:Int)) 3).toNat 0) t) (fun i v _ hv=>by obtain ⟨t,rfl⟩:=hv;exact ⟨t,by rw [Int.zero_add]⟩) ?_ ?_ ?_
  ·intro i tv I oI C oC D m₂ ys h tk E' hlt hC hx F N off K hK
   have hi0:=Int.fmod_nonneg_of_pos (wh+(i:Int)) (show (0:Int)<3 by decide)
   have hi1:=Int.fmod_lt_of_pos (wh+(i:Int)) (show (0:Int)<3 by decide)
   k_steps
   walk_at "my elt"
  ·lcg_src
  ·intro ta tb tc
   k_steps
   rename Fr _ _ _ _=>F5
   rename News _ _ _ _=>N5
   have he:endP W q=_:=(end_is (by omega) hpm g1 g2 hwh).symm
   rw [he]
   refine' ⟨⟨rfl,fun C9 k9=>At.use (k9 _ _ _ _ _) F5 N5 ?hp ?hl G4 o4⟩⟩
   case hl=>
    refine' (fcons ?_ (fcons ?_ (fcons ?_ (fcons ?_ (fcons ?_ (fcons ?_ (fcons ?_ (fcons ?_ (List.forall_mem_nil _)))))))))
    iterate 7 (focus walk_at "my mem1")
    ·refine' memE (List.mem_cons.mpr (.inl (Prod.ext rfl ?mz9)))
     case mz9=>rfl
   case hp=>first|walk_at "my all" | kst_all
 intro s5 k9;refine k9 _ ?_;clear k9;intro En t3 t5 t6 n1 u F5 N5 G5 o5
 (refine Fr.lets F5 ?_;clear F5;intro m9 F5)
 clear F4 N4 G4 o4 hAr hwh hpm g1 g2 x0 x1 x2 had hwd wh
 k_dflt (refine seq_split (a:=[_]) (P:=fun s'=>∀ C9:Prop,(∀ (tc:Tok),AtK (hideAll s.heap [98,105]) L0 s.os [(Str.ofString "parts", .ref R),(Str.ofString "end", .ref En),(Str.ofString "count", .int (nP W q) tc)] [(L0+1+1,oC),(L0+1,oS),(98,tbO pl),(105,tbO pq),(R,lst3 q t0 t1 t2 n),(En,lst3 (endP W q) t3 t5 t6 n1)] s' C9)→C9) ?_ ?_)
 ·k_steps
  unfold StopC
  refine lc_3n (src:=fun i t=>.int ([q.a,q.b,q.c].getD i 0) t) (fun i t=>.int (cntF W ([q.a,q.b,q.c].getD i 0)) t) (fun i v _ hv=>src3 hv) ?_ ?_ ?_
  ·intro i tv I oI C oC D m₂ ys h tk E' hlt hC hx F N off K hK
   k_steps
   ·walk_at "my elt0"
    exact cnt_neg (by assumption)
   ·walk_at "my elt0"
    exact cnt_pos (by assumption)
  ·lcg_src
  ·intro ta tb tc
   k_steps
   rename Fr _ _ _ _=>F6
   rename News _ _ _ _=>N6
   have hc:cntF W q.a+(cntF W q.b+(cntF W q.c+0))=nP W q:=by
    rw [← count_is (W:=W) (by omega) q]
    omega
   rw [← hc]
   refine' ⟨⟨rfl,fun C9 k9=>At.use (k9 _) F6 N6 ?hp ?hl G5 o5⟩⟩
   case hl=>
    refine' (fcons ?_ (fcons ?_ (fcons ?_ (fcons ?_ (fcons ?_ (fcons ?_ (List.forall_mem_nil _)))))))
    all_goals walk_at "my mem1"
   case hp=>first|walk_at "my all" | kst_all
 intro s6 k9;refine k9 _ ?_;clear k9;intro tc u F6 N6 G6 o6
 (refine Fr.lets F6 ?_;clear F6;intro m9 F6)
 clear F5 N5 G5 o5 oA1 oW1 tw Ar
 k_dflt (refine seq_split (a:=[_]) (P:=fun s'=>∀ C9:Prop,(∀ (Fg:Addr) (fvs:List Value) (fns:List Int) (e:Nat),IntsAre fvs fns→fns.length=12→AtK (hideAll s.heap [98,105]) L0 s.os [(Str.ofString "parts", .ref R),(Str.ofString "end", .ref En),(Str.ofString "count", .int (nP W q) tc),(Str.ofString "figures", .ref Fg)] [(98,tbO pl),(105,tbO pq),(L0+1+1,oC),(L0+1,oS),(R,lst3 q t0 t1 t2 n),(En,lst3 (endP W q) t3 t5 t6 n1),(Fg,lst fvs e)] s' C9)→C9) ?_ ?_)
 ·k_steps
  rename Fr _ _ _ _=>F7
  rename News _ _ _ _=>N7
  rename IntsAre _ _=>hI8
  refine' ⟨⟨rfl,fun C9 k9=>At.use (k9 _ _ _ _ hI8 (by rw [List.length_map,rangeKs_length];rfl)) F7 N7 ?hp ?hl G6 o6⟩⟩
  case hl=>
   refine' (fcons ?_ (fcons ?_ (fcons ?_ (fcons ?_ (fcons ?_ (fcons ?_ (fcons ?_ (List.forall_mem_nil _))))))))
   iterate 6 (focus walk_at "my mem1")
   exact memF (List.mem_cons.mpr (.inl (Prod.ext rfl rfl)))
  case hp=>first|walk_at "my all" | kst_all
 intro s7 k9;refine k9 _ ?_;clear k9;intro Fg fvs fns e hfi hfl u F7 N7 G7 o7
 (refine Fr.lets F7 ?_;clear F7;intro m9 F7)
 clear F6 N6 G6 o6
 have hoE:@Ne Nat En 98∧@Ne Nat En 105:=⟨neO N7 (by k_mem) (by k_mem) (by intro x;cases x),neO N7 (by k_mem) (by k_mem) (by intro x;cases x)⟩
 have hoF:@Ne Nat Fg 98∧@Ne Nat Fg 105:=⟨neO N7 (by k_mem) (by k_mem) (by intro x;cases x),neO N7 (by k_mem) (by k_mem) (by intro x;cases x)⟩
 k_dflt (refine seq_split (a:=[_]) (P:=fun s'=>∀ C9:Prop,(∀ (r S1:Addr) (tq:Tok) (refs:List Value) (nS:Nat) (pl pq:Array Value) (l:Wd) (ext:List (Addr × Obj)) (Pl:Addr) (l0 l1 l2:Tok) (ln:Nat),TabIs pLen pl→TabIs pStr pq→Full q l→RefAt refs (-1) (.ref Pl)→PAt (hideAll s.heap [98,105]) ext Pl (lst3 (ops l q) l0 l1 l2 ln)→(∀ p∈ext,@Ne Nat p.1 98∧@Ne Nat p.1 105)→(@Ne Nat r 98∧@Ne Nat r 105)→(@Ne Nat S1 98∧@Ne Nat S1 105)→AtK (hideAll s.heap [98,105]) L0 s.os [(Str.ofString "parts", .ref R),(Str.ofString "end", .ref En),(Str.ofString "count", .int (nP W q) tc),(Str.ofString "figures", .ref Fg),(Str.ofString "one", .ref r)] ([(98,tbO pl),(105,tbO pq),(L0+1+1,oC),(L0+1,oS),(R,lst3 q t0 t1 t2 n),(En,lst3 (endP W q) t3 t5 t6 n1),(Fg,lst fvs e),(r,tup [.str (wS l) tq,.ref S1]),(S1,lst refs nS)]++ext) s' C9)→C9) ?_ ?_)
 ·k_steps
  unfold Stop
  rename Fr _ _ _ _=>F8
  rename News _ _ _ _=>N8
  refine' c_playK (rest:=[(L0+1+1,oC),(L0+1,oS),(R,lst3 q t0 t1 t2 n),(En,lst3 (endP W q) t3 t5 t6 n1),(Fg,lst fvs e)]) F8 N8 ?hO X T ?hd ?hu G7 ⟨w1,w2⟩ hq (TF W w1 w2) (by k_mem) (by k_mem) hfi hfl hpl hpq ?_
  case hd=>walk_at "my room"
  case hu=>walk_at "my units"
  case hO=>
   refine (fcons ⟨by omega,by omega⟩ (fcons ⟨by omega,by omega⟩ (fcons ⟨by omega,by omega⟩ (fcons hoE (fcons hoF (List.forall_mem_nil _))))))
  rintro s8 r S1 tq refs nS pl' pq' l ext hpl' hpq' hf hst hxc F9 N9 hOff G9 o9
  clear F8 N8
  dsimp only [List.cons_append,List.nil_append] at N9
  have hor:(@Ne Nat r 98∧@Ne Nat r 105)∧(@Ne Nat S1 98∧@Ne Nat S1 105):=⟨⟨neO N9 (by k_mem) (by k_mem) (by intro x;cases x),neO N9 (by k_mem) (by k_mem) (by intro x;cases x)⟩,neO N9 (by k_mem) (by k_mem) (by intro x;cases x),neO N9 (by k_mem) (by k_mem) (by intro x;cases x)⟩
  refine goalP fun G9 hG9=>?_
  obtain ⟨Pl,l0,l1,l2,ln,ext1,hra,hpa,hx1⟩:=stl_last (by omega) hq hf hst
  refine hG9 ?_
  clear hG9 G9
  have hx2:∀ p∈ext1,@Ne Nat p.1 98∧@Ne Nat p.1 105:=fun p hp=>⟨neO (o:=p.2) N9 (by walk_at "my memx") (by k_mem) (by rw [(hx1 p hp).2];intro x;cases x),neO (o:=p.2) N9 (by walk_at "my memx") (by k_mem) (by rw [(hx1 p hp).2];intro x;cases x)⟩
  k_steps
  rename Fr _ _ _ _=>F8
  rename News _ _ _ _=>N8
  refine' ⟨⟨rfl,fun C9 k9=>At.use (k9 r S1 tq refs nS pl' pq' l ext1 Pl l0 l1 l2 ln hpl' hpq' hf hra hpa hx2 hor.1 hor.2) F8 N8 ?hp ?hl G9 (o9.trans o7)⟩⟩
  case hl=>
   dsimp only [List.cons_append,List.nil_append]
   (iterate 9 (refine' in_cons ?_ ?_;focus walk_at "my mem1"))
   intro p hp
   walk_at "my memx"
  case hp=>first|walk_at "my all" | kst_all
 intro s8 k9;refine k9 _ ?_;clear k9;intro r S1 tq refs nS pl' pq' l ext Pl l0 l1 l2 ln hpl' hpq' hf hra hpa hx hor hoS u F8 N8 G8 o8
 (refine Fr.lets F8 ?_;clear F8;intro m9 F8)
 clear F7 N7 G7 o7 hpl hpq
 dsimp only [List.cons_append,List.nil_append] at N8
 have hfv:fvs.length=12:=hfi.length.trans hfl
 have hmk:ListMark:=⟨⟩
 k_dflt (refine seq_split (a:=[_]) (P:=fun s'=>∀ C9:Prop,(∀ (r2 S2:Addr) (tq2:Tok) (refs2:List Value) (nS2:Nat) (pl pq:Array Value) (l2:Wd) (ext2:List (Addr × Obj)),TabIs pLen pl→TabIs pStr pq→Full q l2→StL (hideAll s.heap [98,105]) ext2 refs2 (scan q l2)→(∀ p∈ext2,p.2.cls = .type "list")→AtK (hideAll s.heap [98,105]) L0 s.os [(Str.ofString "end", .ref En),(Str.ofString "count", .int (nP W q) tc),(Str.ofString "one", .ref r),(Str.ofString "two", .ref r2)] ([(98,tbO pl),(105,tbO pq),(L0+1+1,oC),(En,lst3 (endP W q) t3 t5 t6 n1),(r,tup [.str (wS l) tq,.ref S1]),(S1,lst refs nS),(r2,tup [.str (wS l2) tq2,.ref S2]),(S2,lst refs2 nS2)]++(ext++ext2)) s' C9)→C9) ?_ ?_)
 ·k_steps
  unfold StopC
  refine lc_rest (fun _ y=>∃ z t,y = .int z t) ?_ ?_ ?_
  ·intro i v I oI C oC D m₂ ys h tk E' hlt hv hC hx F N off K hK
   obtain ⟨zv,tv,rfl⟩:=ints_at hfi i v (by simpa using hv)
   k_steps
   walk_at "my elt"
  ·lcg_src
  ·intro ys hy hr
   obtain ⟨fns2,hfi2,hfl2⟩:=ints_of hy hr
   rw [List.size_toArray,hfv] at hfl2
   k_steps
   unfold Stop
   rename Fr _ _ _ _=>F9
   rename News _ _ _ _=>N9
   refine' c_playL (e:=ys.length) (fvs:=ys) (rest:=(L0+1+1,oC)::(R,lst3 q t0 t1 t2 n)::(En,lst3 (endP W q) t3 t5 t6 n1)::(r,tup [.str (wS l) tq,.ref S1])::(S1,lst refs nS)::ext) F9 (news_sub N9 ?hl9) ?hO X T ?hd ?hu G8 ⟨w1,w2⟩ hq (TF W w1 w2) ?hP hfi2 hfl2 hpl' hpq' ?_
   case hl9=>
    refine' (fcons ?_ (fcons ?_ (fcons ?_ ?_)))
    ·walk_at "my mem1"
    ·walk_at "my mem1"
    ·exact memF List.mem_cons_self
    ·(iterate 5 (refine' in_cons ?_ ?_;focus walk_at "my mem1"))
     intro p hp
     walk_at "my tail"
   case hd=>walk_at "my room"
   case hu=>walk_at "my units"
   case hP=>k_mem
   case hO=>
    refine (fcons ⟨neO N9 List.mem_cons_self (by k_mem) (by intro x;cases x),neO N9 List.mem_cons_self (by k_mem) (by intro x;cases x)⟩ (fcons ⟨by omega,by omega⟩ (fcons ⟨by omega,by omega⟩ (fcons hoE (fcons hor (fcons hoS hx))))))
   rintro s9 r2 S2 tq2 refs2 nS2 pl2 pq2 l2 ext2 hpl2 hpq2 hf2 hst2 hxc F10 N10 hOff G10 o10
   clear F9 N9
   dsimp only [List.cons_append,List.nil_append] at N10
   k_steps
   rename Fr _ _ _ _=>F9
   rename News _ _ _ _=>N9
   refine' ⟨⟨rfl,fun C9 k9=>At.use (k9 r2 S2 tq2 refs2 nS2 pl2 pq2 l2 ext2 hpl2 hpq2 hf2 hst2 hxc) F9 N9 ?hp ?hl G10 (o10.trans o8)⟩⟩
   case hl=>
    dsimp only [List.cons_append,List.nil_append]
    (iterate 8 (refine' in_cons ?_ ?_;focus walk_at "my mem1"))
    intro p hp
    walk_at "my tail"
   case hp=>first|walk_at "my all" | kst_all
 intro s9 k9;refine k9 _ ?_;clear k9;intro r2 S2 tq2 refs2 nS2 pl2 pq2 l2 ext2 hpl2 hpq2 hf2 hst2 hxc u F9 N9 G9 o9
 (refine Fr.lets F9 ?_;clear F9;intro m9 F9)
 clear F8 N8 G8 o8 hpl' hpq' hfi hfl hfv hmk hoE hoF hor hoS hx
 dsimp only [List.cons_append,List.nil_append] at N9
 k_dflt (refine seq_split (a:=[_,_]) (P:=fun s'=>∀ C9:Prop,(AtK (hideAll s.heap [98,105]) L0 s.os [(Str.ofString "end", .ref En),(Str.ofString "one", .ref r),(Str.ofString "two", .ref r2)] ([(98,tbO pl2),(105,tbO pq2),(L0+1+1,oC),(En,lst3 (endP W q) t3 t5 t6 n1),(r,tup [.str (wS l) tq,.ref S1]),(r2,tup [.str (wS l2) tq2,.ref S2]),(S2,lst refs2 nS2)]++ext2) s' C9)→C9) ?_ ?_)
 ·obtain ⟨hw1,hw1'⟩:=ws_len (by omega) hq hf
  obtain ⟨hw2,hw2'⟩:=ws_len (by omega) hq hf2
  have he1:ops l q=endP W q:=(endP_ops (by omega) l hq.1 hf).symm
  have he2:ops l2 q=endP W q:=(endP_ops (by omega) l2 hq.1 hf2).symm
  refine goalP fun G9 hG9=>?_
  obtain ⟨P2,k0,k1,k2,kn,ext3,hra2,hpa2,hx2⟩:=stl_last (by omega) hq hf2 hst2
  refine hG9 ?_
  clear hG9 G9
  have hsx:∀ p∈ext3,p∈ext2:=fun p hp=>(hx2 p hp).1
  replace hpa2:=hpa2.mono hsx
  clear hx2 hsx
  k_steps
  rename Fr _ _ _ _=>Fa
  rename News _ _ _ _=>Na
  refine' ⟨⟨rfl,fun C9 k9=>At.use (k9) Fa Na ?hp ?hl G9 o9⟩⟩
  case hl=>
   dsimp only [List.cons_append,List.nil_append]
   (iterate 7 (refine' in_cons ?_ ?_;focus walk_at "my mem1"))
   walk_at "my jsub"
  case hp=>first|walk_at "my all" | kst_all
 intro s10 k9;refine k9 _ ?_;clear k9;intro u Fa Na Ga oa
 clear F9 N9 G9 o9 hra hpa
 dsimp only [List.cons_append,List.nil_append] at Na
 have hbE:InB W (endP W q):=by
  rw [endP_ops (by omega) l hq.1 hf]
  exact inB_ops (by omega) l q hq
 k_dflt (refine seq_split (a:=[_]) (P:=fun s'=>∀ C9:Prop,(AtK (hideAll s.heap [98,105]) L0 s.os [(Str.ofString "one", .ref r),(Str.ofString "two", .ref r2)] ([(98,tbO pl2),(105,tbO pq2),(L0+1+1,oC),(r,tup [.str (wS l) tq,.ref S1]),(r2,tup [.str (wS l2) tq2,.ref S2]),(S2,lst refs2 nS2)]++ext2) s' C9)→C9) ?_ ?_)
 ·k_steps
  rename IsRange _ _ _ _ _ _ _ _=>aR
  rename Fr _ _ _ _=>aF
  rename News _ _ _ _=>aN
  have hTF:TurnFact W:=TF W w1 w2
  have hWW:60≤W∧W≤1000:=⟨w1,w2⟩
  clear TF
  refine range_K (σ:=Unit) (n:=3) (fun _=>(98,tbO pl2)::(105,tbO pq2)::(L0+1+1,oC)::(En,lst3 (endP W q) t3 t5 t6 n1)::(r,tup [.str (wS l) tq,.ref S1])::(r2,tup [.str (wS l2) tq2,.ref S2])::(S2,lst refs2 nS2)::ext2) (fun _=>[]) [Str.ofString "nth"]
   (fun _ _=>True) () aR rfl (by decide) rfl rfl rfl aF aN (fun _ h=>h) Ga (fun _ h=>nomatch h) trivial ?_ ?_
  ·rintro i t ⟨⟩ u3 I oI s11 hi _ hO F2 N2 G2 o2
   (refine Fr.lets F2 ?_;clear F2;intro m9 F2)
   (try dsimp only at hO N2)
   obtain ⟨k3,rfl⟩:∃ k:Fin 3,i=k.val:=⟨⟨i,hi⟩,rfl⟩
   clear aF aN aR
   k_steps
   all_goals
    rename Fr _ _ _ _=>F3
    rename News _ _ _ _=>N3
    dsimp only [MLoopPost]
    refine ⟨(),_,_,F3,N3,?_,hO,G2,o2,?_,?_,trivial⟩
    ·(repeat (refine' in_cons ?_ ?_;focus walk_at "my mem1"))
     intro p9 h9;walk_at "my tail"
    ·intro p hp;cases hp
    ·walk_at "my same"
  ·rintro ⟨⟩ u3 s11 _ F2 N2 G2 o2
   (refine Fr.lets F2 ?_;clear F2;intro m9 F2)
   k_steps
   rename Fr _ _ _ _=>F3
   rename News _ _ _ _=>N3
   refine' ⟨⟨rfl,fun C9 k9=>At.use (k9) F3 N3 ?hp ?hl G2 (o2.trans oa)⟩⟩
   case hl=>
    dsimp only [List.cons_append,List.nil_append]
    (iterate 6 (refine' in_cons ?_ ?_;focus walk_at "my mem1"))
    intro p9 h9;walk_at "my tail"
   case hp=>first|walk_at "my all" | kst_all
 intro s11 k9;refine k9 _ ?_;clear k9;intro u Fb Nb Gb ob
 clear Fa Na Ga oa
 dsimp only [List.cons_append,List.nil_append] at Nb
 have hTF:TurnFact W:=TF W w1 w2
 have hWW:60≤W∧W≤1000:=⟨w1,w2⟩
 k_steps
 unfold Stop
 rename Fr _ _ _ _=>Fc
 rename News _ _ _ _=>Nc
 have hx5:∀ p∈ext2,@Ne Nat p.1 105:=fun p hp=>neO (o:=p.2) Nc (by walk_at "my tail") (by k_mem) (by rw [hxc p hp];intro x;cases x)
 refine' c_ledK [(98,tbO pl2),(r2,tup [.str (wS l2) tq2,.ref S2])] Fc Nc ?h105 X T ?hd ?hu Gb hWW hq hTF hf hf2 ?hS ?hR hst2 ?hx hx5 hpq2 ?hk ?hk2 ?_
 case h105=>k_mem
 case hd=>walk_at "my room"
 case hu=>walk_at "my units"
 case hS=>k_mem
 case hR=>exact neO Nc (by k_mem) (by k_mem) (by intro x;cases x)
 case hx=>intro p9 h9;walk_at "my tail"
 case hk=>exact (fcons (by k_mem) (fcons (by k_mem) (List.forall_mem_nil _)))
 case hk2=>exact (fcons (by intro x;cases x) (fcons (neO Nc (by k_mem) (by k_mem) (by intro x;cases x)) (List.forall_mem_nil _)))
 rintro s12 tz pq3 Fd Nd Gd od
 clear Fc Nc
 k_steps
 rw [beq_self_eq_true]
 exact hret _ _ _ (but_of Fd) (Nd.get (.tail _ (.head _))) (Nd.get (.head _)) Gd (od.trans ob)
end
end Mine
end
section
open PySem PySem.Float64
namespace Mine
theorem Mkrrrrrrrrrrrrrrrrrrrrrrrrrrrrrr:True:=trivial
private theorem ct_Fl1_1 {x0:Nat} (h0:¬ x0≤53):54≤x0:=lqn [x0] (.nle T0 (.n 53) 1 (.gle (.n 54) T0 1)) rfl h0
private theorem ct_Fl1_2 {x0:Nat} {x1:Nat} (h0:x0≤(2 ^ 53)) (h1:x1≤x0) (h2:(2 ^ 54)≤x1):False:=lqn [x0,x1] (.le T0 (.n 9007199254740992) 1 (.le T1 T0 1 (.le (.n 18014398509481984) T1 1 (.o)))) rfl h0 h1 h2
private theorem ct_Fl1_3 {x0:Nat} {x1:Nat} (h0:x0≤(2 ^ 53)) (h1:(x1*(2 ^ 52))≤(1900*(2 ^ 52))):((x1*(2 ^ 52))+x0)<(2047*(2 ^ 52)):=lqn [x0,x1] (.le T0 (.n 9007199254740992) 1 (.le (.m T1 (.n 4503599627370496)) (.m (.n 1900) (.n 4503599627370496)) 1 (.glt (.a (.m T1 (.n 4503599627370496)) T0) (.m (.n 2047) (.n 4503599627370496)) 1))) rfl h0 h1
private theorem ct_Fl1_4 {x0:Nat} (h0:¬ x0<52):52≤x0:=lqn [x0] (.nlt T0 (.n 52) 1 (.gle (.n 52) T0 1)) rfl h0
private theorem ct_Fl1_5 {x0:Nat} {x1:Nat} (h0:x0≤x1) (h1:¬ (2 ^ 52)≤x1) (h2:(2 ^ 52)≤x0):False:=lqn [x0,x1] (.le T0 T1 1 (.nle (.n 4503599627370496) T1 1 (.le (.n 4503599627370496) T0 1 (.o)))) rfl h0 h1 h2
private theorem ct_Fl1_6 {x0:Nat} {x1:Nat} (h0:x0<x1) (h1:x1≤(2 ^ 53)):x0<(2 ^ 53):=lqn [x0,x1] (.lt T0 T1 1 (.le T1 (.n 9007199254740992) 1 (.glt T0 (.n 9007199254740992) 1))) rfl h0 h1
private theorem ct_Fl1_7 {x0:Nat} (h0:x0<(2 ^ 53)):((0*(2 ^ 52))+x0)<(2047*(2 ^ 52)):=lqn [x0] (.lt T0 (.n 9007199254740992) 1 (.glt (.a (.m Tz (.n 4503599627370496)) T0) (.m (.n 2047) (.n 4503599627370496)) 1)) rfl h0
private theorem ct_Fl1_8 {x0:Nat}:(x0*(2 ^ 0))=x0:=Nat.le_antisymm (lqn [x0] (.gle (.m T0 Tx) T0 1) rfl) (lqn [x0] (.gle T0 (.m T0 Tx) 1) rfl)
private theorem fl_rep {n e:Nat} (hn:n≤2 ^ 53) (he:e≤1900):∃ t,t<infMag∧V t=n*2 ^ e:=by
 by_cases h0:n=0
 ·exact ⟨0,by unfold infMag;lia -abstractProof,by rw [V_zero,h0,Nat.zero_mul]⟩
 ·have hlog:=Nat.log2_self_le h0
  have hlog2:=Nat.lt_log2_self (n:=n)
  have hl:n.log2≤53:=by
   rw [Nat.le_iff_lt_or_eq]
   by_cases h:n.log2≤53
   ·lia -abstractProof
   ·exfalso
    have:2 ^ 54≤2 ^ n.log2:=Nat.pow_le_pow_right (by decide) (by exact ct_Fl1_1 h)
    exact ct_Fl1_2 hn hlog this
  by_cases hbig:2 ^ 52≤n
  ·refine ⟨e*2 ^ 52+n,?_,V_at hn (.inl hbig)⟩
   unfold infMag
   have:e*2 ^ 52≤1900*2 ^ 52:=Nat.mul_le_mul_right _ he
   exact ct_Fl1_3 hn this
  ·have hl2:n.log2<52:=by
    apply Classical.byContradiction
    intro h
    have:2 ^ 52≤2 ^ n.log2:=Nat.pow_le_pow_right (by decide) (by exact ct_Fl1_4 h)
    exact ct_Fl1_5 hlog hbig this
   by_cases hle:52-n.log2≤e
   ·have e1:n*2 ^ e=(n*2 ^ (52-n.log2))*2 ^ (e-(52-n.log2)):=by
     rw [Nat.mul_assoc,←Nat.pow_add]
     congr 2
     lia -abstractProof
    have hq1:2 ^ 52≤n*2 ^ (52-n.log2):=by
     have:2 ^ n.log2*2 ^ (52-n.log2)≤n*2 ^ (52-n.log2):=Nat.mul_le_mul_right _ hlog
     rw [← Nat.pow_add,show n.log2+(52-n.log2)=52 by lia -abstractProof] at this
     exact this
    have hq2:n*2 ^ (52-n.log2)≤2 ^ 53:=by
     have:n*2 ^ (52-n.log2)≤2 ^ (n.log2+1)*2 ^ (52-n.log2):=Nat.mul_le_mul_right _ (Nat.le_of_lt hlog2)
     rw [← Nat.pow_add,show n.log2+1+(52-n.log2)=53 by lia -abstractProof] at this
     exact this
    refine ⟨(e-(52-n.log2))*2 ^ 52+n*2 ^ (52-n.log2),?_,by rw [e1];exact V_at hq2 (.inl hq1)⟩
    unfold infMag
    have:(e-(52-n.log2))*2 ^ 52≤1900*2 ^ 52:=Nat.mul_le_mul_right _ (by lia -abstractProof)
    exact ct_Fl1_3 hq2 this
   ·have hq:n*2 ^ e<2 ^ 53:=by
     have h1:n*2 ^ e<2 ^ (n.log2+1)*2 ^ e:=Nat.mul_lt_mul_of_pos_right hlog2 (Nat.two_pow_pos _)
     have h2:2 ^ (n.log2+1)*2 ^ e≤2 ^ 53:=by
      rw [← Nat.pow_add]
      exact Nat.pow_le_pow_right (by decide) (by lia -abstractProof)
     exact ct_Fl1_6 h1 h2
    refine ⟨0*2 ^ 52+n*2 ^ e,by unfold infMag;exact ct_Fl1_7 hq,?_⟩
    rw [V_at (Nat.le_of_lt hq) (.inr rfl)]
    exact ct_Fl1_8
noncomputable def FinF (x:UInt64):Prop:=∃ a m e,decode x = .fin a m e
private theorem fl_right {r:UInt64} {neg:Bool} {W D:Nat} (hR:Right r neg W D) (hD:0<D) (hb:W≤D*2 ^ 1094):FinF r∧∃ v:Nat,val r=sgn neg v∧dist W (D*v)≤D*2 ^ 1041∧((∃ n e,n≤2 ^ 53∧e≤1900∧W=D*(n*2 ^ e))→W=D*v):=by
 obtain ⟨t,rfl,ht,hinf,hnear⟩:=hR
 have hlt:t<infMag:=by
  rcases Nat.lt_or_eq_of_le ht with h|h
  ·exact h
  ·exfalso
   have h1:=hinf.mp h
   have h2:D*((2 ^ 54-1)*2 ^ 2045)≤D*(2*2 ^ 1094):=by
    calc _≤2*W:=h1
     _≤2*(D*2 ^ 1094):=Nat.mul_le_mul_left _ hb
     _=D*(2*2 ^ 1094):=by rw [Nat.mul_left_comm]
   have h3:=Nat.le_of_mul_le_mul_left h2 hD
   exact absurd h3 (by decide +kernel)
 obtain ⟨m,e,hd,_⟩:=decode_pack neg hlt
 refine ⟨⟨_,_,_,hd⟩,V t,val_pack neg hlt,?_,?_⟩
 ·have hG:0<D*2 ^ 1041:=Nat.mul_pos hD (Nat.two_pow_pos _)
  have hn:W/(D*2 ^ 1041)≤2 ^ 53:=by
   apply Nat.div_le_of_le_mul
   calc W≤D*2 ^ 1094:=hb
    _=D*2 ^ 1041*2 ^ 53:=by rw [Nat.mul_assoc,←Nat.pow_add]
  obtain ⟨t',ht',hV⟩:=fl_rep hn (show 1041≤1900 by exact lqn [] (.gle (.n 1041) (.n 1900) 1) rfl)
  have h1:=(hnear hlt t').1
  rw [hV] at h1
  have h2:=Nat.div_add_mod W (D*2 ^ 1041)
  have h3:=Nat.mod_lt W hG
  have h4:D*(W/(D*2 ^ 1041)*2 ^ 1041)=D*2 ^ 1041*(W/(D*2 ^ 1041)):=by
   rw [Nat.mul_assoc];congr 1;rw [Nat.mul_comm]
  rw [h4] at h1
  refine Nat.le_trans h1 ?_
  unfold dist
  lia -abstractProof
 ·rintro ⟨n,e',hn,he,hW⟩
  obtain ⟨t',ht',hV⟩:=fl_rep hn he
  have h1:=(hnear hlt t').1
  rw [hV,←hW] at h1
  unfold dist at h1
  lia -abstractProof
end Mine
end
section
open PySem PySem.Float64
namespace Mine
private theorem ct_Fl2_1 {x0:Nat} {x1:Nat} (h0:x0≤x1):x0≤(1*x1):=lqn [x0,x1] (.le T0 T1 1 (.gle T0 (.m Tx T1) 1)) rfl h0
private theorem ct_Fl2_2 {x0:Nat} {x1:Nat} (h0:x0=x1):x0=(1*x1):=Nat.le_antisymm (lqn [x0,x1] (.eq T0 T1 1 (.gle T0 (.m Tx T1) 1)) rfl h0) (lqn [x0,x1] (.eq T0 T1 (-1) (.gle (.m Tx T1) T0 1)) rfl h0)
private theorem ct_Fl2_3 {n0:Nat}:0≤(1*(n0:Int)):=lqz [(n0:Int)] (.le Tz T0 1 (.gle Tz (.m Tx T0) 1)) rfl (Int.natCast_nonneg n0)
private theorem ct_Fl2_4 {n0:Nat}:0≤((-1)*(-(n0:Int))):=lqz [(n0:Int)] (.le Tz T0 1 (.gle Tz (.m (.g Tx) (.g T0)) 1)) rfl (Int.natCast_nonneg n0)
private theorem ct_Fl2_5 {n0:Nat} (h0:0<n0):0<(1*(n0:Int)):=lqz [(n0:Int)] (.lt Tz T0 1 (.glt Tz (.m Tx T0) 1)) rfl (Int.ofNat_lt.mpr h0)
private theorem ct_Fl2_6 {n0:Nat} (h0:0<n0):0<((-1)*(-(n0:Int))):=lqz [(n0:Int)] (.lt Tz T0 1 (.glt Tz (.m (.g Tx) (.g T0)) 1)) rfl (Int.ofNat_lt.mpr h0)
private theorem val_zero (b:Bool):val (zero b)=0:=by
 have:zero b=pack b 0:=rfl
 rw [this,val_pack b (by unfold infMag;lia -abstractProof),V_zero]
 unfold sgn;cases b<;>rfl
private theorem fin_zero (b:Bool):FinF (zero b):=by
 obtain ⟨m,e,h,_⟩:=decode_pack b (t:=0) (by unfold infMag;lia -abstractProof)
 exact ⟨_,_,_,h⟩
noncomputable def Rep (z:Int):Prop:=∃ n e,n≤2 ^ 53∧e≤1900∧z.natAbs=n*2 ^ e
private theorem int_add {x y:UInt64} (hx:FinF x) (hy:FinF y) (hb:(val x+val y).natAbs≤2 ^ 1094) :
  FinF (add x y)∧val x+val y-2 ^ 1041≤val (add x y)∧val (add x y)≤val x+val y+2 ^ 1041∧(Rep (val x+val y)→val (add x y)=val x+val y):=by
 refine goalP fun G9 hG9=>?_
 obtain ⟨a,m,e,hx⟩:=hx
 refine hG9 ?_
 clear hG9
 refine goalP fun G9 hG9=>?_
 obtain ⟨b,k,f,hy⟩:=hy
 refine hG9 ?_
 clear hG9
 have h:=add_right hx hy
 by_cases h0:val x+val y=0
 ·rw [h.1 h0,val_zero,h0]
  exact ⟨fin_zero _,by lia -abstractProof,by lia -abstractProof,fun _=>rfl⟩
 ·refine goalP fun G9 hG9=>?_
  obtain ⟨hf,v,hv,hd,he⟩:=fl_right (h.2 h0) (by decide) (by exact ct_Fl2_1 hb)
  refine hG9 ?_
  clear hG9
  generalize val x+val y=s at *
  rw [hv]
  unfold dist at hd
  refine ⟨hf,?_,?_,fun ⟨n,e,h1,h2,h3⟩=>?_⟩
  ·unfold sgn;by_cases hs:s<0<;>simp only [hs,decide_true,decide_false,if_true,if_false,Bool.false_eq_true]<;>lia -abstractProof
  ·unfold sgn;by_cases hs:s<0<;>simp only [hs,decide_true,decide_false,if_true,if_false,Bool.false_eq_true]<;>lia -abstractProof
  ·have:=he ⟨n,e,h1,h2,by exact ct_Fl2_2 h3⟩
   unfold sgn;by_cases hs:s<0<;>simp only [hs,decide_true,decide_false,if_true,if_false,Bool.false_eq_true]<;>lia -abstractProof
private theorem fin_neg {y:UInt64} (hy:FinF y):FinF (neg y):=by
 obtain ⟨b,k,f,hy⟩:=hy
 exact ⟨_,_,_,neg_decode hy⟩
private theorem int_sub {x y:UInt64} (hx:FinF x) (hy:FinF y) (hb:(val x-val y).natAbs≤2 ^ 1094) :
  FinF (sub x y)∧val x-val y-2 ^ 1041≤val (sub x y)∧val (sub x y)≤val x-val y+2 ^ 1041∧(Rep (val x-val y)→val (sub x y)=val x-val y):=by
 refine goalP fun G9 hG9=>?_
 obtain ⟨b,k,f,hy'⟩:=id hy
 refine hG9 ?_
 clear hG9
 have:=int_add hx (fin_neg hy) (by rw [neg_val hy',←Int.sub_eq_add_neg];exact hb)
 rw [neg_val hy',←Int.sub_eq_add_neg] at this
 have e:sub x y=add x (neg y):=by unfold sub;rfl
 rw [e]
 exact this
private theorem sgn_prod (a b:Bool) (x y:Nat):sgn (a != b) (x*y)=sgn a x*sgn b y:=by
 unfold sgn;cases a<;>cases b<;>simp [Int.mul_neg,Int.neg_mul]
private theorem int_mul {x y:UInt64} (hx:FinF x) (hy:FinF y) (hb:(val x).natAbs*(val y).natAbs≤2 ^ 1074*2 ^ 1094) :
  FinF (mul x y)∧val x*val y-2 ^ 1074*2 ^ 1041≤2 ^ 1074*val (mul x y)∧2 ^ 1074*val (mul x y)≤val x*val y+2 ^ 1074*2 ^ 1041∧(∀ n e,n≤2 ^ 53→e≤1900→(val x).natAbs*(val y).natAbs=2 ^ 1074*(n*2 ^ e)→2 ^ 1074*val (mul x y)=val x*val y):=by
 refine goalP fun G9 hG9=>?_
 obtain ⟨a,m,e,hx⟩:=hx
 refine hG9 ?_
 clear hG9
 refine goalP fun G9 hG9=>?_
 obtain ⟨b,k,f,hy⟩:=hy
 refine hG9 ?_
 clear hG9
 refine goalP fun G9 hG9=>?_
 obtain ⟨hf,v,hv,hd,he⟩:=fl_right (mul_right hx hy) (Nat.two_pow_pos _) hb
 refine hG9 ?_
 clear hG9
 have es:val x*val y=sgn (a != b) ((val x).natAbs*(val y).natAbs):=by
  rw [sgn_prod]
  congr 1
  ·rw [val_natAbs hx,val_eq hx]
  ·rw [val_natAbs hy,val_eq hy]
 rw [es,hv]
 have e2:(2:Int) ^ 1074*sgn (a != b) v=sgn (a != b) (2 ^ 1074*v):=by
  unfold sgn
  cases (a != b)
  ·simp
  ·simp [Int.mul_neg]
 rw [e2]
 generalize (val x).natAbs*(val y).natAbs=W at *
 generalize (2:Nat) ^ 1074*v=Z at *
 unfold dist at hd
 have e3:((2 ^ 1074*2 ^ 1041:Nat):Int)=(2:Int) ^ 1074*2 ^ 1041:=by norm_cast
 rw [← e3]
 generalize (2 ^ 1074*2 ^ 1041:Nat)=G at *
 refine ⟨hf,?_,?_,fun n e h1 h2 h3=>?_⟩
 ·unfold sgn;cases (a != b)<;>simp only [if_true,if_false,Bool.false_eq_true]<;>lia -abstractProof
 ·unfold sgn;cases (a != b)<;>simp only [if_true,if_false,Bool.false_eq_true]<;>lia -abstractProof
 ·have:=he ⟨n,e,h1,h2,h3⟩
  rw [this]
private theorem int_div {x y:UInt64} (hx:FinF x) (hy:FinF y) (h0:val y≠0) (hb:(val x).natAbs*2 ^ 1074≤(val y).natAbs*2 ^ 1094) :
  FinF (div x y)∧∃ (sx sy:Int) (v:Nat) (sg:Bool),(sx=1∨sx = -1)∧(sy=1∨sy = -1)∧sx*val x≥0∧sy*val y>0∧val (div x y)=sx*sy*v∧dist ((val x).natAbs*2 ^ 1074) ((val y).natAbs*v)≤(val y).natAbs*2 ^ 1041∧sg=sg:=by
 refine goalP fun G9 hG9=>?_
 obtain ⟨a,m,e,hx⟩:=hx
 refine hG9 ?_
 clear hG9
 refine goalP fun G9 hG9=>?_
 obtain ⟨b,k,f,hy⟩:=hy
 refine hG9 ?_
 clear hG9
 have hk:k≠0:=by
  rintro rfl
  apply h0
  rw [val_eq hy];unfold sgn;cases b<;>simp
 refine goalP fun G9 hG9=>?_
 obtain ⟨hf,v,hv,hd,he⟩:=fl_right (div_right hx hy hk) (Int.natAbs_pos.mpr h0) hb
 refine hG9 ?_
 clear hG9
 have ex:val x=sgn a (val x).natAbs:=by rw [val_natAbs hx,val_eq hx]
 have ey:val y=sgn b (val y).natAbs:=by rw [val_natAbs hy,val_eq hy]
 have py:0<(val y).natAbs:=Int.natAbs_pos.mpr h0
 refine ⟨hf,if a then -1 else 1,if b then -1 else 1,v,true,?_,?_,?_,?_,?_,hd,rfl⟩
 ·cases a<;>simp
 ·cases b<;>simp
 ·rw [ex];unfold sgn;cases a<;>simp only [if_true,if_false,Bool.false_eq_true]<;>(first|exact ct_Fl2_3|exact ct_Fl2_4)
 ·rw [ey];unfold sgn;cases b<;>simp only [if_true,if_false,Bool.false_eq_true]<;>(first|exact ct_Fl2_5 py|exact ct_Fl2_6 py)
 ·rw [hv];unfold sgn;cases a<;>cases b<;>simp
end Mine
end
section
open PySem PySem.Float64
namespace Mine
private theorem ct_Fl3_1 {x0:Nat} (h0:x0≤(2 ^ 30)):x0≤(2 ^ 53):=lqn [x0] (.le T0 (.n 1073741824) 1 (.gle T0 (.n 9007199254740992) 1)) rfl h0
private theorem ct_Fl3_2 {x0:Nat} {x1:Nat} (h0:x0≤x1):x0≤(1*x1):=lqn [x0,x1] (.le T0 T1 1 (.gle T0 (.m Tx T1) 1)) rfl h0
private theorem dist_ge {W x:Nat} (h:W≤x):dist W x=x-W:=by unfold dist;rw [Nat.sub_eq_zero_of_le h,Nat.zero_add]
private theorem dist_le {W x:Nat} (h:x≤W):dist W x=W-x:=by unfold dist;rw [Nat.sub_eq_zero_of_le h,Nat.add_zero]
private theorem dist_mid {W a b c:Nat} (h:a<b) (k:b<c) (e:dist W a=dist W c):dist W b<dist W a:=by
 rcases Nat.le_total W b with q|q
 ·rw [e,dist_ge q,dist_ge (Nat.le_trans q (Nat.le_of_lt k))];exact Nat.sub_lt_sub_right q k
 ·rw [dist_le q,dist_le (Nat.le_of_lt (Nat.lt_of_lt_of_le h q))];exact Nat.sub_lt_sub_left (Nat.lt_of_lt_of_le h q) h
private theorem near_order {W D t t':Nat} (hD:0<D) (hlt:t<t') (h1:∀ j,dist W (D*V t)≤dist W (D*V j)) (h2:∀ j,dist W (D*V t')≤dist W (D*V j))
  (e1:dist W (D*V t)=dist W (D*V t')→t % 2=0) (e2:dist W (D*V t')=dist W (D*V t)→t' % 2=0):False:=by
 have heq:dist W (D*V t)=dist W (D*V t'):=Nat.le_antisymm (h1 t') (h2 t)
 have a1:=e1 heq
 have a2:=e2 heq.symm
 have hs:t+1<t':=by lia -abstractProof
 have v1:D*V t<D*V (t+1):=Nat.mul_lt_mul_of_pos_left (V_lt (Nat.lt_succ_self t)) hD
 have v2:D*V (t+1)<D*V t':=Nat.mul_lt_mul_of_pos_left (V_lt hs) hD
 have h3:=h1 (t+1)
 exact absurd h3 (Nat.not_le.mpr (dist_mid v1 v2 heq))
private theorem right_unique {r r':UInt64} {neg:Bool} {W D:Nat} (hD:0<D) (hR:Right r neg W D) (hR':Right r' neg W D):r=r':=by
 obtain ⟨t,rfl,ht,hi,hn⟩:=hR
 obtain ⟨t',rfl,ht',hi',hn'⟩:=hR'
 have e:t=t':=by
  by_cases h:t=infMag
  ·rw [h];exact (hi'.mpr (hi.mp h)).symm
  ·by_cases h':t'=infMag
   ·rw [h'];exact hi.mpr (hi'.mp h')
   ·have l:t<infMag:=by lia -abstractProof
    have l':t'<infMag:=by lia -abstractProof
    rcases Nat.lt_trichotomy t t' with q|q|q
    ·exact (near_order hD q (fun j=>(hn l j).1) (fun j=>(hn' l' j).1) (fun e=>(hn l t').2 (Nat.ne_of_gt (V_lt q)) e) (fun e=>(hn' l' t).2 (Nat.ne_of_lt (V_lt q)) e)).elim
    ·exact q
    ·exact (near_order hD q (fun j=>(hn' l' j).1) (fun j=>(hn l j).1) (fun e=>(hn' l' t).2 (Nat.ne_of_gt (V_lt q)) e) (fun e=>(hn l t').2 (Nat.ne_of_lt (V_lt q)) e)).elim
 rw [e]
noncomputable def Ex (x:UInt64) (N:Int):Prop:=FinF x∧val x=N*2 ^ 1059
private theorem rep_ex {N:Int} (h:N.natAbs≤2 ^ 53):Rep (N*2 ^ 1059):=⟨N.natAbs,1059,h,by exact lqn [] (.gle (.n 1059) (.n 1900) 1) rfl,by rw [Int.natAbs_mul];rfl⟩
private theorem ex_bound {N:Int} (h:N.natAbs≤2 ^ 30):(N*2 ^ 1059).natAbs≤2 ^ 1094:=by
 rw [Int.natAbs_mul]
 have e:((2:Int) ^ 1059).natAbs=2 ^ 1059:=by decide +kernel
 rw [e]
 calc N.natAbs*2 ^ 1059≤2 ^ 30*2 ^ 1059:=Nat.mul_le_mul_right _ h
  _=2 ^ 1089:=by rw [← Nat.pow_add]
  _≤2 ^ 1094:=Nat.pow_le_pow_right (by decide) (by decide)
private theorem ex_add {x y:UInt64} {N M:Int} (hx:Ex x N) (hy:Ex y M) (h:(N+M).natAbs≤2 ^ 30):Ex (add x y) (N+M):=by
 have e:val x+val y=(N+M)*2 ^ 1059:=by rw [hx.2,hy.2,Int.add_mul]
 refine and4 (int_add hx.1 hy.1 (by rw [e];exact ex_bound h)) fun hf _ _ he=>?_
 exact ⟨hf,by rw [he (by rw [e];exact rep_ex (by exact ct_Fl3_1 h)),e]⟩
private theorem ex_sub {x y:UInt64} {N M:Int} (hx:Ex x N) (hy:Ex y M) (h:(N-M).natAbs≤2 ^ 30):Ex (sub x y) (N-M):=by
 have e:val x-val y=(N-M)*2 ^ 1059:=by rw [hx.2,hy.2,Int.sub_mul]
 refine and4 (int_sub hx.1 hy.1 (by rw [e];exact ex_bound h)) fun hf _ _ he=>?_
 exact ⟨hf,by rw [he (by rw [e];exact rep_ex (by exact ct_Fl3_1 h)),e]⟩
private theorem ex_frac {neg:Bool} {n d:Nat} {N:Int} (hd:0<d) (h:N.natAbs≤2 ^ 30) (hs:N=sgn neg N.natAbs) (e:n*32768=N.natAbs*d):Ex (ofFrac neg n d) N:=by
 have hW:n*2 ^ 1074*1=N.natAbs*2 ^ 1059*d:=by
  have e1:(2:Nat) ^ 1074=32768*2 ^ 1059:=by decide +kernel
  rw [e1,Nat.mul_one,←Nat.mul_assoc,e,Nat.mul_assoc,Nat.mul_assoc,Nat.mul_comm d]
 have hR:Right (ofFrac neg n d) neg (N.natAbs*2 ^ 1059) 1:=ofFrac_right hd hW (by decide)
 have hb:N.natAbs*2 ^ 1059≤1*2 ^ 1094:=by
  have:=ex_bound h
  rw [Int.natAbs_mul] at this
  have e:((2:Int) ^ 1059).natAbs=2 ^ 1059:=by decide +kernel
  rw [e] at this
  exact ct_Fl3_2 this
 obtain ⟨hf,v,hv,_,he⟩:=fl_right hR (by decide) hb
 have hvv:v=N.natAbs*2 ^ 1059:=by
  have:=he ⟨N.natAbs,1059,Nat.le_trans h (by decide),by lia -abstractProof,(Nat.one_mul _).symm⟩
  rw [Nat.one_mul] at this
  exact this.symm
 refine ⟨hf,?_⟩
 rw [hv,hvv,sgn_mul,←hs,Int.natCast_pow]
 rfl
end Mine
end
section
open PySem PySem.Float64
namespace Mine
noncomputable def uR:Rat:=1/((2 ^ 1074:Nat):Rat)
private theorem uR_pos:0<uR:=by decide +kernel
noncomputable def Rv (x:UInt64):Rat:=(val x:Rat)*uR
noncomputable abbrev dR:Rat:=1/8589934592
private theorem uR_41:((2 ^ 1041:Int):Rat)*uR=dR:=by decide +kernel
private theorem uR_94:((2 ^ 1094:Int):Rat)*uR=1048576:=by decide +kernel
private theorem uR_74:((2 ^ 1074:Int):Rat)*uR=1:=by decide +kernel
private theorem uR_59:((2 ^ 1059:Int):Rat)*uR=1/32768:=by decide +kernel
private theorem rat_sub_mul (a b c:Rat):(a-b)*c=a*c-b*c:=by grind -abstractProof
private theorem cast_le {a b:Int} (h:a≤b):(a:Rat)*uR≤(b:Rat)*uR:=
 Rat.mul_le_mul_of_nonneg_right (Rat.intCast_le_intCast.mpr h) (Rat.le_of_lt uR_pos)
private theorem le_cast {a b:Int} (h:(a:Rat)*uR≤(b:Rat)*uR):a≤b:=by
 apply Rat.intCast_le_intCast.mp
 have:=Rat.le_of_mul_le_mul_right h uR_pos
 exact this
private theorem rv_ex {x:UInt64} {N:Int} (h:Ex x N):Rv x=(N:Rat)/32768:=by
 unfold Rv
 rw [h.2,Rat.intCast_mul,Rat.mul_assoc,uR_59]
 exact Rat.le_antisymm (lqr [_] (.gle (.m T0 (.d Tx 32768)) (.d T0 32768) 1) rfl) (lqr [_] (.gle (.d T0 32768) (.m T0 (.d Tx 32768)) 1) rfl)
private theorem abs_bound {z:Int} (h1 : -1048576≤(z:Rat)*uR) (h2:(z:Rat)*uR≤1048576):z.natAbs≤2 ^ 1094:=by
 have a1:z≤2 ^ 1094:=le_cast (by rw [uR_94];exact h2)
 have a2 : -(2 ^ 1094)≤z:=by
  apply le_cast
  rw [Rat.intCast_neg,Rat.neg_mul,uR_94]
  exact h1
 have e:(2:Int) ^ 1094=((2 ^ 1094:Nat):Int):=by rw [Int.natCast_pow];rfl
 rw [e] at a1 a2
 generalize (2:Nat) ^ 1094=G at *
 lia -abstractProof
private theorem rv_add {x y:UInt64} (hx:FinF x) (hy:FinF y) (h1 : -1048576≤Rv x+Rv y) (h2:Rv x+Rv y≤1048576):FinF (add x y)∧Rv x+Rv y-dR≤Rv (add x y)∧Rv (add x y)≤Rv x+Rv y+dR:=by
 have e:Rv x+Rv y=((val x+val y:Int):Rat)*uR:=by unfold Rv;rw [Rat.intCast_add,Rat.add_mul]
 rw [e] at h1 h2 ⊢
 refine and4 (int_add hx hy (abs_bound h1 h2)) fun hf a b _=>?_
 have a':=cast_le a
 have b':=cast_le b
 rw [Rat.intCast_sub,rat_sub_mul,uR_41] at a'
 rw [Rat.intCast_add (val x+val y),Rat.add_mul,uR_41] at b'
 exact ⟨hf,a',b'⟩
private theorem rv_sub {x y:UInt64} (hx:FinF x) (hy:FinF y) (h1 : -1048576≤Rv x-Rv y) (h2:Rv x-Rv y≤1048576):FinF (sub x y)∧Rv x-Rv y-dR≤Rv (sub x y)∧Rv (sub x y)≤Rv x-Rv y+dR:=by
 have e:Rv x-Rv y=((val x-val y:Int):Rat)*uR:=by unfold Rv;rw [Rat.intCast_sub,rat_sub_mul]
 rw [e] at h1 h2 ⊢
 refine and4 (int_sub hx hy (abs_bound h1 h2)) fun hf a b _=>?_
 have a':=cast_le a
 have b':=cast_le b
 rw [Rat.intCast_sub,rat_sub_mul,uR_41] at a'
 rw [Rat.intCast_add (val x-val y),Rat.add_mul,uR_41] at b'
 exact ⟨hf,a',b'⟩
end Mine
end
section
open PySem PySem.Float64
namespace Mine
private theorem uR2_74 (z:Rat):(((2 ^ 1074:Int):Rat)*z)*(uR*uR)=z*uR:=by
 have h:=uR_74
 calc (((2 ^ 1074:Int):Rat)*z)*(uR*uR)=(((2 ^ 1074:Int):Rat)*uR)*(z*uR):=by generalize ((2 ^ 1074:Int):Rat)=G;grind -abstractProof
  _=z*uR:=by rw [h];exact Rat.le_antisymm (lqr [_] (.gle (.m Tx T0) T0 1) rfl) (lqr [_] (.gle T0 (.m Tx T0) 1) rfl)
private theorem cast_le2 {a b:Int} (h:a≤b):(a:Rat)*(uR*uR)≤(b:Rat)*(uR*uR):=
 Rat.mul_le_mul_of_nonneg_right (Rat.intCast_le_intCast.mpr h) (Rat.mul_nonneg (Rat.le_of_lt uR_pos) (Rat.le_of_lt uR_pos))
private theorem le_cast2 {a b:Int} (h:(a:Rat)*(uR*uR)≤(b:Rat)*(uR*uR)):a≤b:=by
 apply Rat.intCast_le_intCast.mp
 exact Rat.le_of_mul_le_mul_right h (Rat.mul_pos uR_pos uR_pos)
private theorem rv_mul {x y:UInt64} (hx:FinF x) (hy:FinF y) (h1 : -1048576≤Rv x*Rv y) (h2:Rv x*Rv y≤1048576):FinF (mul x y)∧Rv x*Rv y-dR≤Rv (mul x y)∧Rv (mul x y)≤Rv x*Rv y+dR:=by
 have e:Rv x*Rv y=((val x*val y:Int):Rat)*(uR*uR):=by unfold Rv;rw [Rat.intCast_mul];grind -abstractProof
 have eG:((2 ^ 1074*2 ^ 1094:Int):Rat)*(uR*uR)=1048576:=by
  rw [Rat.intCast_mul,uR2_74,uR_94]
 have eD:((2 ^ 1074*2 ^ 1041:Int):Rat)*(uR*uR)=dR:=by
  rw [Rat.intCast_mul,uR2_74,uR_41]
 rw [e] at h1 h2 ⊢
 have hb:(val x).natAbs*(val y).natAbs≤2 ^ 1074*2 ^ 1094:=by
  rw [← Int.natAbs_mul]
  have a1:val x*val y≤2 ^ 1074*2 ^ 1094:=le_cast2 (by rw [eG];exact h2)
  have a2 : -(2 ^ 1074*2 ^ 1094)≤val x*val y:=by
   apply le_cast2
   rw [Rat.intCast_neg,Rat.neg_mul,eG]
   exact h1
  have e3:(2:Int) ^ 1074*2 ^ 1094=((2 ^ 1074*2 ^ 1094:Nat):Int):=by rw [Int.natCast_mul,Int.natCast_pow,Int.natCast_pow];rfl
  rw [e3] at a1 a2
  generalize (2:Nat) ^ 1074*2 ^ 1094=G at *
  generalize val x*val y=z at *
  lia -abstractProof
 refine and4 (int_mul hx hy hb) fun hf a b _=>?_
 have a':=cast_le2 a
 have b':=cast_le2 b
 rw [Rat.intCast_sub,rat_sub_mul,eD,Rat.intCast_mul (2 ^ 1074) (val _),uR2_74] at a'
 rw [Rat.intCast_add,Rat.add_mul,eD,Rat.intCast_mul (2 ^ 1074) (val _),uR2_74] at b'
 exact ⟨hf,a',b'⟩
private theorem div_core1 {sx:Int} {a b c:Nat} (hsx:sx=1∨sx = -1) (h6:dist a b≤c):sx*(a:Int)-(c:Int)≤sx*(b:Int):=by
 unfold dist at h6
 rcases hsx with rfl|rfl<;>lia -abstractProof
private theorem div_core2 {sx:Int} {a b c:Nat} (hsx:sx=1∨sx = -1) (h6:dist a b≤c):sx*(b:Int)≤sx*(a:Int)+(c:Int):=by
 unfold dist at h6
 rcases hsx with rfl|rfl<;>lia -abstractProof
private theorem rv_div {x y:UInt64} (hx:FinF x) (hy:FinF y) (h0:0<Rv y) (h1 : -1048576*Rv y≤Rv x) (h2:Rv x≤1048576*Rv y):FinF (div x y)∧Rv x-Rv y*dR≤Rv y*Rv (div x y)∧Rv y*Rv (div x y)≤Rv x+Rv y*dR:=by
 have py:0<val y:=by
  apply Classical.byContradiction
  intro h
  have:=cast_le (show val y≤0 by exact lqz [_] (.nlt Tz T0 1 (.gle T0 Tz 1)) rfl h)
  have e:((0:Int):Rat)*uR=0:=by simp
  rw [e] at this
  unfold Rv at h0
  exact absurd h0 (Rat.not_lt.mpr this)
 have hb:(val x).natAbs*2 ^ 1074≤(val y).natAbs*2 ^ 1094:=by
  have a1:val x*2 ^ 1074≤val y*2 ^ 1094:=by
   apply le_cast2
   rw [Int.mul_comm (val x),Rat.intCast_mul,uR2_74,Rat.intCast_mul]
   have e:(val y:Rat)*((2 ^ 1094:Int):Rat)*(uR*uR)=1048576*Rv y:=by
    rw [← uR_94];unfold Rv;generalize ((2 ^ 1094:Int):Rat)=G;grind -abstractProof
   rw [e];exact h2
  have a2 : -(val y*2 ^ 1094)≤val x*2 ^ 1074:=by
   apply le_cast2
   rw [Int.mul_comm (val x),Rat.intCast_mul,uR2_74,Rat.intCast_neg,Rat.intCast_mul]
   have e : -((val y:Rat)*((2 ^ 1094:Int):Rat))*(uR*uR) = -1048576*Rv y:=by
    rw [Rat.neg_mul,Rat.neg_mul,←uR_94];unfold Rv;generalize ((2 ^ 1094:Int):Rat)=G;grind -abstractProof
   rw [e];exact h1
  have e3:(2:Int) ^ 1074=((2 ^ 1074:Nat):Int):=by rw [Int.natCast_pow];rfl
  have e4:(2:Int) ^ 1094=((2 ^ 1094:Nat):Int):=by rw [Int.natCast_pow];rfl
  have e5:val y=((val y).natAbs:Int):=by lia -abstractProof
  rw [e3,e4,e5] at a1 a2
  generalize (2:Nat) ^ 1074=G at *
  generalize (2:Nat) ^ 1094=H at *
  have f1:((val x).natAbs*G:Nat)=(val x*(G:Int)).natAbs:=by rw [Int.natAbs_mul];rfl
  rw [f1]
  have f2:(((val y).natAbs:Int))*(H:Int)=(((val y).natAbs*H:Nat):Int):=by rw [Int.natCast_mul]
  rw [f2] at a1 a2
  generalize val x*(G:Int)=z at *
  generalize (val y).natAbs*H=q at *
  omega
 obtain ⟨hf,sx,sy,v,_,hsx,hsy,h3,h4,h5,h6,_⟩:=int_div hx hy (by lia -abstractProof) hb
 have e1:sy=1:=by
  rcases hsy with rfl|rfl
  ·rfl
  ·exact Int.le_antisymm (lqz [] (.gle (.g Tx) Tx 1) rfl) (lqz [_] (.lt Tz T0 1 (.lt Tz (.m (.g Tx) T0) 1 (.gle Tx (.g Tx) 0))) rfl py h4)
 subst e1
 have hv:val y*val (div x y)=sx*(((val y).natAbs*v:Nat):Int):=by
  rw [h5,Int.natCast_mul,show ((val y).natAbs:Int)=val y by lia -abstractProof]
  rcases hsx with rfl|rfl
  ·simp
  ·simp [Int.mul_neg,Int.neg_mul]
 have hw:val x*2 ^ 1074=sx*(((val x).natAbs*2 ^ 1074:Nat):Int):=by
  rw [Int.natCast_mul,Int.natCast_pow]
  have:val x=sx*((val x).natAbs:Int):=by rcases hsx with rfl|rfl<;>lia -abstractProof
  rw [← Int.mul_assoc,←this];rfl
 have hG:val y*2 ^ 1041=(((val y).natAbs*2 ^ 1041:Nat):Int):=by
  rw [Int.natCast_mul,Int.natCast_pow,show ((val y).natAbs:Int)=val y by lia -abstractProof];rfl
 have c1:val x*2 ^ 1074-val y*2 ^ 1041≤val y*val (div x y):=by
  rw [hv,hw,hG]
  exact div_core1 hsx h6
 have c2:val y*val (div x y)≤val x*2 ^ 1074+val y*2 ^ 1041:=by
  rw [hv,hw,hG]
  exact div_core2 hsx h6
 have k1:=cast_le2 c1
 have k2:=cast_le2 c2
 have eY:((val y*val (div x y):Int):Rat)*(uR*uR)=Rv y*Rv (div x y):=by unfold Rv;rw [Rat.intCast_mul];grind -abstractProof
 have eX:((val x*2 ^ 1074:Int):Rat)*(uR*uR)=Rv x:=by rw [Int.mul_comm,Rat.intCast_mul,uR2_74];rfl
 have eZ:((val y*2 ^ 1041:Int):Rat)*(uR*uR)=Rv y*dR:=by
  rw [← uR_41,Rat.intCast_mul];unfold Rv;generalize ((2 ^ 1041:Int):Rat)=G;grind -abstractProof
 rw [Rat.intCast_sub,rat_sub_mul,eX,eZ,eY] at k1
 rw [Rat.intCast_add,Rat.add_mul,eX,eZ,eY] at k2
 exact ⟨hf,k1,k2⟩
end Mine
end
section
open PySem PySem.Float64
namespace Mine
private theorem ct_Fl6_1 {x0:Int} (h0:(-1074)≤x0):(-1074)≤x0:=lqz [x0] (.le (.g (.n 1074)) T0 1 (.gle (.g (.n 1074)) T0 1)) rfl h0
private theorem val_ofBin {a:Bool} {n:Nat} {g:Int} (hn:n≤2 ^ 53) (h1 : -1074≤g) (h2:g≤0):FinF (ofBin a n g)∧val (ofBin a n g)=sgn a (n*2 ^ (g+1074).toNat):=by
 have e:ofBin a n g=ofFrac a (shift n 1 g).1 (shift n 1 g).2:=by unfold ofBin;rfl
 have hd:=shift_pos n 1 g (by decide)
 have hW:(shift n 1 g).1*2 ^ 1074*1=n*2 ^ (g+1074).toNat*(shift n 1 g).2:=by
  rw [Nat.mul_one];exact shift_one n g 1074 (by exact ct_Fl6_1 h1)
 have hR:Right (ofBin a n g) a (n*2 ^ (g+1074).toNat) 1:=by rw [e];exact ofFrac_right hd hW (by decide)
 have hb:n*2 ^ (g+1074).toNat≤1*2 ^ 1094∨2 ^ 1094<n*2 ^ (g+1074).toNat:=by lia -abstractProof
 have hb2:n*2 ^ (g+1074).toNat≤2 ^ 53*2 ^ 1074:=Nat.mul_le_mul hn (Nat.pow_le_pow_right (by decide) (by lia -abstractProof))
 obtain ⟨t,ht,hV⟩:=fl_rep hn (show (g+1074).toNat≤1900 by lia -abstractProof)
 obtain ⟨t',e',ht',hinf,hnear⟩:=hR
 have hlt:t'<infMag:=by
  rcases Nat.lt_or_eq_of_le ht' with h|h
  ·exact h
  ·exfalso
   have h3:=hinf.mp h
   have h4:1*((2 ^ 54-1)*2 ^ 2045)≤2*(2 ^ 53*2 ^ 1074):=Nat.le_trans h3 (Nat.mul_le_mul_left _ hb2)
   exact absurd h4 (by decide +kernel)
 have h5:=(hnear hlt t).1
 rw [hV] at h5
 have h6:V t'=n*2 ^ (g+1074).toNat:=by
  unfold dist at h5
  generalize n*2 ^ (g+1074).toNat=z at *
  lia -abstractProof
 obtain ⟨m,e2,hd2,_⟩:=decode_pack a hlt
 refine ⟨⟨a,m,e2,by rw [e'];exact hd2⟩,?_⟩
 rw [e',val_pack a hlt,h6]
private theorem dec_one:decode 4607182418800017408 = .fin false (2 ^ 52) (-52):=by with_unfolding_all rfl
private theorem fin_one:FinF 4607182418800017408:=⟨_,_,_,dec_one⟩
private theorem val_one:val 4607182418800017408=2 ^ 1074:=by decide +kernel
private theorem val_fmod1 {x:UInt64} {a:Bool} {m:Nat} {e:Int} (hx:decode x = .fin a m e) (he:e≤0) (hm:m<2 ^ 53):FinF (fmod x 4607182418800017408)∧val (fmod x 4607182418800017408)=sgn a ((val x).natAbs % 2 ^ 1074):=by
 have hge:=decode_ge hx
 have ef:fmod x 4607182418800017408=ofBin a ((m*2 ^ (e-min e (-52)).toNat) % (2 ^ 52*2 ^ (-52-min e (-52)).toNat)) (min e (-52)):=by
  unfold fmod
  rw [hx,dec_one]
  show (if ((2 ^ 52:Nat) == 0)=true then nan else _)=_
  rw [if_neg (by decide)]
  unfold align
  simp only [sgn,Bool.false_eq_true,if_false,Int.toNat_natCast]
 have hval:=val_natAbs hx
 have hq:2 ^ 52*2 ^ (-52-min e (-52)).toNat*2 ^ (min e (-52)+1074).toNat=2 ^ 1074:=by
  rw [← Nat.pow_add,←Nat.pow_add];congr 1;lia -abstractProof
 have hp:m*2 ^ (e-min e (-52)).toNat*2 ^ (min e (-52)+1074).toNat=(val x).natAbs:=by
  rw [hval,Nat.mul_assoc,←Nat.pow_add];congr 2;lia -abstractProof
 have hn:(m*2 ^ (e-min e (-52)).toNat) % (2 ^ 52*2 ^ (-52-min e (-52)).toNat)≤2 ^ 53:=by
  by_cases h:e ≤ -52
  ·have e1:(e-min e (-52)).toNat=0:=by lia -abstractProof
   rw [e1,Nat.pow_zero,Nat.mul_one]
   exact Nat.le_trans (Nat.mod_le _ _) (Nat.le_of_lt hm)
  ·have e1:(-52-min e (-52)).toNat=0:=by lia -abstractProof
   rw [e1,Nat.pow_zero,Nat.mul_one]
   exact Nat.le_trans (Nat.le_of_lt (Nat.mod_lt _ (by decide))) (by decide)
 refine and2 (val_ofBin (a:=a) hn (show -1074≤min e (-52) by lia -abstractProof) (by lia -abstractProof)) fun hf hv=>?_
 rw [ef]
 refine ⟨hf,?_⟩
 rw [hv]
 congr 1
 rw [← Nat.mul_mod_mul_right,hp,hq]
end Mine
end
section
open PySem PySem.Float64
namespace Mine
private theorem ct_Fl7_1 {n0:Nat}:¬ (n0:Int)<0:=Int.not_lt.mpr (lqz [(n0:Int)] (.le Tz T0 1 (.gle Tz T0 1)) rfl (Int.natCast_nonneg n0))
private theorem ct_Fl7_2 {x0:Int} {n1:Nat} (h0:x0=(n1:Int)) (h1:x0<0):False:=lqz [x0,(n1:Int)] (.eq T0 T1 (-1) (.lt T0 Tz 1 (.le Tz T1 1 (.o)))) rfl h0 h1 (Int.natCast_nonneg n1)
private theorem ct_Fl7_3 {n0:Nat} {n1:Nat} (h0:n0<n1):0≤((n1:Int)-(n0:Int)):=lqz [(n0:Int),(n1:Int)] (.lt T0 T1 1 (.gle Tz (.s T1 T0) 1)) rfl (Int.ofNat_lt.mpr h0)
private theorem ct_Fl7_4 {x0:Int} {n1:Nat} {x2:Int} {x3:Int} (h0:x0=(-(n1:Int))) (h1:0≤x0) (h2:0<n1):x2=x3:=Int.le_antisymm (lqz [x0,(n1:Int),x2,x3] (.eq T0 (.g T1) 1 (.le Tz T0 1 (.lt Tz T1 1 (.gle T2 T3 0)))) rfl h0 h1 (Int.ofNat_lt.mpr h2)) (lqz [x0,(n1:Int),x3,x2] (.eq T0 (.g T1) 1 (.le Tz T0 1 (.lt Tz T1 1 (.gle T2 T3 0)))) rfl h0 h1 (Int.ofNat_lt.mpr h2))
private theorem ct_Fl7_5 {n0:Nat} {n1:Nat} (h0:n0<n1):0<((n1:Int)-(n0:Int)):=lqz [(n0:Int),(n1:Int)] (.lt T0 T1 1 (.glt Tz (.s T1 T0) 1)) rfl (Int.ofNat_lt.mpr h0)
private theorem cmp_fin {x y:UInt64} (hx:FinF x) (hy:FinF y):cmp x y=some (compare (val x) (val y)):=by
 obtain ⟨a,m,e,hx⟩:=hx
 obtain ⟨b,k,f,hy⟩:=hy
 exact cmp_right hx hy
private theorem lt_fin {x y:UInt64} (hx:FinF x) (hy:FinF y):lt x y=decide (val x<val y):=by
 unfold lt
 rw [cmp_fin hx hy]
 show ((some (compareOfLessAndEq (val x) (val y))) == some Ordering.lt)=_
 unfold compareOfLessAndEq
 by_cases h:val x<val y
 ·simp [h]
 ·rw [if_neg h]
  split<;>simp [h]
private theorem isZero_fin {x:UInt64} (hx:FinF x):isZero x=decide (val x=0):=by
 obtain ⟨a,m,e,hx⟩:=hx
 rw [val_eq hx]
 unfold isZero
 rw [hx]
 cases m with
 | zero=>show true=_;simp [sgn]
 | succ m=>
  have h:sgn a ((m+1)*2 ^ (e+1074).toNat)≠0:=by
   have:0<(m+1)*2 ^ (e+1074).toNat:=Nat.mul_pos (by exact lqn [_] (.glt Tz (.a T0 Tx) 1) rfl) (Nat.two_pow_pos _)
   unfold sgn
   cases a<;>simp only [if_true,if_false,Bool.false_eq_true]<;>omega
  show false=_
  rw [decide_eq_false h]
private theorem val_zeroF:FinF (zero false)∧val (zero false)=0:=⟨fin_zero _,val_zero _⟩
private theorem mod_one {x:UInt64} {a:Bool} {m:Nat} {e:Int} (hx:decode x = .fin a m e) (he:e≤0) (hm:m<2 ^ 53) :
  FinF (divmod x 4607182418800017408).2∧((0≤val x→val (divmod x 4607182418800017408).2=val x % 2 ^ 1074) ∧
   (val x<0→(val x % 2 ^ 1074=0∧val (divmod x 4607182418800017408).2=0)∨(0<val x % 2 ^ 1074∧val x % 2 ^ 1074-2 ^ 1041≤val (divmod x 4607182418800017408).2∧val (divmod x 4607182418800017408).2≤val x % 2 ^ 1074+2 ^ 1041))):=by
 refine and2 (val_fmod1 hx he hm) fun hf hv=>?_
 have e2:(divmod x 4607182418800017408).2=if isZero (fmod x 4607182418800017408) then copysign (zero false) 4607182418800017408 else if lt 4607182418800017408 (zero false) != lt (fmod x 4607182418800017408) (zero false) then add (fmod x 4607182418800017408) 4607182418800017408 else fmod x 4607182418800017408:=by
  unfold divmod
  simp only
  split
  ·rfl
  ·split<;>rfl
 have hcs:copysign (zero false) 4607182418800017408=zero false:=by decide +kernel
 have hl1:lt 4607182418800017408 (zero false)=false:=by
  rw [lt_fin fin_one val_zeroF.1,val_one,val_zeroF.2];decide +kernel
 have hsx:val x=sgn a (val x).natAbs:=by rw [val_natAbs hx,val_eq hx]
 rw [e2,hl1,lt_fin hf val_zeroF.1,isZero_fin hf,hv,val_zeroF.2,hcs]
 generalize hz:(val x).natAbs=z at *
 have e3:(2:Int) ^ 1074=((2 ^ 1074:Nat):Int):=by rw [Int.natCast_pow];rfl
 have e4:(2:Int) ^ 1041=((2 ^ 1041:Nat):Int):=by rw [Int.natCast_pow];rfl
 have hP:0<2 ^ 1074:=Nat.two_pow_pos 1074
 have hlt:=Nat.mod_lt z hP
 have hadd:FinF (fmod x 4607182418800017408)→val (fmod x 4607182418800017408)=sgn true (z % 2 ^ 1074)→FinF (add (fmod x 4607182418800017408) 4607182418800017408)∧(2:Int) ^ 1074-((z % 2 ^ 1074:Nat):Int)-2 ^ 1041≤val (add (fmod x 4607182418800017408) 4607182418800017408)∧val (add (fmod x 4607182418800017408) 4607182418800017408)≤(2:Int) ^ 1074-((z % 2 ^ 1074:Nat):Int)+2 ^ 1041:=by
  intro hf hv
  have es:val (fmod x 4607182418800017408)+val 4607182418800017408=(2:Int) ^ 1074-((z % 2 ^ 1074:Nat):Int):=by
   rw [hv,val_one]
   unfold sgn
   rw [if_pos rfl]
   generalize (2:Int) ^ 1074=G
   exact Int.le_antisymm (lqz [_,_] (.gle (.a (.g T0) T1) (.s T1 T0) 1) rfl) (lqz [_,_] (.gle (.s T0 T1) (.a (.g T1) T0) 1) rfl)
  have hb:((2:Int) ^ 1074-((z % 2 ^ 1074:Nat):Int)).natAbs≤2 ^ 1094:=by
   have h1:(2:Nat) ^ 1074≤2 ^ 1094:=Nat.pow_le_pow_right (by decide) (by decide)
   rw [e3]
   generalize (2:Nat) ^ 1074=G at *
   generalize (2:Nat) ^ 1094=H at *
   lia -abstractProof
  refine and4 (int_add hf fin_one (by rw [es];exact hb)) fun g1 g2 g3 _=>?_
  rw [es] at g2 g3
  exact ⟨g1,g2,g3⟩
 cases a with
 | false=>
  have h0:val x=(z:Int):=by rw [hsx];rfl
  have hm0:val x % 2 ^ 1074=((z % 2 ^ 1074:Nat):Int):=by rw [h0,e3,Int.natCast_emod]
  have hb:(decide (sgn false (z % 2 ^ 1074)<0))=false:=by
   unfold sgn
   simp only [Bool.false_eq_true,if_false,decide_eq_false_iff_not]
   exact ct_Fl7_1
  rw [hb]
  by_cases hzero:sgn false (z % 2 ^ 1074)=0
  ·rw [decide_eq_true hzero]
   refine ⟨fin_zero _,fun _=>?_,fun h=>?_⟩
   ·rw [hm0]
    show val (zero false)=_
    rw [val_zero]
    exact hzero.symm
   ·exact (ct_Fl7_2 h0 h).elim
  ·rw [decide_eq_false hzero]
   refine ⟨hf,fun _=>?_,fun h=>?_⟩
   ·rw [hm0];exact hv
   ·exact (ct_Fl7_2 h0 h).elim
 | true=>
  have h0:val x = -(z:Int):=by rw [hsx];rfl
  by_cases hzero:z % 2 ^ 1074=0
  ·have e5:sgn true (z % 2 ^ 1074)=0:=by rw [hzero];rfl
   rw [decide_eq_true e5]
   have hm0:val x % 2 ^ 1074=0:=by
    rw [h0,e3]
    apply Int.emod_eq_zero_of_dvd
    apply Int.dvd_neg.mpr
    exact Int.natCast_dvd_natCast.mpr (Nat.dvd_of_mod_eq_zero hzero)
   refine ⟨fin_zero _,fun _=>?_,fun _=>.inl ⟨hm0,val_zero _⟩⟩
   rw [hm0];exact val_zero _
  ·have e5:¬ sgn true (z % 2 ^ 1074)=0:=by
    unfold sgn;simp only [if_true];lia -abstractProof
   have e6:sgn true (z % 2 ^ 1074)<0:=by
    unfold sgn;simp only [if_true];lia -abstractProof
   rw [decide_eq_false e5,decide_eq_true e6]
   have hzpos:0<z:=by
    apply Nat.pos_of_ne_zero
    rintro rfl
    exact hzero (Nat.zero_mod _)
   have hm0:val x % 2 ^ 1074=(2:Int) ^ 1074-((z % 2 ^ 1074:Nat):Int):=by
    rw [h0,e3]
    have hd:=Nat.div_add_mod z (2 ^ 1074)
    have:=(Int.ediv_emod_unique (a := -(z:Int)) (b:=((2 ^ 1074:Nat):Int)) (q := -((z/2 ^ 1074:Nat):Int)-1) (r:=((2 ^ 1074:Nat):Int)-((z % 2 ^ 1074:Nat):Int)) (by exact_mod_cast hP)).mpr ⟨?_,?_,?_⟩
    ·exact this.2
    ·rw [Int.mul_sub,Int.mul_neg,Int.mul_one,←Int.natCast_mul]
     generalize z/2 ^ 1074=d at *
     generalize z % 2 ^ 1074=r at *
     generalize (2:Nat) ^ 1074=G at *
     generalize G*d=k at *
     lia -abstractProof
    ·generalize z % 2 ^ 1074=r at *
     generalize (2:Nat) ^ 1074=G at *
     exact ct_Fl7_3 hlt
    ·generalize z % 2 ^ 1074=r at *
     generalize (2:Nat) ^ 1074=G at *
     lia -abstractProof
   refine and3 (hadd hf hv) fun g1 g2 g3=>?_
   refine ⟨g1,fun h=>by exact ct_Fl7_4 h0 h hzpos,fun _=>.inr ⟨?_,by rw [hm0];exact g2,by rw [hm0];exact g3⟩⟩
   rw [hm0,e3]
   generalize z % 2 ^ 1074=r at *
   generalize (2:Nat) ^ 1074=G at *
   exact ct_Fl7_5 hlt
end Mine
end
section
open PySem PySem.Float64
namespace Mine
private theorem ct_Fl8_3 {x0:Nat} {x1:Nat} (h0:x0<(2 ^ 52)) (h1:x0=x1):x1<(2 ^ 53):=lqn [x0,x1] (.lt T0 (.n 4503599627370496) 1 (.eq T0 T1 (-1) (.glt T1 (.n 9007199254740992) 1))) rfl h0 h1
private theorem ct_Fl8_4 {x0:Nat} {x1:Nat} (h0:x0<(2 ^ 52)) (h1:((2 ^ 52)+x0)=x1):x1<(2 ^ 53):=lqn [x0,x1] (.lt T0 (.n 4503599627370496) 1 (.eq (.a (.n 4503599627370496) T0) T1 (-1) (.glt T1 (.n 9007199254740992) 1))) rfl h0 h1
private theorem ct_Fl8_5 {x0:Nat} {x1:Nat} (h0:((2 ^ 52)+x0)=x1):(2 ^ 52)≤x1:=lqn [x0,x1] (.eq (.a (.n 4503599627370496) T0) T1 1 (.gle (.n 4503599627370496) T1 1)) rfl h0
private theorem ct_Fl8_6 {x0:Nat} {x1:Nat} {x2:Nat} (h0:x0≤x1) (h1:x2≤x0) (h2:x1<x2):False:=lqn [x0,x1,x2] (.le T0 T1 1 (.le T2 T0 1 (.lt T1 T2 1 (.o)))) rfl h0 h1 h2
private theorem ct_Fl8_7 {x0:Int} (h0:x0=(-1074)):x0≤0:=lqz [x0] (.eq T0 (.g (.n 1074)) 1 (.gle T0 Tz 1)) rfl h0
private theorem ct_Fl8_8 {x0:Rat} {x1:Rat}:((x0-x1)-(1/8589934592))≤(x0-x1):=lqr [x0,x1] (.gle (.s (.s T0 T1) Td) (.s T0 T1) 1) rfl
private theorem ct_Fl8_9 {x0:Rat} {x1:Rat}:(x0-x1)≤((x0-x1)+(1/8589934592)):=lqr [x0,x1] (.gle (.s T0 T1) (.a (.s T0 T1) Td) 1) rfl
private theorem dec_form {x:UInt64} {a:Bool} {m:Nat} {e:Int} (hx:decode x = .fin a m e):m<2 ^ 53∧(2 ^ 52≤m∨e = -1074):=by
 unfold decode at hx
 simp only at hx
 have hfr:x.toNat % 2 ^ 52<2 ^ 52:=Nat.mod_lt _ (by decide)
 split at hx
 ·split at hx<;>cases hx
 ·split at hx
  ·injection hx with h1 h2 h3
   exact ⟨by exact ct_Fl8_3 hfr h2,.inr h3.symm⟩
  ·injection hx with h1 h2 h3
   exact ⟨by exact ct_Fl8_4 hfr h2,.inl (by exact ct_Fl8_5 h2)⟩
private theorem dec_small {x:UInt64} {a:Bool} {m:Nat} {e:Int} (hx:decode x = .fin a m e) (hb:(val x).natAbs≤2 ^ 1094):e≤0:=by
 refine and2 (dec_form hx) fun h1 h2=>?_
 rcases h2 with h2|h2
 ·apply Classical.byContradiction
  intro h
  rw [val_natAbs hx] at hb
  have h3:2 ^ 52*2 ^ 1075≤m*2 ^ (e+1074).toNat:=Nat.mul_le_mul h2 (Nat.pow_le_pow_right (by decide) (by lia -abstractProof))
  rw [← Nat.pow_add] at h3
  have h4:(2:Nat) ^ 1094<2 ^ (52+1075):=Nat.pow_lt_pow_right (by decide) (by decide)
  generalize m*2 ^ (e+1074).toNat=z at *
  generalize (2:Nat) ^ 1094=G at *
  generalize (2:Nat) ^ (52+1075)=H at *
  exact ct_Fl8_6 hb h3 h4
 ·exact ct_Fl8_7 h2
private theorem rv_mod {x:UInt64} (hx:FinF x) (h1 : -1048576≤Rv x) (h2:Rv x≤1048576) :
  FinF (divmod x 4607182418800017408).2∧∃ z:Int,0≤Rv x-z∧Rv x-z<1∧Rv x-z-dR≤Rv (divmod x 4607182418800017408).2∧Rv (divmod x 4607182418800017408).2≤Rv x-z+dR∧(0≤Rv x→Rv (divmod x 4607182418800017408).2=Rv x-z):=by
 have hb:(val x).natAbs≤2 ^ 1094:=abs_bound h1 h2
 refine goalP fun G9 hG9=>?_
 obtain ⟨a,m,e,hd⟩:=hx
 refine hG9 ?_
 clear hG9
 refine and3 (mod_one hd (dec_small hd hb) (dec_form hd).1) fun hf hp hn=>?_
 have hdR:(0:Rat)<dR:=by decide +kernel
 have he:((val x % 2 ^ 1074:Int):Rat)*uR=Rv x-((val x/2 ^ 1074:Int):Rat):=by
  have h3:val x % 2 ^ 1074=val x-2 ^ 1074*(val x/2 ^ 1074):=Int.emod_def _ _
  have h4:=uR_74
  rw [h3,Rat.intCast_sub,rat_sub_mul,Rat.intCast_mul]
  unfold Rv
  generalize ((2 ^ 1074:Int):Rat)=G at *
  grind -abstractProof
 have hlo:0≤Rv x-((val x/2 ^ 1074:Int):Rat):=by
  rw [← he]
  have:=cast_le (Int.emod_nonneg (val x) (show (2:Int) ^ 1074≠0 by decide +kernel))
  have e0:((0:Int):Rat)*uR=0:=by simp
  rw [e0] at this
  exact this
 have hhi:Rv x-((val x/2 ^ 1074:Int):Rat)<1:=by
  rw [← he,←uR_74]
  have hl:=Int.emod_lt_of_pos (val x) (show (0:Int)<2 ^ 1074 by decide +kernel)
  exact Rat.mul_lt_mul_of_pos_right (Rat.intCast_lt_intCast.mpr hl) uR_pos
 refine ⟨hf,val x/2 ^ 1074,hlo,hhi,?_⟩
 by_cases h0:0≤val x
 ·have e5:Rv (divmod x 4607182418800017408).2=Rv x-((val x/2 ^ 1074:Int):Rat):=by
   rw [← he];unfold Rv;rw [hp h0]
  rw [e5]
  refine ⟨by exact ct_Fl8_8,by exact ct_Fl8_9,fun _=>rfl⟩
 ·have hneg:¬ 0≤Rv x:=by
   intro h
   apply h0
   apply le_cast
   have e0:((0:Int):Rat)*uR=0:=by simp
   rw [e0];exact h
  rcases hn (by exact lqz [_] (.nle Tz T0 1 (.glt T0 Tz 1)) rfl h0) with ⟨m0,v0⟩|⟨_,v1,v2⟩
  ·have e5:Rv (divmod x 4607182418800017408).2=Rv x-((val x/2 ^ 1074:Int):Rat):=by
    rw [← he];unfold Rv;rw [v0,m0]
   rw [e5]
   refine ⟨by exact ct_Fl8_8,by exact ct_Fl8_9,fun _=>rfl⟩
  ·have c1:=cast_le v1
   have c2:=cast_le v2
   rw [Rat.intCast_sub,rat_sub_mul,uR_41,he] at c1
   rw [Rat.intCast_add,Rat.add_mul,uR_41,he] at c2
   exact ⟨c1,c2,fun h=>absurd h hneg⟩
end Mine
end
section
open PySem PySem.Float64
namespace Mine
noncomputable def trap (x:Rat):Rat:=if x<1/6 then 6*x else if x<1/2 then 1 else if x<2/3 then 4-6*x else 0
noncomputable def TrapAt (x t:Rat):Prop:=∃ z:Int,0≤x-z∧x-z<1∧t=trap (x-z)
noncomputable abbrev eR:Rat:=1/268435456
private theorem int_gap {a b:Int} (h1:(a:Rat)-b<2) (h2:(b:Rat)-a<2):a=b∨a=b+1∨b=a+1:=by
 have h3:((a-b:Int):Rat)<((2:Int):Rat):=by rw [Rat.intCast_sub];exact h1
 have h4:((b-a:Int):Rat)<((2:Int):Rat):=by rw [Rat.intCast_sub];exact h2
 have h5:=Rat.intCast_lt_intCast.mp h3
 have h6:=Rat.intCast_lt_intCast.mp h4
 lia -abstractProof
private theorem trap_a {x:Rat} (h:x<1/6):trap x=6*x:=if_pos h
private theorem trap_b {x:Rat} (h:¬ x<1/6) (k:x<1/2):trap x=1:=(if_neg h).trans (if_pos k)
private theorem trap_c {x:Rat} (h:¬ x<1/6) (k:¬ x<1/2) (l:x<2/3):trap x=4-6*x:=(if_neg h).trans ((if_neg k).trans (if_pos l))
private theorem trap_d {x:Rat} (l:¬ x<2/3):trap x=0:=by
 have k:¬ x<1/2:=by exact Rat.not_lt.mpr (lqr [_] (.nlt T0 (.d Ty 3) 2 (.gle (.d Tx 2) T0 3)) rfl l)
 have h:¬ x<1/6:=by exact Rat.not_lt.mpr (lqr [_] (.nlt T0 (.d Ty 3) 2 (.gle (.d Tx 6) T0 1)) rfl l)
 exact (if_neg h).trans ((if_neg k).trans (if_neg l))
private theorem trap_cases (x:Rat):(x<1/6∧trap x=6*x)∨(¬ x<1/6∧x<1/2∧trap x=1)∨(¬ x<1/2∧x<2/3∧trap x=4-6*x)∨(¬ x<2/3∧trap x=0):=by
 by_cases h:x<1/6
 ·exact .inl ⟨h,trap_a h⟩
 ·by_cases k:x<1/2
  ·exact .inr (.inl ⟨h,k,trap_b h k⟩)
  ·by_cases l:x<2/3
   ·exact .inr (.inr (.inl ⟨k,l,trap_c h k l⟩))
   ·exact .inr (.inr (.inr ⟨l,trap_d l⟩))
private theorem trap_le {x y e:Rat} (h1:x-y≤e) (h2:y-x≤e):trap x-trap y≤6*e:=by
 rcases trap_cases x with ⟨a1,p⟩|⟨a1,a2,p⟩|⟨a1,a2,p⟩|⟨a1,p⟩<;>rcases trap_cases y with ⟨b1,q⟩|⟨b1,b2,q⟩|⟨b1,b2,q⟩|⟨b1,q⟩<;>(first|exact lqr [_,_,_,_,_] (.le (.s T0 T1) T2 6 (.eq T3 (.m (.n 6) T0) 1 (.eq T4 (.m (.n 6) T1) (-1) (.gle (.s T3 T4) (.m (.n 6) T2) 1)))) rfl h1 p q|exact lqr [_,_,_,_,_] (.le (.s T0 T1) T2 6 (.lt T1 (.d Tx 6) 2 (.eq T3 (.m (.n 6) T1) 1 (.nlt T0 (.d Tx 6) 1 (.eq T4 Tx (-1) (.gle (.s T3 T4) (.m (.n 6) T2) 1)))))) rfl h2 a1 p b1 q|exact lqr [_,_,_,_,_] (.le (.s T0 T1) T2 6 (.lt T1 (.d Tx 6) 2 (.eq T3 (.m (.n 6) T1) 1 (.eq T4 (.s (.n 4) (.m (.n 6) T0)) (-1) (.gle (.s T3 T4) (.m (.n 6) T2) 1))))) rfl h2 a1 p q|exact lqr [_,_,_,_,_] (.le (.s T0 T1) T2 6 (.lt T1 (.d Tx 6) 2 (.eq T3 (.m (.n 6) T1) 1 (.nlt T0 (.d Ty 3) 2 (.eq T4 Tz (-1) (.gle (.s T3 T4) (.m (.n 6) T2) 1)))))) rfl h2 a1 p b1 q|exact lqr [_,_,_,_,_] (.le (.s T0 T1) T2 6 (.nlt T0 (.d Tx 6) 1 (.eq T3 Tx 1 (.eq T4 (.m (.n 6) T1) (-1) (.gle (.s T3 T4) (.m (.n 6) T2) 1))))) rfl h1 a1 p q|exact lqr [_,_,_,_,_] (.le (.s T0 T1) T2 3 (.le (.s T1 T0) T2 3 (.eq T3 Tx 1 (.eq T4 Tx (-1) (.gle (.s T3 T4) (.m (.n 6) T2) 1))))) rfl h1 h2 p q|exact lqr [_,_,_,_,_] (.le (.s T0 T1) T2 6 (.lt T1 (.d Tx 2) 3 (.eq T3 Tx 1 (.eq T4 (.s (.n 4) (.m (.n 6) T0)) (-1) (.gle (.s T3 T4) (.m (.n 6) T2) 1))))) rfl h2 a2 p q|exact lqr [_,_,_,_,_] (.le (.s T0 T1) T2 6 (.lt T1 (.d Tx 2) 3 (.eq T3 Tx 1 (.nlt T0 (.d Ty 3) 2 (.eq T4 Tz (-1) (.gle (.s T3 T4) (.m (.n 6) T2) 1)))))) rfl h2 a2 p b1 q|exact lqr [_,_,_,_,_] (.le (.s T0 T1) T2 6 (.nlt T0 (.d Tx 2) 6 (.eq T3 (.s (.n 4) (.m (.n 6) T0)) 1 (.eq T4 (.m (.n 6) T1) (-1) (.gle (.s T3 T4) (.m (.n 6) T2) 1))))) rfl h1 a1 p q|exact lqr [_,_,_,_,_] (.le (.s T0 T1) T2 6 (.nlt T0 (.d Tx 2) 6 (.eq T3 (.s (.n 4) (.m (.n 6) T0)) 1 (.lt T1 (.d Tx 2) 3 (.eq T4 Tx (-1) (.gle (.s T3 T4) (.m (.n 6) T2) 1)))))) rfl h1 a1 p b2 q|exact lqr [_,_,_,_,_] (.le (.s T0 T1) T2 6 (.eq T3 (.s (.n 4) (.m (.n 6) T1)) 1 (.eq T4 (.s (.n 4) (.m (.n 6) T0)) (-1) (.gle (.s T3 T4) (.m (.n 6) T2) 1)))) rfl h2 p q|exact lqr [_,_,_,_,_] (.le (.s T0 T1) T2 6 (.eq T3 (.s (.n 4) (.m (.n 6) T1)) 1 (.nlt T0 (.d Ty 3) 2 (.eq T4 Tz (-1) (.gle (.s T3 T4) (.m (.n 6) T2) 1))))) rfl h2 p b1 q|exact lqr [_,_,_,_,_] (.le (.s T0 T1) T2 6 (.nlt T0 (.d Ty 3) 2 (.eq T3 Tz 1 (.eq T4 (.m (.n 6) T1) (-1) (.gle (.s T3 T4) (.m (.n 6) T2) 1))))) rfl h1 a1 p q|exact lqr [_,_,_,_,_] (.le (.s T0 T1) T2 3 (.le (.s T1 T0) T2 3 (.eq T3 Tz 1 (.eq T4 Tx (-1) (.gle (.s T3 T4) (.m (.n 6) T2) 1))))) rfl h1 h2 p q|exact lqr [_,_,_,_,_] (.le (.s T0 T1) T2 6 (.nlt T0 (.d Ty 3) 2 (.eq T3 Tz 1 (.lt T1 (.d Ty 3) 4 (.eq T4 (.s (.n 4) (.m (.n 6) T1)) (-1) (.gle (.s T3 T4) (.m (.n 6) T2) 1)))))) rfl h1 a1 p b2 q|exact lqr [_,_,_,_,_] (.le (.s T0 T1) T2 3 (.le (.s T1 T0) T2 3 (.eq T3 Tz 1 (.eq T4 Tz (-1) (.gle (.s T3 T4) (.m (.n 6) T2) 1))))) rfl h1 h2 p q)
private theorem trap_lip {x y e:Rat} (h1:x-y≤e) (h2:y-x≤e):trap x-trap y≤6*e∧trap y-trap x≤6*e:=⟨trap_le h1 h2,trap_le h2 h1⟩
private theorem trap_l1 {u d:Rat} (h:u≤1/6+d) (hd:d≤1/12) (h0:0≤d):trap u-6*u≤6*d∧6*u-trap u≤6*d:=by
 rcases trap_cases u with ⟨b1,q⟩|⟨b1,b2,q⟩|⟨b1,b2,q⟩|⟨b1,q⟩<;>(first|exact ⟨lqr [_,_,_] (.le Tz T0 6 (.eq T1 (.m (.n 6) T2) 1 (.gle (.s T1 (.m (.n 6) T2)) (.m (.n 6) T0) 1))) rfl h0 q,lqr [_,_,_] (.le Tz T0 6 (.eq T1 (.m (.n 6) T2) (-1) (.gle (.s (.m (.n 6) T2) T1) (.m (.n 6) T0) 1))) rfl h0 q⟩|exact ⟨lqr [_,_,_] (.le Tz T0 6 (.nlt T1 (.d Tx 6) 1 (.eq T2 Tx 1 (.gle (.s T2 (.m (.n 6) T1)) (.m (.n 6) T0) 1)))) rfl h0 b1 q,lqr [_,_,_] (.le T0 (.a (.d Tx 6) T1) 1 (.eq T2 Tx (-1) (.gle (.s (.m (.n 6) T0) T2) (.m (.n 6) T1) 1))) rfl h q⟩|exact ⟨lqr [_,_,_] (.le T0 (.a (.d Tx 6) T1) 1 (.nlt T0 (.d Tx 2) 9 (.eq T2 (.s (.n 4) (.m (.n 6) T0)) 1 (.gle (.s T2 (.m (.n 6) T0)) (.m (.n 6) T1) 1)))) rfl h b1 q,lqr [_,_,_] (.le T0 (.a (.d Tx 6) T1) 2 (.le T1 (.d Tx 12) 1 (.nlt T0 (.d Tx 2) 6 (.gle (.s (.m (.n 6) T0) T2) (.m (.n 6) T1) 0)))) rfl h hd b1⟩|exact ⟨lqr [_,_,_] (.le T0 (.a (.d Tx 6) T1) 1 (.nlt T0 (.d Ty 3) 4 (.eq T2 Tz 1 (.gle (.s T2 (.m (.n 6) T0)) (.m (.n 6) T1) 1)))) rfl h b1 q,lqr [_,_,_] (.le T0 (.a (.d Tx 6) T1) 2 (.le T1 (.d Tx 12) 1 (.nlt T0 (.d Ty 3) 4 (.gle (.s (.m (.n 6) T0) T2) (.m (.n 6) T1) 0)))) rfl h hd b1⟩)
private theorem trap_l2 {u d:Rat} (h:1/6-d≤u) (k:u<1/2) (h0:0≤d):trap u-1≤6*d∧1-trap u≤6*d:=by
 rcases trap_cases u with ⟨b1,q⟩|⟨b1,b2,q⟩|⟨b1,b2,q⟩|⟨b1,q⟩<;>(first|exact ⟨lqr [_,_,_] (.le (.s (.d Tx 6) T0) T1 1 (.lt T1 (.d Tx 6) 2 (.eq T2 (.m (.n 6) T1) 1 (.gle (.s T2 Tx) (.m (.n 6) T0) 1)))) rfl h b1 q,lqr [_,_,_] (.le (.s (.d Tx 6) T0) T1 1 (.eq T2 (.m (.n 6) T1) (-1) (.gle (.s Tx T2) (.m (.n 6) T0) 1))) rfl h q⟩|exact ⟨lqr [_,_] (.le Tz T0 6 (.eq T1 Tx 1 (.gle (.s T1 Tx) (.m (.n 6) T0) 1))) rfl h0 q,lqr [_,_] (.le Tz T0 6 (.eq T1 Tx (-1) (.gle (.s Tx T1) (.m (.n 6) T0) 1))) rfl h0 q⟩|exact ⟨lqr [_,_,_] (.lt T0 (.d Tx 2) 1 (.nlt T0 (.d Tx 2) 1 (.gle (.s T1 Tx) (.m (.n 6) T2) 0))) rfl k b1,lqr [_,_,_] (.lt T0 (.d Tx 2) 3 (.le Tz T1 6 (.eq T2 (.s (.n 4) (.m (.n 6) T0)) (-1) (.gle (.s Tx T2) (.m (.n 6) T1) 1)))) rfl k h0 q⟩|exact ⟨lqr [_,_] (.le Tz T0 6 (.eq T1 Tz 1 (.gle (.s T1 Tx) (.m (.n 6) T0) 1))) rfl h0 q,lqr [_,_,_] (.lt T0 (.d Tx 2) 3 (.nlt T0 (.d Ty 3) 2 (.gle (.s Tx T1) (.m (.n 6) T2) 0))) rfl k b1⟩)
private theorem trap_l3 {u d:Rat} (h:¬ u<1/2) (k:u≤2/3+d) (h0:0≤d):trap u-(4-6*u)≤6*d∧(4-6*u)-trap u≤6*d:=by
 rcases trap_cases u with ⟨b1,q⟩|⟨b1,b2,q⟩|⟨b1,b2,q⟩|⟨b1,q⟩<;>(first|exact ⟨lqr [_,_,_] (.nlt T0 (.d Tx 2) 3 (.lt T0 (.d Tx 6) 1 (.gle (.s T1 (.s (.n 4) (.m (.n 6) T0))) (.m (.n 6) T2) 0))) rfl h b1,lqr [_,_,_] (.nlt T0 (.d Tx 2) 3 (.lt T0 (.d Tx 6) 1 (.gle (.s (.s (.n 4) (.m (.n 6) T0)) T1) (.m (.n 6) T2) 0))) rfl h b1⟩|exact ⟨lqr [_,_,_] (.le Tz T0 6 (.lt T1 (.d Tx 2) 3 (.eq T2 Tx 1 (.gle (.s T2 (.s (.n 4) (.m (.n 6) T1))) (.m (.n 6) T0) 1)))) rfl h0 b2 q,lqr [_,_,_] (.nlt T0 (.d Tx 2) 1 (.lt T0 (.d Tx 2) 1 (.gle (.s (.s (.n 4) (.m (.n 6) T0)) T1) (.m (.n 6) T2) 0))) rfl h b2⟩|exact ⟨lqr [_,_,_] (.le Tz T0 6 (.eq T1 (.s (.n 4) (.m (.n 6) T2)) 1 (.gle (.s T1 (.s (.n 4) (.m (.n 6) T2))) (.m (.n 6) T0) 1))) rfl h0 q,lqr [_,_,_] (.le Tz T0 6 (.eq T1 (.s (.n 4) (.m (.n 6) T2)) (-1) (.gle (.s (.s (.n 4) (.m (.n 6) T2)) T1) (.m (.n 6) T0) 1))) rfl h0 q⟩|exact ⟨lqr [_,_,_] (.le T0 (.a (.d Ty 3) T1) 2 (.eq T2 Tz 1 (.gle (.s T2 (.s (.n 4) (.m (.n 6) T0))) (.m (.n 6) T1) 1))) rfl k q,lqr [_,_,_] (.le Tz T0 6 (.nlt T1 (.d Ty 3) 2 (.eq T2 Tz (-1) (.gle (.s (.s (.n 4) (.m (.n 6) T1)) T2) (.m (.n 6) T0) 1)))) rfl h0 b1 q⟩)
private theorem trap_l4 {u d:Rat} (h:2/3-d≤u) (hd:d≤1/12) (h0:0≤d):trap u≤6*d ∧-trap u≤6*d:=by
 rcases trap_cases u with ⟨b1,q⟩|⟨b1,b2,q⟩|⟨b1,b2,q⟩|⟨b1,q⟩<;>(first|exact ⟨lqr [_,_,_] (.le (.s (.d Ty 3) T0) T1 4 (.le T0 (.d Tx 12) 1 (.lt T1 (.d Tx 6) 2 (.gle T2 (.m (.n 6) T0) 0)))) rfl h hd b1,lqr [_,_,_] (.le (.s (.d Ty 3) T0) T1 2 (.eq T2 (.m (.n 6) T1) (-1) (.gle (.g T2) (.m (.n 6) T0) 1))) rfl h q⟩|exact ⟨lqr [_,_,_] (.le (.s (.d Ty 3) T0) T1 4 (.le T0 (.d Tx 12) 1 (.lt T1 (.d Tx 2) 6 (.gle T2 (.m (.n 6) T0) 0)))) rfl h hd b2,lqr [_,_,_] (.le (.s (.d Ty 3) T0) T1 2 (.lt T1 (.d Tx 2) 3 (.eq T2 Tx (-1) (.gle (.g T2) (.m (.n 6) T0) 1)))) rfl h b2 q⟩|exact ⟨lqr [_,_,_] (.le (.s (.d Ty 3) T0) T1 2 (.eq T2 (.s (.n 4) (.m (.n 6) T1)) 1 (.gle T2 (.m (.n 6) T0) 1))) rfl h q,lqr [_,_,_] (.le (.s (.d Ty 3) T0) T1 2 (.lt T1 (.d Ty 3) 4 (.eq T2 (.s (.n 4) (.m (.n 6) T1)) (-1) (.gle (.g T2) (.m (.n 6) T0) 1)))) rfl h b2 q⟩|exact ⟨lqr [_,_] (.le Tz T0 6 (.eq T1 Tz 1 (.gle T1 (.m (.n 6) T0) 1))) rfl h0 q,lqr [_,_] (.le Tz T0 6 (.eq T1 Tz (-1) (.gle (.g T1) (.m (.n 6) T0) 1))) rfl h0 q⟩)
private theorem trap_near {x t u e:Rat} {z:Int} (ht:TrapAt x t) (h1:u-(x-z)≤e) (h2:(x-z)-u≤e) (he:0≤e) (he2:e≤1/12) (h0:0≤u) (h3:u≤1+e):trap u-t≤12*e∧t-trap u≤12*e:=by
 obtain ⟨z',a1,a2,rfl⟩:=ht
 have hz:(z:Rat)-z'<2:=by exact lqr [_,_,_,_,_] (.le (.s T0 (.s T1 T2)) T3 12 (.le T3 (.d Tx 12) 1 (.le Tz T0 12 (.lt (.s T1 T4) Tx 12 (.glt (.s T2 T4) Ty 12))))) rfl h1 he2 h0 a2
 have hz':(z':Rat)-z<2:=by exact lqr [_,_,_,_,_] (.le (.s (.s T0 T1) T2) T3 6 (.le T3 (.d Tx 12) 1 (.le T2 (.a Tx T3) 6 (.le Tz (.s T0 T4) 6 (.glt (.s T4 T1) Ty 6))))) rfl h2 he2 h3 a1
 rcases int_gap hz hz' with rfl|rfl|rfl
 ·have:=trap_lip (x:=u) (y:=x-z) (e:=e) (by exact lqr [_,_,_,_] (.le (.s T0 (.s T1 T2)) T3 1 (.gle (.s T0 (.s T1 T2)) T3 1)) rfl h1) (by exact lqr [_,_,_,_] (.le (.s (.s T0 T1) T2) T3 1 (.gle (.s (.s T0 T1) T2) T3 1)) rfl h2)
  exact ⟨lqr [_,_,_] (.le (.s T0 T1) (.m (.n 6) T2) 3 (.le (.s T1 T0) (.m (.n 6) T2) 1 (.gle (.s T0 T1) (.m (.n 12) T2) 2))) rfl this.1 this.2,lqr [_,_,_] (.le (.s T0 T1) (.m (.n 6) T2) 1 (.le (.s T1 T0) (.m (.n 6) T2) 3 (.gle (.s T1 T0) (.m (.n 12) T2) 2))) rfl this.1 this.2⟩
 ·rw [Rat.intCast_add] at h1 h2
  have e1:((1:Int):Rat)=1:=rfl
  rw [e1] at h1 h2
  rw [trap_a (x:=u) (by exact lqr [_,_,_,_] (.le T0 (.d Tx 12) 1 (.lt (.s T1 T2) Tx 12 (.le (.s T3 (.s T1 (.a T2 Tx))) T0 12 (.glt T3 (.d Tx 6) 2)))) rfl he2 a2 h1),trap_d (x:=x-z') (by exact Rat.not_lt.mpr (lqr [_,_,_,_] (.le T0 (.d Tx 12) 1 (.le Tz T1 12 (.le (.s T1 (.s T2 (.a T3 Tx))) T0 12 (.gle (.d Ty 3) (.s T2 T3) 4)))) rfl he2 h0 h1))]
  constructor<;>(first|exact lqr [_,_,_,_] (.le Tz T0 6 (.lt (.s T1 T2) Tx 12 (.le (.s T0 (.s T1 (.a T2 Tx))) T3 12 (.gle (.s (.m (.n 6) T0) Tz) (.m (.n 12) T3) 1)))) rfl h0 a2 h1|exact lqr [_,_,_,_] (.le Tz T0 18 (.lt (.s T1 T2) Tx 12 (.le (.s T0 (.s T1 (.a T2 Tx))) T3 12 (.gle (.s Tz (.m (.n 6) T0)) (.m (.n 12) T3) 1)))) rfl h0 a2 h1)
 ·rw [Rat.intCast_add] at a1 a2 ⊢
  have e1:((1:Int):Rat)=1:=rfl
  rw [e1] at a1 a2 ⊢
  rw [trap_d (x:=u) (by exact Rat.not_lt.mpr (lqr [_,_,_,_] (.le (.s (.s T0 T1) T2) T3 12 (.le T3 (.d Tx 12) 1 (.le Tz (.s T0 (.a T1 Tx)) 12 (.gle (.d Ty 3) T2 4)))) rfl h2 he2 a1))]
  refine and2 (trap_l1 (u:=x-(z+1)) (d:=0) (by exact lqr [_,_,_,_] (.le (.s (.s T0 T1) T2) T3 6 (.le T3 (.d Tx 12) 1 (.le T2 (.a Tx T3) 6 (.gle (.s T0 (.a T1 Tx)) (.a (.d Tx 6) Tz) 1)))) rfl h2 he2 h3) (by exact lqr [] (.gle Tz (.d Tx 12) 1) rfl) (by exact lqr [] (.gle Tz Tz 1) rfl)) fun k1 k2=>?_
  constructor<;>(first|exact lqr [_,_,_,_,_] (.le (.s T0 (.s T1 T2)) T3 6 (.le (.s (.s T1 T2) T0) T3 6 (.le Tz (.s T1 (.a T2 Tx)) 6 (.le (.s (.m (.n 6) (.s T1 (.a T2 Tx))) T4) (.m (.n 6) Tz) 1 (.gle (.s Tz T4) (.m (.n 12) T3) 1))))) rfl h1 h2 a1 k2|exact lqr [_,_,_,_,_] (.le (.s (.s T0 T1) T2) T3 6 (.le T2 (.a Tx T3) 6 (.le (.s T4 (.m (.n 6) (.s T0 (.a T1 Tx)))) (.m (.n 6) Tz) 1 (.gle (.s T4 Tz) (.m (.n 12) T3) 1)))) rfl h2 h3 k1)
end Mine
end
section
open PySem PySem.Float64 PySem.Flt
namespace Mine
private theorem mul_abs {p v e B:Rat} (h1 : -e≤p) (h2:p≤e) (h3 : -B≤v) (h4:v≤B) : -(e*B)≤p*v∧p*v≤e*B:=by
 have a1:0≤(e-p)*(B+v):=Rat.mul_nonneg (by exact lqr [_,_] (.le T0 T1 1 (.gle Tz (.s T1 T0) 1)) rfl h2) (by exact lqr [_,_] (.le (.g T0) T1 1 (.gle Tz (.a T0 T1) 1)) rfl h3)
 have a2:0≤(e+p)*(B-v):=Rat.mul_nonneg (by exact lqr [_,_] (.le (.g T0) T1 1 (.gle Tz (.a T0 T1) 1)) rfl h1) (by exact lqr [_,_] (.le T0 T1 1 (.gle Tz (.s T1 T0) 1)) rfl h4)
 have a3:0≤(e-p)*(B-v):=Rat.mul_nonneg (by exact lqr [_,_] (.le T0 T1 1 (.gle Tz (.s T1 T0) 1)) rfl h2) (by exact lqr [_,_] (.le T0 T1 1 (.gle Tz (.s T1 T0) 1)) rfl h4)
 have a4:0≤(e+p)*(B+v):=Rat.mul_nonneg (by exact lqr [_,_] (.le (.g T0) T1 1 (.gle Tz (.a T0 T1) 1)) rfl h1) (by exact lqr [_,_] (.le (.g T0) T1 1 (.gle Tz (.a T0 T1) 1)) rfl h3)
 constructor<;>grind -abstractProof
private theorem fin_six:FinF 4618441417868443648:=⟨_,_,_,by with_unfolding_all rfl⟩
private theorem fin_half:FinF 4602678819172646912:=⟨_,_,_,by with_unfolding_all rfl⟩
private theorem fin_third:FinF 4599676419421066581:=⟨_,_,_,by with_unfolding_all rfl⟩
private theorem fin_sixth:FinF 4595172819793696085:=⟨_,_,_,by with_unfolding_all rfl⟩
private theorem fin_twothird:FinF 4604180019048437077:=⟨_,_,_,by with_unfolding_all rfl⟩
private theorem fin_two:FinF 4611686018427387904:=⟨_,_,_,by with_unfolding_all rfl⟩
private theorem fin_four:FinF 4616189618054758400:=⟨_,_,_,by with_unfolding_all rfl⟩
private theorem fin_nought:FinF 0:=⟨_,_,_,by with_unfolding_all rfl⟩
private theorem rv_six:Rv 4618441417868443648=6:=by decide +kernel
private theorem rv_half:Rv 4602678819172646912=1/2:=by decide +kernel
private theorem rv_one:Rv 4607182418800017408=1:=by decide +kernel
private theorem rv_two:Rv 4611686018427387904=2:=by decide +kernel
private theorem rv_four:Rv 4616189618054758400=4:=by decide +kernel
private theorem rv_nought:Rv 0=0:=by decide +kernel
private theorem rv_third:1/3-dR≤Rv 4599676419421066581∧Rv 4599676419421066581≤1/3+dR:=by decide +kernel
private theorem rv_sixth:1/6-dR≤Rv 4595172819793696085∧Rv 4595172819793696085≤1/6+dR:=by decide +kernel
private theorem rv_twothird:2/3-dR≤Rv 4604180019048437077∧Rv 4604180019048437077≤2/3+dR:=by decide +kernel
private theorem rv_lt {x y:UInt64} (hx:FinF x) (hy:FinF y):(cmp x y == some Ordering.lt)=decide (Rv x<Rv y):=by
 show lt x y=_
 rw [lt_fin hx hy]
 unfold Rv
 by_cases h:val x<val y
 ·rw [decide_eq_true h,decide_eq_true (Rat.mul_lt_mul_of_pos_right (Rat.intCast_lt_intCast.mpr h) uR_pos)]
 ·rw [decide_eq_false h,decide_eq_false]
  exact Rat.not_lt.mpr (cast_le (by exact lqz [_,_] (.nlt T0 T1 1 (.gle T1 T0 1)) rfl h))
private theorem rv_eq {x y:UInt64} (hx:FinF x) (hy:FinF y):(cmp x y == some Ordering.eq)=decide (val x=val y):=by
 rw [cmp_fin hx hy]
 show ((some (compareOfLessAndEq (val x) (val y))) == some Ordering.eq)=_
 unfold compareOfLessAndEq
 by_cases h:val x<val y
 ·rw [if_pos h,decide_eq_false (by lia -abstractProof)];rfl
 ·rw [if_neg h]
  by_cases h2:val x=val y
  ·rw [if_pos h2,decide_eq_true h2];rfl
  ·rw [if_neg h2,decide_eq_false h2];rfl
private theorem rv_eq_of {x y:UInt64} (h:val x=val y):Rv x=Rv y:=by unfold Rv;rw [h]
private theorem slope {m1 m2 g:UInt64} {a b t:Rat} (f1:FinF m1) (f2:FinF m2) (fg:FinF g) (a1:Rv m1-a≤eR) (a2:a-Rv m1≤eR) (b1:Rv m2-b≤eR) (b2:b-Rv m2≤eR)
  (a0:0≤a) (ab:a≤b) (b9:b≤1) (g1 : -1≤Rv g) (g2:Rv g≤2) (t1:6*Rv g-t≤30*eR) (t2:t-6*Rv g≤30*eR) :
  FinF (add m1 (mul (mul (sub m2 m1) g) 4618441417868443648))∧Rv (add m1 (mul (mul (sub m2 m1) g) 4618441417868443648))-(a+(b-a)*t)≤1/1048576∧(a+(b-a)*t)-Rv (add m1 (mul (mul (sub m2 m1) g) 4618441417868443648))≤1/1048576:=by
 refine and3 (rv_sub f2 f1 (by exact lqr [_,_,_,_] (.le (.s T0 T1) Te 1 (.le (.s T2 T3) Te 1 (.le T1 T2 268435456 (.gle (.g (.n 1048576)) (.s T3 T0) 268435456)))) rfl a1 b2 ab) (by exact lqr [_,_,_,_] (.le (.s T0 T1) Te 1 (.le (.s T2 T3) Te 1 (.le Tz T0 268435456 (.le T3 Tx 268435456 (.gle (.s T2 T1) (.n 1048576) 268435456))))) rfl a2 b1 a0 b9)) fun fd d1 d2=>?_
 generalize sub m2 m1=d at *
 have p0:=mul_abs (p:=Rv d-(b-a)) (v:=Rv g) (e:=3*eR) (B:=2) (by exact lqr [_,_,_,_,_] (.le (.s T0 T1) Te 32 (.le (.s T2 T3) Te 32 (.le (.s (.s T3 T0) Td) T4 1 (.gle (.g (.m (.n 3) Te)) (.s T4 (.s T2 T1)) 32)))) rfl a1 b2 d1) (by exact lqr [_,_,_,_,_] (.le (.s T0 T1) Te 32 (.le (.s T2 T3) Te 32 (.le T4 (.a (.s T2 T1) Td) 1 (.gle (.s T4 (.s T3 T0)) (.m (.n 3) Te) 32)))) rfl a2 b1 d2) (by exact lqr [_] (.le (.g Tx) T0 1 (.gle (.g Ty) T0 1)) rfl g1) (by exact lqr [_] (.le T0 Ty 1 (.gle T0 Ty 1)) rfl g2)
 have p1:=mul_abs (p:=b-a) (v:=Rv g-t/6) (e:=1) (B:=5*eR) (by exact lqr [_,_] (.le T0 T1 1 (.gle (.g Tx) (.s T1 T0) 1)) rfl ab) (by exact lqr [_,_] (.le Tz T0 1 (.le T1 Tx 1 (.gle (.s T1 T0) Tx 1))) rfl a0 b9) (by exact lqr [_,_] (.le (.s T0 (.m (.n 6) T1)) (.m (.n 30) Te) 1 (.gle (.g (.m (.n 5) Te)) (.s T1 (.d T0 6)) 1)) rfl t2) (by exact lqr [_,_] (.le (.s (.m (.n 6) T0) T1) (.m (.n 30) Te) 1 (.gle (.s T0 (.d T1 6)) (.m (.n 5) Te) 1)) rfl t1)
 have p2:=mul_abs (p:=b-a) (v:=Rv g) (e:=1) (B:=2) (by exact lqr [_,_] (.le T0 T1 1 (.gle (.g Tx) (.s T1 T0) 1)) rfl ab) (by exact lqr [_,_] (.le Tz T0 1 (.le T1 Tx 1 (.gle (.s T1 T0) Tx 1))) rfl a0 b9) (by exact lqr [_] (.le (.g Tx) T0 1 (.gle (.g Ty) T0 1)) rfl g1) (by exact lqr [_] (.le T0 Ty 1 (.gle T0 Ty 1)) rfl g2)
 have e1:Rv d*Rv g=(Rv d-(b-a))*Rv g+(b-a)*Rv g:=by grind -abstractProof
 have e2:(b-a)*(Rv g-t/6)=(b-a)*Rv g-(b-a)*t/6:=by grind -abstractProof
 refine and3 (rv_mul fd fg (by exact lqr [_,_,_] (.le (.g (.m (.m (.n 3) Te) Ty)) T0 1 (.le (.g (.m Tx Ty)) T1 268435456 (.eq T2 (.a T0 T1) (-268435456) (.gle (.g (.n 1048576)) T2 268435456)))) rfl p0.1 p2.1 e1) (by exact lqr [_,_,_] (.le T0 (.m (.m (.n 3) Te) Ty) 1 (.le T1 (.m Tx Ty) 268435456 (.eq T2 (.a T0 T1) 268435456 (.gle T2 (.n 1048576) 268435456)))) rfl p0.2 p2.2 e1)) fun fm m3 m4=>?_
 generalize mul d g=q at *
 refine and3 (rv_mul fm fin_six (by rw [rv_six];exact lqr [_,_,_,_] (.le (.g (.m (.m (.n 3) Te) Ty)) T0 96 (.le (.g (.m Tx Ty)) T1 25769803776 (.eq T2 (.a T0 T1) (-25769803776) (.le (.s T2 Td) T3 3 (.gle (.g (.n 1048576)) (.m T3 (.n 6)) 4294967296))))) rfl p0.1 p2.1 e1 m3) (by rw [rv_six];exact lqr [_,_,_,_] (.le T0 (.m (.m (.n 3) Te) Ty) 96 (.le T1 (.m Tx Ty) 25769803776 (.eq T2 (.a T0 T1) 25769803776 (.le T3 (.a T2 Td) 3 (.gle (.m T3 (.n 6)) (.n 1048576) 4294967296))))) rfl p0.2 p2.2 e1 m4)) fun fn n3 n4=>?_
 rw [rv_six] at n3 n4
 generalize mul q 4618441417868443648=r at *
 refine and3 (rv_add f1 fn (by exact lqr [_,_,_,_,_,_,_] (.le (.s T0 T1) Te 32 (.le Tz T0 8589934592 (.le (.g (.m (.m (.n 3) Te) Ty)) T2 192 (.le (.g (.m Tx Ty)) T3 51539607552 (.eq T4 (.a T2 T3) (-51539607552) (.le (.s T4 Td) T5 6 (.le (.s (.m T5 (.n 6)) Td) T6 1 (.gle (.g (.n 1048576)) (.a T1 T6) 8589934592)))))))) rfl a2 a0 p0.1 p2.1 e1 m3 n3) (by exact lqr [_,_,_,_,_,_,_,_] (.le (.s T0 T1) Te 32 (.le T1 T2 8589934592 (.le T2 Tx 8589934592 (.le T3 (.m (.m (.n 3) Te) Ty) 192 (.le T4 (.m Tx Ty) 51539607552 (.eq T5 (.a T3 T4) 51539607552 (.le T6 (.a T5 Td) 6 (.le T7 (.a (.m T6 (.n 6)) Td) 1 (.gle (.a T0 T7) (.n 1048576) 8589934592))))))))) rfl a1 ab b9 p0.2 p2.2 e1 m4 n4)) fun fo o3 o4=>?_
 refine ⟨fo,?_,?_⟩<;>(first|exact lqr [_,_,_,_,_,_,_,_,_,_] (.le (.s T0 T1) Te 32 (.le T2 (.m (.m (.n 3) Te) Ty) 192 (.le T3 (.m Tx (.m (.n 5) Te)) 192 (.eq T4 (.a T2 T5) 51539607552 (.eq T3 (.s T5 (.d T6 6)) (-8589934592) (.le T7 (.a T4 Td) 6 (.le T8 (.a (.m T7 (.n 6)) Td) 1 (.le T9 (.a (.a T0 T8) Td) 1 (.gle (.s T9 (.a T1 T6)) (.d Tx 1048576) 8192))))))))) rfl a1 p0.2 p1.2 e1 e2 m4 n4 o4|exact lqr [_,_,_,_,_,_,_,_,_,_] (.le (.s T0 T1) Te 32 (.le (.g (.m (.m (.n 3) Te) Ty)) T2 192 (.le (.g (.m Tx (.m (.n 5) Te))) T3 192 (.eq T4 (.a T2 T5) (-51539607552) (.eq T3 (.s T5 (.d T6 6)) 8589934592 (.le (.s T4 Td) T7 6 (.le (.s (.m T7 (.n 6)) Td) T8 1 (.le (.s (.a T1 T8) Td) T9 1 (.gle (.s (.a T0 T6) T9) (.d Tx 1048576) 8192))))))))) rfl a2 p0.1 p1.1 e1 e2 m3 n3 o3)
end Mine
end
section
open PySem PySem.Float64 PySem.Flt
namespace Mine
private theorem ct_Fl11_1 {n0:Nat} (h0:0≤(-(n0:Int))):n0=0:=Nat.le_antisymm (Int.ofNat_le.mp (lqz [(n0:Int)] (.le Tz (.g T0) 1 (.gle T0 Tz 1)) rfl h0)) (Int.ofNat_le.mp (lqz [(n0:Int)] (.le Tz T0 1 (.gle Tz T0 1)) rfl (Int.natCast_nonneg n0)))
private theorem ct_Fl11_2 {x0:Nat} {x1:Nat} (h0:0<x0) (h1:x0=0):x1=0:=Nat.le_antisymm (lqn [x0,x1] (.lt Tz T0 1 (.eq T0 Tz 1 (.gle T1 Tz 0))) rfl h0 h1) (lqn [x1] (.gle Tz T0 1) rfl)
private theorem ct_Fl11_3 {x0:Int} {x1:Int} (h0:x0≤0) (h1:0<x0) (h2:0<x1):x1=0:=Int.le_antisymm (lqz [x0,x1] (.le T0 Tz 1 (.lt Tz T0 1 (.gle T1 Tz 0))) rfl h0 h1) (lqz [x1] (.lt Tz T0 1 (.gle Tz T0 1)) rfl h2)
private theorem ct_Fl11_4 {x0:Int} {x1:Int} (h0:x0≤x1) (h1:0≤x0):0≤x1:=lqz [x0,x1] (.le T0 T1 1 (.le Tz T0 1 (.gle Tz T1 1))) rfl h0 h1
private theorem v_near {m1 m2 h:UInt64} {a b x t:Rat} {z:Int} (f1:FinF m1) (f2:FinF m2) (fh:FinF h) (a1:Rv m1-a≤eR) (a2:a-Rv m1≤eR) (b1:Rv m2-b≤eR) (b2:b-Rv m2≤eR)
  (a0:0≤a) (ab:a≤b) (b9:b≤1) (h1:Rv h≤1000) (h2 : -1000≤Rv h) (x1:Rv h-(x-z)≤eR/2) (x2:(x-z)-Rv h≤eR/2) (ht:TrapAt x t) :
  FinF (vF m1 m2 h)∧Rv (vF m1 m2 h)-(a+(b-a)*t)≤1/1048576∧(a+(b-a)*t)-Rv (vF m1 m2 h)≤1/1048576:=by
 refine goalP fun G9 hG9=>?_
 obtain ⟨fu,z',u1,u2,u3,u4,u5⟩:=rv_mod fh (by exact lqr [_] (.le (.g (.n 1000)) T0 1 (.gle (.g (.n 1048576)) T0 1)) rfl h2) (by exact lqr [_] (.le T0 (.n 1000) 1 (.gle T0 (.n 1048576) 1)) rfl h1)
 refine hG9 ?_
 clear hG9
 unfold vF
 dsimp only
 generalize (divmod h 4607182418800017408).2=u at *
 have hn:=trap_near (x:=x) (t:=t) (u:=Rv h-z') (e:=eR/2) (z:=z+z') ht (by rw [Rat.intCast_add];exact lqr [_,_,_,_] (.le (.s T0 (.s T1 T2)) (.d Te 2) 1 (.gle (.s (.s T0 T3) (.s T1 (.a T2 T3))) (.d Te 2) 1)) rfl x1) (by rw [Rat.intCast_add];exact lqr [_,_,_,_] (.le (.s (.s T0 T1) T2) (.d Te 2) 1 (.gle (.s (.s T0 (.a T1 T3)) (.s T2 T3)) (.d Te 2) 1)) rfl x2) (by exact lqr [] (.gle Tz (.d Te 2) 1) rfl) (by exact lqr [] (.gle (.d Te 2) (.d Tx 12) 1) rfl) (by exact lqr [_,_] (.le Tz (.s T0 T1) 1 (.gle Tz (.s T0 T1) 1)) rfl u1) (by exact lqr [_,_] (.lt (.s T0 T1) Tx 536870912 (.gle (.s T0 T1) (.a Tx (.d Te 2)) 1)) rfl u2)
 have hl:=trap_lip (x:=Rv u) (y:=Rv h-z') (e:=dR) (by exact lqr [_,_,_] (.le T0 (.a (.s T1 T2) Td) 1 (.gle (.s T0 (.s T1 T2)) Td 1)) rfl u4) (by exact lqr [_,_,_] (.le (.s (.s T0 T1) Td) T2 1 (.gle (.s (.s T0 T1) T2) Td 1)) rfl u3)
 have k6:=rv_sixth
 have k23:=rv_twothird
 rw [rv_lt fu fin_sixth,rv_lt fu fin_half,rv_lt fu fin_twothird,rv_half]
 have p1:∀ {τ:Rat},τ-t≤20*eR→t-τ≤20*eR → -(20*eR)≤(b-a)*τ-(b-a)*t∧(b-a)*τ-(b-a)*t≤20*eR:=by
  intro τ h1 h2
  have:=mul_abs (p:=b-a) (v:=τ-t) (e:=1) (B:=20*eR) (by exact lqr [_,_] (.le T0 T1 1 (.gle (.g Tx) (.s T1 T0) 1)) rfl ab) (by exact lqr [_,_] (.le Tz T0 1 (.le T1 Tx 1 (.gle (.s T1 T0) Tx 1))) rfl a0 b9) (by exact lqr [_,_] (.le (.s T0 T1) (.m (.n 20) Te) 1 (.gle (.g (.m (.n 20) Te)) (.s T1 T0) 1)) rfl h2) (by exact lqr [_,_] (.le (.s T0 T1) (.m (.n 20) Te) 1 (.gle (.s T0 T1) (.m (.n 20) Te) 1)) rfl h1)
  have em:(b-a)*(τ-t)=(b-a)*τ-(b-a)*t:=by grind -abstractProof
  rw [em] at this
  exact ⟨by exact lqr [_,_] (.le (.g (.m Tx (.m (.n 20) Te))) (.s T0 T1) 1 (.gle (.g (.m (.n 20) Te)) (.s T0 T1) 1)) rfl this.1,by exact lqr [_,_] (.le (.s T0 T1) (.m Tx (.m (.n 20) Te)) 1 (.gle (.s T0 T1) (.m (.n 20) Te) 1)) rfl this.2⟩
 clear ht x1 x2
 by_cases c1:Rv u<Rv 4595172819793696085
 ·rw [if_pos (decide_eq_true c1)]
  refine and2 (trap_l1 (u:=Rv u) (d:=dR) (by exact lqr [_,_] (.le T0 (.a (.d Tx 6) Td) 1 (.lt T1 T0 51539607552 (.gle T1 (.a (.d Tx 6) Td) 1))) rfl k6.2 c1) (by exact lqr [] (.gle Td (.d Tx 12) 1) rfl) (by exact lqr [] (.gle Tz Td 1) rfl)) fun l1 l2=>?_
  exact slope (g:=u) (t:=t) f1 f2 fu a1 a2 b1 b2 a0 ab b9 (by exact lqr [_,_,_] (.le Tz (.s T0 T1) 8589934592 (.le (.s (.s T0 T1) Td) T2 1 (.gle (.g Tx) T2 8589934592))) rfl u1 u3) (by exact lqr [_,_] (.le T0 (.a (.d Tx 6) Td) 1 (.lt T1 T0 51539607552 (.gle T1 Ty 51539607552))) rfl k6.2 c1) (by exact lqr [_,_,_,_] (.le (.s T0 T1) (.m (.n 12) (.d Te 2)) 16 (.le (.s T2 T0) (.m (.n 6) Td) 1 (.le (.s (.m (.n 6) T3) T2) (.m (.n 6) Td) 1 (.gle (.s (.m (.n 6) T3) T1) (.m (.n 30) Te) 32)))) rfl hn.1 hl.1 l2) (by exact lqr [_,_,_,_] (.le (.s T0 T1) (.m (.n 12) (.d Te 2)) 16 (.le (.s T1 T2) (.m (.n 6) Td) 1 (.le (.s T2 (.m (.n 6) T3)) (.m (.n 6) Td) 1 (.gle (.s T0 (.m (.n 6) T3)) (.m (.n 30) Te) 32)))) rfl hn.2 hl.2 l1)
 ·rw [if_neg (by simpa using c1)]
  by_cases c2:Rv u<1/2
  ·rw [if_pos (decide_eq_true c2)]
   refine and2 (trap_l2 (u:=Rv u) (d:=dR) (by exact lqr [_,_] (.le (.s (.d Tx 6) Td) T0 1 (.nlt T1 T0 51539607552 (.gle (.s (.d Tx 6) Td) T1 1))) rfl k6.1 c1) c2 (by exact lqr [] (.gle Tz Td 1) rfl)) fun l1 l2=>?_
   have:=p1 (τ:=1) (by exact lqr [_,_,_] (.le (.s T0 T1) (.m (.n 12) (.d Te 2)) 16 (.le (.s T2 T0) (.m (.n 6) Td) 1 (.le (.s Tx T2) (.m (.n 6) Td) 1 (.gle (.s Tx T1) (.m (.n 20) Te) 32)))) rfl hn.1 hl.1 l2) (by exact lqr [_,_,_] (.le (.s T0 T1) (.m (.n 12) (.d Te 2)) 16 (.le (.s T1 T2) (.m (.n 6) Td) 1 (.le (.s T2 Tx) (.m (.n 6) Td) 1 (.gle (.s T0 Tx) (.m (.n 20) Te) 32)))) rfl hn.2 hl.2 l1)
   refine ⟨f2,?_,?_⟩<;>(first|exact lqr [_,_,_,_] (.le (.s T0 T1) Te 1 (.le (.s (.m (.s T1 T2) Tx) T3) (.m (.n 20) Te) 1 (.gle (.s T0 (.a T2 T3)) (.d Tx 1048576) 256))) rfl b1 this.2|exact lqr [_,_,_,_] (.le (.s T0 T1) Te 1 (.le (.g (.m (.n 20) Te)) (.s (.m (.s T0 T2) Tx) T3) 1 (.gle (.s (.a T2 T3) T1) (.d Tx 1048576) 256))) rfl b2 this.1)
  ·rw [if_neg (by simpa using c2)]
   by_cases c3:Rv u<Rv 4604180019048437077
   ·rw [if_pos (decide_eq_true c3)]
    refine and3 (rv_sub fin_twothird fu (by exact lqr [_,_] (.lt T0 T1 1 (.gle (.g (.n 1048576)) (.s T1 T0) 1)) rfl c3) (by exact lqr [_,_] (.le T0 (.a (.d Ty 3) Td) 1 (.nlt T1 (.d Tx 2) 12884901888 (.gle (.s T0 T1) (.n 1048576) 25769803776))) rfl k23.2 c2)) fun fg g1 g2=>?_
    refine and2 (trap_l3 (u:=Rv u) (d:=dR) c2 (by exact lqr [_,_] (.le T0 (.a (.d Ty 3) Td) 1 (.lt T1 T0 25769803776 (.gle T1 (.a (.d Ty 3) Td) 1))) rfl k23.2 c3) (by exact lqr [] (.gle Tz Td 1) rfl)) fun l1 l2=>?_
    exact slope (g:=sub 4604180019048437077 u) (t:=t) f1 f2 fg a1 a2 b1 b2 a0 ab b9 (by exact lqr [_,_,_] (.lt T0 T1 8589934592 (.le (.s (.s T1 T0) Td) T2 1 (.gle (.g Tx) T2 8589934592))) rfl c3 g1) (by exact lqr [_,_,_] (.le T0 (.a (.d Ty 3) Td) 1 (.nlt T1 (.d Tx 2) 12884901888 (.le T2 (.a (.s T0 T1) Td) 3 (.gle T2 Ty 25769803776)))) rfl k23.2 c2 g2) (by exact lqr [_,_,_,_,_,_] (.le (.s T0 T1) (.m (.n 12) (.d Te 2)) 16 (.le (.s T2 T0) (.m (.n 6) Td) 1 (.le T3 (.a (.d Ty 3) Td) 2 (.le T4 (.a (.s T3 T5) Td) 6 (.le (.s (.s (.n 4) (.m (.n 6) T5)) T2) (.m (.n 6) Td) 1 (.gle (.s (.m (.n 6) T4) T1) (.m (.n 30) Te) 32)))))) rfl hn.1 hl.1 k23.2 g2 l2) (by exact lqr [_,_,_,_,_,_] (.le (.s T0 T1) (.m (.n 12) (.d Te 2)) 16 (.le (.s T1 T2) (.m (.n 6) Td) 1 (.le (.s (.d Ty 3) Td) T3 2 (.le (.s (.s T3 T4) Td) T5 6 (.le (.s T2 (.s (.n 4) (.m (.n 6) T4))) (.m (.n 6) Td) 1 (.gle (.s T0 (.m (.n 6) T5)) (.m (.n 30) Te) 32)))))) rfl hn.2 hl.2 k23.1 g1 l1)
   ·rw [if_neg (by simpa using c3)]
    refine and2 (trap_l4 (u:=Rv u) (d:=dR) (by exact lqr [_,_] (.le (.s (.d Ty 3) Td) T0 1 (.nlt T1 T0 25769803776 (.gle (.s (.d Ty 3) Td) T1 1))) rfl k23.1 c3) (by exact lqr [] (.gle Td (.d Tx 12) 1) rfl) (by exact lqr [] (.gle Tz Td 1) rfl)) fun l1 l2=>?_
    have:=p1 (τ:=0) (by exact lqr [_,_,_] (.le (.s T0 T1) (.m (.n 12) (.d Te 2)) 16 (.le (.s T2 T0) (.m (.n 6) Td) 1 (.le (.g T2) (.m (.n 6) Td) 1 (.gle (.s Tz T1) (.m (.n 20) Te) 32)))) rfl hn.1 hl.1 l2) (by exact lqr [_,_,_] (.le (.s T0 T1) (.m (.n 12) (.d Te 2)) 16 (.le (.s T1 T2) (.m (.n 6) Td) 1 (.le T2 (.m (.n 6) Td) 1 (.gle (.s T0 Tz) (.m (.n 20) Te) 32)))) rfl hn.2 hl.2 l1)
    refine ⟨f1,?_,?_⟩<;>(first|exact lqr [_,_,_,_] (.le (.s T0 T1) Te 1 (.le (.s (.m (.s T2 T1) Tz) T3) (.m (.n 20) Te) 1 (.gle (.s T0 (.a T1 T3)) (.d Tx 1048576) 256))) rfl a1 this.2|exact lqr [_,_,_,_] (.le (.s T0 T1) Te 1 (.le (.g (.m (.n 20) Te)) (.s (.m (.s T2 T0) Tz) T3) 1 (.gle (.s (.a T0 T3) T1) (.d Tx 1048576) 256))) rfl a2 this.1)
private theorem floor_at {m:Nat} {e n:Int} (hge : -1074≤e) (lo:n*2 ^ 1074≤sgn false (m*2 ^ (e+1074).toNat)) (hi:sgn false (m*2 ^ (e+1074).toNat)<(n+1)*2 ^ 1074):floorOf false m e=n:=by
 have es:∀ k:Nat,sgn false k=(k:Int):=fun _=>rfl
 unfold floorOf
 rw [es] at lo hi ⊢
 by_cases h:0≤e
 ·rw [if_pos h]
  obtain ⟨j,rfl⟩:=Int.eq_ofNat_of_zero_le h
  have e1:((j:Int)+1074).toNat=j+1074:=by lia -abstractProof
  rw [e1,Nat.pow_add,←Nat.mul_assoc,Int.natCast_mul,Int.natCast_pow] at lo hi
  have e2:((m*2 ^ j:Nat):Int)=(m:Int)*2 ^ j:=by rw [Int.natCast_mul,Int.natCast_pow];rfl
  have e3:(((2:Nat):Int) ^ 1074)=2 ^ 1074:=rfl
  rw [e2,e3] at lo hi
  have hP:(0:Int)<2 ^ 1074:=by decide +kernel
  have h1:=Int.le_of_mul_le_mul_right lo hP
  have h2:=Int.lt_of_mul_lt_mul_right hi (Int.le_of_lt hP)
  show (m:Int)*2 ^ (j:Int).toNat=n
  rw [Int.toNat_natCast]
  exact Int.le_antisymm (lqz [_,_] (.lt T0 (.a T1 Tx) 1 (.gle T0 T1 1)) rfl h2) (lqz [_,_] (.le T0 T1 1 (.gle T0 T1 1)) rfl h1)
 ·rw [if_neg h]
  obtain ⟨j,hj⟩:∃ j:Nat,e = -(j:Int):=⟨(-e).toNat,by lia -abstractProof⟩
  subst hj
  have e1:(-(j:Int)+1074).toNat=1074-j:=by lia -abstractProof
  have e2:(-(-(j:Int))).toNat=j:=by lia -abstractProof
  rw [e1,Int.natCast_mul,Int.natCast_pow] at lo hi
  rw [e2]
  have e3:(2:Int) ^ 1074=2 ^ j*2 ^ (1074-j):=by rw [← Int.pow_add];congr 1;lia -abstractProof
  have e4:(((2:Nat):Int) ^ (1074-j))=2 ^ (1074-j):=rfl
  rw [e3,e4,←Int.mul_assoc] at lo hi
  have hP:(0:Int)<2 ^ (1074-j):=Int.pow_pos (by decide)
  have h1:=Int.le_of_mul_le_mul_right lo hP
  have h2:=Int.lt_of_mul_lt_mul_right hi (Int.le_of_lt hP)
  have hQ:(0:Int)<2 ^ j:=Int.pow_pos (by decide)
  rw [Int.fdiv_eq_ediv_of_nonneg _ (Int.le_of_lt hQ)]
  apply Int.le_antisymm
  ·exact Int.lt_add_one_iff.mp (Int.ediv_lt_of_lt_mul hQ h2)
  ·exact Int.le_ediv_of_mul_le hQ h1
private theorem trunc_at {a:Bool} {m:Nat} {e n:Int} (h0:0≤n) (hge : -1074≤e) (lo:n*2 ^ 1074≤sgn a (m*2 ^ (e+1074).toNat)) (hi:sgn a (m*2 ^ (e+1074).toNat)<(n+1)*2 ^ 1074) (hpos:0≤sgn a (m*2 ^ (e+1074).toNat)):truncOf a m e=n:=by
 cases a with
 | false=>exact floor_at hge lo hi
 | true=>
  have h3:0<2 ^ (e+1074).toNat:=Nat.two_pow_pos _
  have h4:m*2 ^ (e+1074).toNat=0:=by
   unfold sgn at hpos
   simp only [if_true] at hpos
   exact ct_Fl11_1 hpos
  have h5:m=0:=by
   rcases Nat.mul_eq_zero.mp h4 with h|h
   ·exact h
   ·exact ct_Fl11_2 h3 h
  subst h5
  have es:sgn true (0*2 ^ (e+1074).toNat)=0:=by rw [Nat.zero_mul];rfl
  rw [es] at lo hi
  have hP:(0:Int)<2 ^ 1074:=by decide +kernel
  have hn:n=0:=by
   rcases Int.lt_or_eq_of_le h0 with h|h
   ·have:=Int.mul_pos h hP
    exact ct_Fl11_3 lo this h
   ·exact h.symm
  subst hn
  unfold truncOf ceilOf
  rw [if_pos rfl]
  have:floorOf false 0 e=0:=floor_at hge (by rw [Nat.zero_mul];decide +kernel) (by rw [Nat.zero_mul];decide +kernel)
  show -floorOf (!true) 0 e=0
  rw [show (!true)=false from rfl,this]
  rfl
private theorem int_from {u:UInt64} {n:Int} (fu:FinF u) (h0:0≤n) (h9:n≤30000) (h1:Rv u-(n:Rat)/16384≤1/1048576) (h2:(n:Rat)/16384-Rv u≤1/1048576) :
  IntIs (add (mul (ofInt 16384) u) 4602678819172646912) n:=by
 have e1:ofInt 16384=4670232813583204352:=by decide +kernel
 have f1:FinF 4670232813583204352:=⟨_,_,_,by with_unfolding_all rfl⟩
 have r1:Rv 4670232813583204352=16384:=by decide +kernel
 have hn0:(0:Rat)≤(n:Rat):=by have:=Rat.intCast_le_intCast.mpr h0;exact this
 have hn9:(n:Rat)≤30000:=by have:=Rat.intCast_le_intCast.mpr h9;exact this
 rw [e1]
 refine and3 (rv_mul f1 fu (by rw [r1];exact lqr [_,_] (.le (.s (.d T0 16384) T1) (.d Tx 1048576) 1 (.le Tz T0 1048576 (.gle (.g (.n 1048576)) (.m (.n 16384) T1) 1048576))) rfl h2 hn0) (by rw [r1];exact lqr [_,_] (.le (.s T0 (.d T1 16384)) (.d Tx 1048576) 1 (.le T1 (.n 30000) 1048576 (.gle (.m (.n 16384) T0) (.n 1048576) 1048576))) rfl h1 hn9)) fun f2 m1 m2=>?_
 rw [r1] at m1 m2
 generalize mul 4670232813583204352 u=v at *
 refine and3 (rv_add f2 fin_half (by rw [rv_half];exact lqr [_,_,_] (.le (.s (.d T0 16384) T1) (.d Tx 1048576) 8192 (.le Tz T0 8589934592 (.le (.s (.m (.n 16384) T1) Td) T2 1 (.gle (.g (.n 1048576)) (.a T2 (.d Tx 2)) 4294967296)))) rfl h2 hn0 m1) (by rw [rv_half];exact lqr [_,_,_] (.le (.s T0 (.d T1 16384)) (.d Tx 1048576) 8192 (.le T1 (.n 30000) 8589934592 (.le T2 (.a (.m (.n 16384) T0) Td) 1 (.gle (.a T2 (.d Tx 2)) (.n 1048576) 4294967296)))) rfl h1 hn9 m2)) fun f3 k1 k2=>?_
 rw [rv_half] at k1 k2
 generalize add v 4602678819172646912=x at *
 have lo:(n:Rat)≤Rv x:=by exact lqr [_,_,_,_] (.le (.s (.d T0 16384) T1) (.d Tx 1048576) 16384 (.le (.s (.m (.n 16384) T1) Td) T2 2 (.le (.s (.a T2 (.d Tx 2)) Td) T3 1 (.gle T0 T3 17179869184)))) rfl h2 m1 k1
 have hi:Rv x<((n+1:Int):Rat):=by rw [Rat.intCast_add];have:((1:Int):Rat)=1:=rfl;exact lqr [_,_,_,_,_] (.le (.s T0 (.d T1 16384)) (.d Tx 1048576) 16384 (.le T2 (.a (.m (.n 16384) T0) Td) 2 (.le T3 (.a (.a T2 (.d Tx 2)) Td) 1 (.eq T4 Tx (-17179869184) (.glt T3 (.a T1 T4) 17179869184))))) rfl h1 m2 k2 this
 obtain ⟨a,m,e,hd⟩:=f3
 refine ⟨a,m,e,hd,?_⟩
 have lo2:n*2 ^ 1074≤val x:=by
  apply le_cast
  rw [Rat.intCast_mul,Rat.mul_assoc,uR_74,Rat.mul_one]
  exact lo
 have hi2:val x<(n+1)*2 ^ 1074:=by
  apply Int.not_le.mp
  intro h
  have:=cast_le h
  rw [Rat.intCast_mul,Rat.mul_assoc,uR_74,Rat.mul_one] at this
  exact absurd hi (Rat.not_lt.mpr this)
 have hpos:0≤val x:=by
  have:0≤n*2 ^ 1074:=Int.mul_nonneg h0 (by decide +kernel)
  exact ct_Fl11_4 lo2 this
 have hge:=decode_ge hd
 rw [val_eq hd] at lo2 hi2 hpos
 exact trunc_at h0 hge lo2 hi2 hpos
end Mine
end
section
namespace Mine
private theorem t_one_p {q x t:Rat} {z:Int} (h0:0≤q) (h1:q≤1) (e:x=z+(1-q)/6) (et:t=1-q):TrapAt x t:=⟨z,by exact lqr [_,_,_] (.le T0 Tx 1 (.eq T1 (.a T2 (.d (.s Tx T0) 6)) (-1) (.gle Tz (.s T1 T2) 6))) rfl h1 e,by exact lqr [_,_,_] (.le Tz T0 1 (.eq T1 (.a T2 (.d (.s Tx T0) 6)) 1 (.glt (.s T1 T2) Tx 6))) rfl h0 e,by unfold trap;grind -abstractProof⟩
private theorem t_one_m {q x t:Rat} {z:Int} (h0:0≤q) (h1:q≤1) (e:x=z+(1+q)/6) (et:t=1):TrapAt x t:=⟨z,by exact lqr [_,_,_] (.le Tz T0 1 (.eq T1 (.a T2 (.d (.a Tx T0) 6)) (-1) (.gle Tz (.s T1 T2) 6))) rfl h0 e,by exact lqr [_,_,_] (.le T0 Tx 1 (.eq T1 (.a T2 (.d (.a Tx T0) 6)) 1 (.glt (.s T1 T2) Tx 6))) rfl h1 e,by unfold trap;grind -abstractProof⟩
private theorem t_three_p {q x t:Rat} {z:Int} (h0:0≤q) (h1:q≤1) (e:x=z+(3-q)/6) (et:t=1):TrapAt x t:=⟨z,by exact lqr [_,_,_] (.le T0 Tx 1 (.eq T1 (.a T2 (.d (.s (.n 3) T0) 6)) (-1) (.gle Tz (.s T1 T2) 6))) rfl h1 e,by exact lqr [_,_,_] (.le Tz T0 1 (.eq T1 (.a T2 (.d (.s (.n 3) T0) 6)) 1 (.glt (.s T1 T2) Tx 6))) rfl h0 e,by unfold trap;grind -abstractProof⟩
private theorem t_three_m {q x t:Rat} {z:Int} (h0:0≤q) (h1:q≤1) (e:x=z+(3+q)/6) (et:t=1-q):TrapAt x t:=⟨z,by exact lqr [_,_,_] (.le Tz T0 1 (.eq T1 (.a T2 (.d (.a (.n 3) T0) 6)) (-1) (.gle Tz (.s T1 T2) 6))) rfl h0 e,by exact lqr [_,_,_] (.le T0 Tx 1 (.eq T1 (.a T2 (.d (.a (.n 3) T0) 6)) 1 (.glt (.s T1 T2) Tx 6))) rfl h1 e,by unfold trap;grind -abstractProof⟩
private theorem t_five_p {q x t:Rat} {z:Int} (h0:0≤q) (h1:q≤1) (e:x=z+(5-q)/6) (et:t=0):TrapAt x t:=⟨z,by exact lqr [_,_,_] (.le T0 Tx 1 (.eq T1 (.a T2 (.d (.s (.n 5) T0) 6)) (-1) (.gle Tz (.s T1 T2) 6))) rfl h1 e,by exact lqr [_,_,_] (.le Tz T0 1 (.eq T1 (.a T2 (.d (.s (.n 5) T0) 6)) 1 (.glt (.s T1 T2) Tx 6))) rfl h0 e,by unfold trap;grind -abstractProof⟩
private theorem t_five_m {q x t:Rat} {z:Int} (h0:0≤q) (h1:q≤1) (e:x=z+(5+q)/6) (et:t=0):TrapAt x t:=by
 by_cases h:q=1
 ·refine ⟨z+1,?_,?_,?_⟩<;>rw [Rat.intCast_add]<;>(have e1:((1:Int):Rat)=1:=rfl)<;>rw [e1]
  ·exact lqr [_,_,_] (.eq T0 (.a T1 (.d (.a (.n 5) T2) 6)) (-1) (.eq T2 Tx (-1) (.gle Tz (.s T0 (.a T1 Tx)) 6))) rfl e h
  ·exact lqr [_,_,_] (.le T0 Tx 1 (.eq T1 (.a T2 (.d (.a (.n 5) T0) 6)) 1 (.glt (.s T1 (.a T2 Tx)) Tx 6))) rfl h1 e
  ·unfold trap;grind -abstractProof
 ·exact ⟨z,by exact lqr [_,_,_] (.le Tz T0 1 (.eq T1 (.a T2 (.d (.a (.n 5) T0) 6)) (-1) (.gle Tz (.s T1 T2) 6))) rfl h0 e,by grind -abstractProof,by unfold trap;grind -abstractProof⟩
noncomputable def HueAt (h r g b:Rat):Prop:=∃ q:Rat,0≤q∧q≤1∧((h=q/6∧r=1∧g=q∧b=0)∨(h=(2-q)/6∧r=q∧g=1∧b=0)∨(h=(2+q)/6∧r=0∧g=1∧b=q)∨(h=(4-q)/6∧r=0∧g=q∧b=1)∨(h=(4+q)/6∧r=q∧g=0∧b=1)∨(h = -q/6∧r=1∧g=0∧b=q))
noncomputable def othr (k j:Fin 3):Fin 3:=match k,j with
 | 0,0=>0|0,1=>2|0,2=>1
 | 1,0=>2|1,1=>1|1,2=>0
 | 2,0=>1|2,1=>0|2,2=>2
noncomputable def pick3 {α:Type} (r g b:α) (j:Fin 3):α:=match j with|0=>r|1=>g|2=>b
noncomputable def side3 (j:Fin 3):Rat:=match j with|0=>1/3|1=>0|2 => -1/3
noncomputable def twoK (k:Fin 3):Rat:=match k with|0=>0|1=>2/3|2=>4/3
private theorem turn_trap {h r g b:Rat} (H:HueAt h r g b) (k j:Fin 3):TrapAt (1/2+twoK k-h+side3 j) (1-pick3 r g b (othr k j)):=by
 refine goalP fun G9 hG9=>?_
 obtain ⟨q,h0,h1,H⟩:=H
 refine hG9 ?_
 clear hG9
 match k,j with
 | 0,0=>
  show TrapAt (1/2+0-h+1/3) (1-r)
  rcases H with ⟨rfl,rfl,rfl,rfl⟩|⟨rfl,rfl,rfl,rfl⟩|⟨rfl,rfl,rfl,rfl⟩|⟨rfl,rfl,rfl,rfl⟩|⟨rfl,rfl,rfl,rfl⟩|⟨rfl,rfl,rfl,rfl⟩
  ·exact t_five_p (z:=0) h0 h1 (by rw [show (((0:Int)):Rat)=0 from rfl];exact Rat.le_antisymm (lqr [_] (.gle (.a (.s (.a (.d Tx 2) Tz) (.d T0 6)) (.d Tx 3)) (.a Tz (.d (.s (.n 5) T0) 6)) 1) rfl) (lqr [_] (.gle (.a Tz (.d (.s (.n 5) T0) 6)) (.a (.s (.a (.d Tx 2) Tz) (.d T0 6)) (.d Tx 3)) 1) rfl)) (by exact Rat.le_antisymm (lqr [] (.gle (.s Tx Tx) Tz 1) rfl) (lqr [] (.gle Tz (.s Tx Tx) 1) rfl))
  ·exact t_three_m (z:=0) h0 h1 (by rw [show (((0:Int)):Rat)=0 from rfl];exact Rat.le_antisymm (lqr [_] (.gle (.a (.s (.a (.d Tx 2) Tz) (.d (.s Ty T0) 6)) (.d Tx 3)) (.a Tz (.d (.a (.n 3) T0) 6)) 1) rfl) (lqr [_] (.gle (.a Tz (.d (.a (.n 3) T0) 6)) (.a (.s (.a (.d Tx 2) Tz) (.d (.s Ty T0) 6)) (.d Tx 3)) 1) rfl)) (by exact Rat.le_antisymm (lqr [_] (.gle (.s Tx T0) (.s Tx T0) 1) rfl) (lqr [_] (.gle (.s Tx T0) (.s Tx T0) 1) rfl))
  ·exact t_three_p (z:=0) h0 h1 (by rw [show (((0:Int)):Rat)=0 from rfl];exact Rat.le_antisymm (lqr [_] (.gle (.a (.s (.a (.d Tx 2) Tz) (.d (.a Ty T0) 6)) (.d Tx 3)) (.a Tz (.d (.s (.n 3) T0) 6)) 1) rfl) (lqr [_] (.gle (.a Tz (.d (.s (.n 3) T0) 6)) (.a (.s (.a (.d Tx 2) Tz) (.d (.a Ty T0) 6)) (.d Tx 3)) 1) rfl)) (by exact Rat.le_antisymm (lqr [] (.gle (.s Tx Tz) Tx 1) rfl) (lqr [] (.gle Tx (.s Tx Tz) 1) rfl))
  ·exact t_one_m (z:=0) h0 h1 (by rw [show (((0:Int)):Rat)=0 from rfl];exact Rat.le_antisymm (lqr [_] (.gle (.a (.s (.a (.d Tx 2) Tz) (.d (.s (.n 4) T0) 6)) (.d Tx 3)) (.a Tz (.d (.a Tx T0) 6)) 1) rfl) (lqr [_] (.gle (.a Tz (.d (.a Tx T0) 6)) (.a (.s (.a (.d Tx 2) Tz) (.d (.s (.n 4) T0) 6)) (.d Tx 3)) 1) rfl)) (by exact Rat.le_antisymm (lqr [] (.gle (.s Tx Tz) Tx 1) rfl) (lqr [] (.gle Tx (.s Tx Tz) 1) rfl))
  ·exact t_one_p (z:=0) h0 h1 (by rw [show (((0:Int)):Rat)=0 from rfl];exact Rat.le_antisymm (lqr [_] (.gle (.a (.s (.a (.d Tx 2) Tz) (.d (.a (.n 4) T0) 6)) (.d Tx 3)) (.a Tz (.d (.s Tx T0) 6)) 1) rfl) (lqr [_] (.gle (.a Tz (.d (.s Tx T0) 6)) (.a (.s (.a (.d Tx 2) Tz) (.d (.a (.n 4) T0) 6)) (.d Tx 3)) 1) rfl)) (by exact Rat.le_antisymm (lqr [_] (.gle (.s Tx T0) (.s Tx T0) 1) rfl) (lqr [_] (.gle (.s Tx T0) (.s Tx T0) 1) rfl))
  ·exact t_five_m (z:=0) h0 h1 (by rw [show (((0:Int)):Rat)=0 from rfl];exact Rat.le_antisymm (lqr [_] (.gle (.a (.s (.a (.d Tx 2) Tz) (.d (.g T0) 6)) (.d Tx 3)) (.a Tz (.d (.a (.n 5) T0) 6)) 1) rfl) (lqr [_] (.gle (.a Tz (.d (.a (.n 5) T0) 6)) (.a (.s (.a (.d Tx 2) Tz) (.d (.g T0) 6)) (.d Tx 3)) 1) rfl)) (by exact Rat.le_antisymm (lqr [] (.gle (.s Tx Tx) Tz 1) rfl) (lqr [] (.gle Tz (.s Tx Tx) 1) rfl))
 | 0,1=>
  show TrapAt (1/2+0-h+0) (1-b)
  rcases H with ⟨rfl,rfl,rfl,rfl⟩|⟨rfl,rfl,rfl,rfl⟩|⟨rfl,rfl,rfl,rfl⟩|⟨rfl,rfl,rfl,rfl⟩|⟨rfl,rfl,rfl,rfl⟩|⟨rfl,rfl,rfl,rfl⟩
  ·exact t_three_p (z:=0) h0 h1 (by rw [show (((0:Int)):Rat)=0 from rfl];exact Rat.le_antisymm (lqr [_] (.gle (.a (.s (.a (.d Tx 2) Tz) (.d T0 6)) Tz) (.a Tz (.d (.s (.n 3) T0) 6)) 1) rfl) (lqr [_] (.gle (.a Tz (.d (.s (.n 3) T0) 6)) (.a (.s (.a (.d Tx 2) Tz) (.d T0 6)) Tz) 1) rfl)) (by exact Rat.le_antisymm (lqr [] (.gle (.s Tx Tz) Tx 1) rfl) (lqr [] (.gle Tx (.s Tx Tz) 1) rfl))
  ·exact t_one_m (z:=0) h0 h1 (by rw [show (((0:Int)):Rat)=0 from rfl];exact Rat.le_antisymm (lqr [_] (.gle (.a (.s (.a (.d Tx 2) Tz) (.d (.s Ty T0) 6)) Tz) (.a Tz (.d (.a Tx T0) 6)) 1) rfl) (lqr [_] (.gle (.a Tz (.d (.a Tx T0) 6)) (.a (.s (.a (.d Tx 2) Tz) (.d (.s Ty T0) 6)) Tz) 1) rfl)) (by exact Rat.le_antisymm (lqr [] (.gle (.s Tx Tz) Tx 1) rfl) (lqr [] (.gle Tx (.s Tx Tz) 1) rfl))
  ·exact t_one_p (z:=0) h0 h1 (by rw [show (((0:Int)):Rat)=0 from rfl];exact Rat.le_antisymm (lqr [_] (.gle (.a (.s (.a (.d Tx 2) Tz) (.d (.a Ty T0) 6)) Tz) (.a Tz (.d (.s Tx T0) 6)) 1) rfl) (lqr [_] (.gle (.a Tz (.d (.s Tx T0) 6)) (.a (.s (.a (.d Tx 2) Tz) (.d (.a Ty T0) 6)) Tz) 1) rfl)) (by exact Rat.le_antisymm (lqr [_] (.gle (.s Tx T0) (.s Tx T0) 1) rfl) (lqr [_] (.gle (.s Tx T0) (.s Tx T0) 1) rfl))
  ·exact t_five_m (z := -1) h0 h1 (by rw [show (((-1:Int)):Rat) = -1 from rfl];exact Rat.le_antisymm (lqr [_] (.gle (.a (.s (.a (.d Tx 2) Tz) (.d (.s (.n 4) T0) 6)) Tz) (.a (.g Tx) (.d (.a (.n 5) T0) 6)) 1) rfl) (lqr [_] (.gle (.a (.g Tx) (.d (.a (.n 5) T0) 6)) (.a (.s (.a (.d Tx 2) Tz) (.d (.s (.n 4) T0) 6)) Tz) 1) rfl)) (by exact Rat.le_antisymm (lqr [] (.gle (.s Tx Tx) Tz 1) rfl) (lqr [] (.gle Tz (.s Tx Tx) 1) rfl))
  ·exact t_five_p (z := -1) h0 h1 (by rw [show (((-1:Int)):Rat) = -1 from rfl];exact Rat.le_antisymm (lqr [_] (.gle (.a (.s (.a (.d Tx 2) Tz) (.d (.a (.n 4) T0) 6)) Tz) (.a (.g Tx) (.d (.s (.n 5) T0) 6)) 1) rfl) (lqr [_] (.gle (.a (.g Tx) (.d (.s (.n 5) T0) 6)) (.a (.s (.a (.d Tx 2) Tz) (.d (.a (.n 4) T0) 6)) Tz) 1) rfl)) (by exact Rat.le_antisymm (lqr [] (.gle (.s Tx Tx) Tz 1) rfl) (lqr [] (.gle Tz (.s Tx Tx) 1) rfl))
  ·exact t_three_m (z:=0) h0 h1 (by rw [show (((0:Int)):Rat)=0 from rfl];exact Rat.le_antisymm (lqr [_] (.gle (.a (.s (.a (.d Tx 2) Tz) (.d (.g T0) 6)) Tz) (.a Tz (.d (.a (.n 3) T0) 6)) 1) rfl) (lqr [_] (.gle (.a Tz (.d (.a (.n 3) T0) 6)) (.a (.s (.a (.d Tx 2) Tz) (.d (.g T0) 6)) Tz) 1) rfl)) (by exact Rat.le_antisymm (lqr [_] (.gle (.s Tx T0) (.s Tx T0) 1) rfl) (lqr [_] (.gle (.s Tx T0) (.s Tx T0) 1) rfl))
 | 0,2=>
  show TrapAt (1/2+0-h + -1/3) (1-g)
  rcases H with ⟨rfl,rfl,rfl,rfl⟩|⟨rfl,rfl,rfl,rfl⟩|⟨rfl,rfl,rfl,rfl⟩|⟨rfl,rfl,rfl,rfl⟩|⟨rfl,rfl,rfl,rfl⟩|⟨rfl,rfl,rfl,rfl⟩
  ·exact t_one_p (z:=0) h0 h1 (by rw [show (((0:Int)):Rat)=0 from rfl];exact Rat.le_antisymm (lqr [_] (.gle (.a (.s (.a (.d Tx 2) Tz) (.d T0 6)) (.d (.g Tx) 3)) (.a Tz (.d (.s Tx T0) 6)) 1) rfl) (lqr [_] (.gle (.a Tz (.d (.s Tx T0) 6)) (.a (.s (.a (.d Tx 2) Tz) (.d T0 6)) (.d (.g Tx) 3)) 1) rfl)) (by exact Rat.le_antisymm (lqr [_] (.gle (.s Tx T0) (.s Tx T0) 1) rfl) (lqr [_] (.gle (.s Tx T0) (.s Tx T0) 1) rfl))
  ·exact t_five_m (z := -1) h0 h1 (by rw [show (((-1:Int)):Rat) = -1 from rfl];exact Rat.le_antisymm (lqr [_] (.gle (.a (.s (.a (.d Tx 2) Tz) (.d (.s Ty T0) 6)) (.d (.g Tx) 3)) (.a (.g Tx) (.d (.a (.n 5) T0) 6)) 1) rfl) (lqr [_] (.gle (.a (.g Tx) (.d (.a (.n 5) T0) 6)) (.a (.s (.a (.d Tx 2) Tz) (.d (.s Ty T0) 6)) (.d (.g Tx) 3)) 1) rfl)) (by exact Rat.le_antisymm (lqr [] (.gle (.s Tx Tx) Tz 1) rfl) (lqr [] (.gle Tz (.s Tx Tx) 1) rfl))
  ·exact t_five_p (z := -1) h0 h1 (by rw [show (((-1:Int)):Rat) = -1 from rfl];exact Rat.le_antisymm (lqr [_] (.gle (.a (.s (.a (.d Tx 2) Tz) (.d (.a Ty T0) 6)) (.d (.g Tx) 3)) (.a (.g Tx) (.d (.s (.n 5) T0) 6)) 1) rfl) (lqr [_] (.gle (.a (.g Tx) (.d (.s (.n 5) T0) 6)) (.a (.s (.a (.d Tx 2) Tz) (.d (.a Ty T0) 6)) (.d (.g Tx) 3)) 1) rfl)) (by exact Rat.le_antisymm (lqr [] (.gle (.s Tx Tx) Tz 1) rfl) (lqr [] (.gle Tz (.s Tx Tx) 1) rfl))
  ·exact t_three_m (z := -1) h0 h1 (by rw [show (((-1:Int)):Rat) = -1 from rfl];exact Rat.le_antisymm (lqr [_] (.gle (.a (.s (.a (.d Tx 2) Tz) (.d (.s (.n 4) T0) 6)) (.d (.g Tx) 3)) (.a (.g Tx) (.d (.a (.n 3) T0) 6)) 1) rfl) (lqr [_] (.gle (.a (.g Tx) (.d (.a (.n 3) T0) 6)) (.a (.s (.a (.d Tx 2) Tz) (.d (.s (.n 4) T0) 6)) (.d (.g Tx) 3)) 1) rfl)) (by exact Rat.le_antisymm (lqr [_] (.gle (.s Tx T0) (.s Tx T0) 1) rfl) (lqr [_] (.gle (.s Tx T0) (.s Tx T0) 1) rfl))
  ·exact t_three_p (z := -1) h0 h1 (by rw [show (((-1:Int)):Rat) = -1 from rfl];exact Rat.le_antisymm (lqr [_] (.gle (.a (.s (.a (.d Tx 2) Tz) (.d (.a (.n 4) T0) 6)) (.d (.g Tx) 3)) (.a (.g Tx) (.d (.s (.n 3) T0) 6)) 1) rfl) (lqr [_] (.gle (.a (.g Tx) (.d (.s (.n 3) T0) 6)) (.a (.s (.a (.d Tx 2) Tz) (.d (.a (.n 4) T0) 6)) (.d (.g Tx) 3)) 1) rfl)) (by exact Rat.le_antisymm (lqr [] (.gle (.s Tx Tz) Tx 1) rfl) (lqr [] (.gle Tx (.s Tx Tz) 1) rfl))
  ·exact t_one_m (z:=0) h0 h1 (by rw [show (((0:Int)):Rat)=0 from rfl];exact Rat.le_antisymm (lqr [_] (.gle (.a (.s (.a (.d Tx 2) Tz) (.d (.g T0) 6)) (.d (.g Tx) 3)) (.a Tz (.d (.a Tx T0) 6)) 1) rfl) (lqr [_] (.gle (.a Tz (.d (.a Tx T0) 6)) (.a (.s (.a (.d Tx 2) Tz) (.d (.g T0) 6)) (.d (.g Tx) 3)) 1) rfl)) (by exact Rat.le_antisymm (lqr [] (.gle (.s Tx Tz) Tx 1) rfl) (lqr [] (.gle Tx (.s Tx Tz) 1) rfl))
 | 1,0=>
  show TrapAt (1/2+2/3-h+1/3) (1-b)
  rcases H with ⟨rfl,rfl,rfl,rfl⟩|⟨rfl,rfl,rfl,rfl⟩|⟨rfl,rfl,rfl,rfl⟩|⟨rfl,rfl,rfl,rfl⟩|⟨rfl,rfl,rfl,rfl⟩|⟨rfl,rfl,rfl,rfl⟩
  ·exact t_three_p (z:=1) h0 h1 (by rw [show (((1:Int)):Rat)=1 from rfl];exact Rat.le_antisymm (lqr [_] (.gle (.a (.s (.a (.d Tx 2) (.d Ty 3)) (.d T0 6)) (.d Tx 3)) (.a Tx (.d (.s (.n 3) T0) 6)) 1) rfl) (lqr [_] (.gle (.a Tx (.d (.s (.n 3) T0) 6)) (.a (.s (.a (.d Tx 2) (.d Ty 3)) (.d T0 6)) (.d Tx 3)) 1) rfl)) (by exact Rat.le_antisymm (lqr [] (.gle (.s Tx Tz) Tx 1) rfl) (lqr [] (.gle Tx (.s Tx Tz) 1) rfl))
  ·exact t_one_m (z:=1) h0 h1 (by rw [show (((1:Int)):Rat)=1 from rfl];exact Rat.le_antisymm (lqr [_] (.gle (.a (.s (.a (.d Tx 2) (.d Ty 3)) (.d (.s Ty T0) 6)) (.d Tx 3)) (.a Tx (.d (.a Tx T0) 6)) 1) rfl) (lqr [_] (.gle (.a Tx (.d (.a Tx T0) 6)) (.a (.s (.a (.d Tx 2) (.d Ty 3)) (.d (.s Ty T0) 6)) (.d Tx 3)) 1) rfl)) (by exact Rat.le_antisymm (lqr [] (.gle (.s Tx Tz) Tx 1) rfl) (lqr [] (.gle Tx (.s Tx Tz) 1) rfl))
  ·exact t_one_p (z:=1) h0 h1 (by rw [show (((1:Int)):Rat)=1 from rfl];exact Rat.le_antisymm (lqr [_] (.gle (.a (.s (.a (.d Tx 2) (.d Ty 3)) (.d (.a Ty T0) 6)) (.d Tx 3)) (.a Tx (.d (.s Tx T0) 6)) 1) rfl) (lqr [_] (.gle (.a Tx (.d (.s Tx T0) 6)) (.a (.s (.a (.d Tx 2) (.d Ty 3)) (.d (.a Ty T0) 6)) (.d Tx 3)) 1) rfl)) (by exact Rat.le_antisymm (lqr [_] (.gle (.s Tx T0) (.s Tx T0) 1) rfl) (lqr [_] (.gle (.s Tx T0) (.s Tx T0) 1) rfl))
  ·exact t_five_m (z:=0) h0 h1 (by rw [show (((0:Int)):Rat)=0 from rfl];exact Rat.le_antisymm (lqr [_] (.gle (.a (.s (.a (.d Tx 2) (.d Ty 3)) (.d (.s (.n 4) T0) 6)) (.d Tx 3)) (.a Tz (.d (.a (.n 5) T0) 6)) 1) rfl) (lqr [_] (.gle (.a Tz (.d (.a (.n 5) T0) 6)) (.a (.s (.a (.d Tx 2) (.d Ty 3)) (.d (.s (.n 4) T0) 6)) (.d Tx 3)) 1) rfl)) (by exact Rat.le_antisymm (lqr [] (.gle (.s Tx Tx) Tz 1) rfl) (lqr [] (.gle Tz (.s Tx Tx) 1) rfl))
  ·exact t_five_p (z:=0) h0 h1 (by rw [show (((0:Int)):Rat)=0 from rfl];exact Rat.le_antisymm (lqr [_] (.gle (.a (.s (.a (.d Tx 2) (.d Ty 3)) (.d (.a (.n 4) T0) 6)) (.d Tx 3)) (.a Tz (.d (.s (.n 5) T0) 6)) 1) rfl) (lqr [_] (.gle (.a Tz (.d (.s (.n 5) T0) 6)) (.a (.s (.a (.d Tx 2) (.d Ty 3)) (.d (.a (.n 4) T0) 6)) (.d Tx 3)) 1) rfl)) (by exact Rat.le_antisymm (lqr [] (.gle (.s Tx Tx) Tz 1) rfl) (lqr [] (.gle Tz (.s Tx Tx) 1) rfl))
  ·exact t_three_m (z:=1) h0 h1 (by rw [show (((1:Int)):Rat)=1 from rfl];exact Rat.le_antisymm (lqr [_] (.gle (.a (.s (.a (.d Tx 2) (.d Ty 3)) (.d (.g T0) 6)) (.d Tx 3)) (.a Tx (.d (.a (.n 3) T0) 6)) 1) rfl) (lqr [_] (.gle (.a Tx (.d (.a (.n 3) T0) 6)) (.a (.s (.a (.d Tx 2) (.d Ty 3)) (.d (.g T0) 6)) (.d Tx 3)) 1) rfl)) (by exact Rat.le_antisymm (lqr [_] (.gle (.s Tx T0) (.s Tx T0) 1) rfl) (lqr [_] (.gle (.s Tx T0) (.s Tx T0) 1) rfl))
 | 1,1=>
  show TrapAt (1/2+2/3-h+0) (1-g)
  rcases H with ⟨rfl,rfl,rfl,rfl⟩|⟨rfl,rfl,rfl,rfl⟩|⟨rfl,rfl,rfl,rfl⟩|⟨rfl,rfl,rfl,rfl⟩|⟨rfl,rfl,rfl,rfl⟩|⟨rfl,rfl,rfl,rfl⟩
  ·exact t_one_p (z:=1) h0 h1 (by rw [show (((1:Int)):Rat)=1 from rfl];exact Rat.le_antisymm (lqr [_] (.gle (.a (.s (.a (.d Tx 2) (.d Ty 3)) (.d T0 6)) Tz) (.a Tx (.d (.s Tx T0) 6)) 1) rfl) (lqr [_] (.gle (.a Tx (.d (.s Tx T0) 6)) (.a (.s (.a (.d Tx 2) (.d Ty 3)) (.d T0 6)) Tz) 1) rfl)) (by exact Rat.le_antisymm (lqr [_] (.gle (.s Tx T0) (.s Tx T0) 1) rfl) (lqr [_] (.gle (.s Tx T0) (.s Tx T0) 1) rfl))
  ·exact t_five_m (z:=0) h0 h1 (by rw [show (((0:Int)):Rat)=0 from rfl];exact Rat.le_antisymm (lqr [_] (.gle (.a (.s (.a (.d Tx 2) (.d Ty 3)) (.d (.s Ty T0) 6)) Tz) (.a Tz (.d (.a (.n 5) T0) 6)) 1) rfl) (lqr [_] (.gle (.a Tz (.d (.a (.n 5) T0) 6)) (.a (.s (.a (.d Tx 2) (.d Ty 3)) (.d (.s Ty T0) 6)) Tz) 1) rfl)) (by exact Rat.le_antisymm (lqr [] (.gle (.s Tx Tx) Tz 1) rfl) (lqr [] (.gle Tz (.s Tx Tx) 1) rfl))
  ·exact t_five_p (z:=0) h0 h1 (by rw [show (((0:Int)):Rat)=0 from rfl];exact Rat.le_antisymm (lqr [_] (.gle (.a (.s (.a (.d Tx 2) (.d Ty 3)) (.d (.a Ty T0) 6)) Tz) (.a Tz (.d (.s (.n 5) T0) 6)) 1) rfl) (lqr [_] (.gle (.a Tz (.d (.s (.n 5) T0) 6)) (.a (.s (.a (.d Tx 2) (.d Ty 3)) (.d (.a Ty T0) 6)) Tz) 1) rfl)) (by exact Rat.le_antisymm (lqr [] (.gle (.s Tx Tx) Tz 1) rfl) (lqr [] (.gle Tz (.s Tx Tx) 1) rfl))
  ·exact t_three_m (z:=0) h0 h1 (by rw [show (((0:Int)):Rat)=0 from rfl];exact Rat.le_antisymm (lqr [_] (.gle (.a (.s (.a (.d Tx 2) (.d Ty 3)) (.d (.s (.n 4) T0) 6)) Tz) (.a Tz (.d (.a (.n 3) T0) 6)) 1) rfl) (lqr [_] (.gle (.a Tz (.d (.a (.n 3) T0) 6)) (.a (.s (.a (.d Tx 2) (.d Ty 3)) (.d (.s (.n 4) T0) 6)) Tz) 1) rfl)) (by exact Rat.le_antisymm (lqr [_] (.gle (.s Tx T0) (.s Tx T0) 1) rfl) (lqr [_] (.gle (.s Tx T0) (.s Tx T0) 1) rfl))
  ·exact t_three_p (z:=0) h0 h1 (by rw [show (((0:Int)):Rat)=0 from rfl];exact Rat.le_antisymm (lqr [_] (.gle (.a (.s (.a (.d Tx 2) (.d Ty 3)) (.d (.a (.n 4) T0) 6)) Tz) (.a Tz (.d (.s (.n 3) T0) 6)) 1) rfl) (lqr [_] (.gle (.a Tz (.d (.s (.n 3) T0) 6)) (.a (.s (.a (.d Tx 2) (.d Ty 3)) (.d (.a (.n 4) T0) 6)) Tz) 1) rfl)) (by exact Rat.le_antisymm (lqr [] (.gle (.s Tx Tz) Tx 1) rfl) (lqr [] (.gle Tx (.s Tx Tz) 1) rfl))
  ·exact t_one_m (z:=1) h0 h1 (by rw [show (((1:Int)):Rat)=1 from rfl];exact Rat.le_antisymm (lqr [_] (.gle (.a (.s (.a (.d Tx 2) (.d Ty 3)) (.d (.g T0) 6)) Tz) (.a Tx (.d (.a Tx T0) 6)) 1) rfl) (lqr [_] (.gle (.a Tx (.d (.a Tx T0) 6)) (.a (.s (.a (.d Tx 2) (.d Ty 3)) (.d (.g T0) 6)) Tz) 1) rfl)) (by exact Rat.le_antisymm (lqr [] (.gle (.s Tx Tz) Tx 1) rfl) (lqr [] (.gle Tx (.s Tx Tz) 1) rfl))
 | 1,2=>
  show TrapAt (1/2+2/3-h + -1/3) (1-r)
  rcases H with ⟨rfl,rfl,rfl,rfl⟩|⟨rfl,rfl,rfl,rfl⟩|⟨rfl,rfl,rfl,rfl⟩|⟨rfl,rfl,rfl,rfl⟩|⟨rfl,rfl,rfl,rfl⟩|⟨rfl,rfl,rfl,rfl⟩
  ·exact t_five_p (z:=0) h0 h1 (by rw [show (((0:Int)):Rat)=0 from rfl];exact Rat.le_antisymm (lqr [_] (.gle (.a (.s (.a (.d Tx 2) (.d Ty 3)) (.d T0 6)) (.d (.g Tx) 3)) (.a Tz (.d (.s (.n 5) T0) 6)) 1) rfl) (lqr [_] (.gle (.a Tz (.d (.s (.n 5) T0) 6)) (.a (.s (.a (.d Tx 2) (.d Ty 3)) (.d T0 6)) (.d (.g Tx) 3)) 1) rfl)) (by exact Rat.le_antisymm (lqr [] (.gle (.s Tx Tx) Tz 1) rfl) (lqr [] (.gle Tz (.s Tx Tx) 1) rfl))
  ·exact t_three_m (z:=0) h0 h1 (by rw [show (((0:Int)):Rat)=0 from rfl];exact Rat.le_antisymm (lqr [_] (.gle (.a (.s (.a (.d Tx 2) (.d Ty 3)) (.d (.s Ty T0) 6)) (.d (.g Tx) 3)) (.a Tz (.d (.a (.n 3) T0) 6)) 1) rfl) (lqr [_] (.gle (.a Tz (.d (.a (.n 3) T0) 6)) (.a (.s (.a (.d Tx 2) (.d Ty 3)) (.d (.s Ty T0) 6)) (.d (.g Tx) 3)) 1) rfl)) (by exact Rat.le_antisymm (lqr [_] (.gle (.s Tx T0) (.s Tx T0) 1) rfl) (lqr [_] (.gle (.s Tx T0) (.s Tx T0) 1) rfl))
  ·exact t_three_p (z:=0) h0 h1 (by rw [show (((0:Int)):Rat)=0 from rfl];exact Rat.le_antisymm (lqr [_] (.gle (.a (.s (.a (.d Tx 2) (.d Ty 3)) (.d (.a Ty T0) 6)) (.d (.g Tx) 3)) (.a Tz (.d (.s (.n 3) T0) 6)) 1) rfl) (lqr [_] (.gle (.a Tz (.d (.s (.n 3) T0) 6)) (.a (.s (.a (.d Tx 2) (.d Ty 3)) (.d (.a Ty T0) 6)) (.d (.g Tx) 3)) 1) rfl)) (by exact Rat.le_antisymm (lqr [] (.gle (.s Tx Tz) Tx 1) rfl) (lqr [] (.gle Tx (.s Tx Tz) 1) rfl))
  ·exact t_one_m (z:=0) h0 h1 (by rw [show (((0:Int)):Rat)=0 from rfl];exact Rat.le_antisymm (lqr [_] (.gle (.a (.s (.a (.d Tx 2) (.d Ty 3)) (.d (.s (.n 4) T0) 6)) (.d (.g Tx) 3)) (.a Tz (.d (.a Tx T0) 6)) 1) rfl) (lqr [_] (.gle (.a Tz (.d (.a Tx T0) 6)) (.a (.s (.a (.d Tx 2) (.d Ty 3)) (.d (.s (.n 4) T0) 6)) (.d (.g Tx) 3)) 1) rfl)) (by exact Rat.le_antisymm (lqr [] (.gle (.s Tx Tz) Tx 1) rfl) (lqr [] (.gle Tx (.s Tx Tz) 1) rfl))
  ·exact t_one_p (z:=0) h0 h1 (by rw [show (((0:Int)):Rat)=0 from rfl];exact Rat.le_antisymm (lqr [_] (.gle (.a (.s (.a (.d Tx 2) (.d Ty 3)) (.d (.a (.n 4) T0) 6)) (.d (.g Tx) 3)) (.a Tz (.d (.s Tx T0) 6)) 1) rfl) (lqr [_] (.gle (.a Tz (.d (.s Tx T0) 6)) (.a (.s (.a (.d Tx 2) (.d Ty 3)) (.d (.a (.n 4) T0) 6)) (.d (.g Tx) 3)) 1) rfl)) (by exact Rat.le_antisymm (lqr [_] (.gle (.s Tx T0) (.s Tx T0) 1) rfl) (lqr [_] (.gle (.s Tx T0) (.s Tx T0) 1) rfl))
  ·exact t_five_m (z:=0) h0 h1 (by rw [show (((0:Int)):Rat)=0 from rfl];exact Rat.le_antisymm (lqr [_] (.gle (.a (.s (.a (.d Tx 2) (.d Ty 3)) (.d (.g T0) 6)) (.d (.g Tx) 3)) (.a Tz (.d (.a (.n 5) T0) 6)) 1) rfl) (lqr [_] (.gle (.a Tz (.d (.a (.n 5) T0) 6)) (.a (.s (.a (.d Tx 2) (.d Ty 3)) (.d (.g T0) 6)) (.d (.g Tx) 3)) 1) rfl)) (by exact Rat.le_antisymm (lqr [] (.gle (.s Tx Tx) Tz 1) rfl) (lqr [] (.gle Tz (.s Tx Tx) 1) rfl))
 | 2,0=>
  show TrapAt (1/2+4/3-h+1/3) (1-g)
  rcases H with ⟨rfl,rfl,rfl,rfl⟩|⟨rfl,rfl,rfl,rfl⟩|⟨rfl,rfl,rfl,rfl⟩|⟨rfl,rfl,rfl,rfl⟩|⟨rfl,rfl,rfl,rfl⟩|⟨rfl,rfl,rfl,rfl⟩
  ·exact t_one_p (z:=2) h0 h1 (by rw [show (((2:Int)):Rat)=2 from rfl];exact Rat.le_antisymm (lqr [_] (.gle (.a (.s (.a (.d Tx 2) (.d (.n 4) 3)) (.d T0 6)) (.d Tx 3)) (.a Ty (.d (.s Tx T0) 6)) 1) rfl) (lqr [_] (.gle (.a Ty (.d (.s Tx T0) 6)) (.a (.s (.a (.d Tx 2) (.d (.n 4) 3)) (.d T0 6)) (.d Tx 3)) 1) rfl)) (by exact Rat.le_antisymm (lqr [_] (.gle (.s Tx T0) (.s Tx T0) 1) rfl) (lqr [_] (.gle (.s Tx T0) (.s Tx T0) 1) rfl))
  ·exact t_five_m (z:=1) h0 h1 (by rw [show (((1:Int)):Rat)=1 from rfl];exact Rat.le_antisymm (lqr [_] (.gle (.a (.s (.a (.d Tx 2) (.d (.n 4) 3)) (.d (.s Ty T0) 6)) (.d Tx 3)) (.a Tx (.d (.a (.n 5) T0) 6)) 1) rfl) (lqr [_] (.gle (.a Tx (.d (.a (.n 5) T0) 6)) (.a (.s (.a (.d Tx 2) (.d (.n 4) 3)) (.d (.s Ty T0) 6)) (.d Tx 3)) 1) rfl)) (by exact Rat.le_antisymm (lqr [] (.gle (.s Tx Tx) Tz 1) rfl) (lqr [] (.gle Tz (.s Tx Tx) 1) rfl))
  ·exact t_five_p (z:=1) h0 h1 (by rw [show (((1:Int)):Rat)=1 from rfl];exact Rat.le_antisymm (lqr [_] (.gle (.a (.s (.a (.d Tx 2) (.d (.n 4) 3)) (.d (.a Ty T0) 6)) (.d Tx 3)) (.a Tx (.d (.s (.n 5) T0) 6)) 1) rfl) (lqr [_] (.gle (.a Tx (.d (.s (.n 5) T0) 6)) (.a (.s (.a (.d Tx 2) (.d (.n 4) 3)) (.d (.a Ty T0) 6)) (.d Tx 3)) 1) rfl)) (by exact Rat.le_antisymm (lqr [] (.gle (.s Tx Tx) Tz 1) rfl) (lqr [] (.gle Tz (.s Tx Tx) 1) rfl))
  ·exact t_three_m (z:=1) h0 h1 (by rw [show (((1:Int)):Rat)=1 from rfl];exact Rat.le_antisymm (lqr [_] (.gle (.a (.s (.a (.d Tx 2) (.d (.n 4) 3)) (.d (.s (.n 4) T0) 6)) (.d Tx 3)) (.a Tx (.d (.a (.n 3) T0) 6)) 1) rfl) (lqr [_] (.gle (.a Tx (.d (.a (.n 3) T0) 6)) (.a (.s (.a (.d Tx 2) (.d (.n 4) 3)) (.d (.s (.n 4) T0) 6)) (.d Tx 3)) 1) rfl)) (by exact Rat.le_antisymm (lqr [_] (.gle (.s Tx T0) (.s Tx T0) 1) rfl) (lqr [_] (.gle (.s Tx T0) (.s Tx T0) 1) rfl))
  ·exact t_three_p (z:=1) h0 h1 (by rw [show (((1:Int)):Rat)=1 from rfl];exact Rat.le_antisymm (lqr [_] (.gle (.a (.s (.a (.d Tx 2) (.d (.n 4) 3)) (.d (.a (.n 4) T0) 6)) (.d Tx 3)) (.a Tx (.d (.s (.n 3) T0) 6)) 1) rfl) (lqr [_] (.gle (.a Tx (.d (.s (.n 3) T0) 6)) (.a (.s (.a (.d Tx 2) (.d (.n 4) 3)) (.d (.a (.n 4) T0) 6)) (.d Tx 3)) 1) rfl)) (by exact Rat.le_antisymm (lqr [] (.gle (.s Tx Tz) Tx 1) rfl) (lqr [] (.gle Tx (.s Tx Tz) 1) rfl))
  ·exact t_one_m (z:=2) h0 h1 (by rw [show (((2:Int)):Rat)=2 from rfl];exact Rat.le_antisymm (lqr [_] (.gle (.a (.s (.a (.d Tx 2) (.d (.n 4) 3)) (.d (.g T0) 6)) (.d Tx 3)) (.a Ty (.d (.a Tx T0) 6)) 1) rfl) (lqr [_] (.gle (.a Ty (.d (.a Tx T0) 6)) (.a (.s (.a (.d Tx 2) (.d (.n 4) 3)) (.d (.g T0) 6)) (.d Tx 3)) 1) rfl)) (by exact Rat.le_antisymm (lqr [] (.gle (.s Tx Tz) Tx 1) rfl) (lqr [] (.gle Tx (.s Tx Tz) 1) rfl))
 | 2,1=>
  show TrapAt (1/2+4/3-h+0) (1-r)
  rcases H with ⟨rfl,rfl,rfl,rfl⟩|⟨rfl,rfl,rfl,rfl⟩|⟨rfl,rfl,rfl,rfl⟩|⟨rfl,rfl,rfl,rfl⟩|⟨rfl,rfl,rfl,rfl⟩|⟨rfl,rfl,rfl,rfl⟩
  ·exact t_five_p (z:=1) h0 h1 (by rw [show (((1:Int)):Rat)=1 from rfl];exact Rat.le_antisymm (lqr [_] (.gle (.a (.s (.a (.d Tx 2) (.d (.n 4) 3)) (.d T0 6)) Tz) (.a Tx (.d (.s (.n 5) T0) 6)) 1) rfl) (lqr [_] (.gle (.a Tx (.d (.s (.n 5) T0) 6)) (.a (.s (.a (.d Tx 2) (.d (.n 4) 3)) (.d T0 6)) Tz) 1) rfl)) (by exact Rat.le_antisymm (lqr [] (.gle (.s Tx Tx) Tz 1) rfl) (lqr [] (.gle Tz (.s Tx Tx) 1) rfl))
  ·exact t_three_m (z:=1) h0 h1 (by rw [show (((1:Int)):Rat)=1 from rfl];exact Rat.le_antisymm (lqr [_] (.gle (.a (.s (.a (.d Tx 2) (.d (.n 4) 3)) (.d (.s Ty T0) 6)) Tz) (.a Tx (.d (.a (.n 3) T0) 6)) 1) rfl) (lqr [_] (.gle (.a Tx (.d (.a (.n 3) T0) 6)) (.a (.s (.a (.d Tx 2) (.d (.n 4) 3)) (.d (.s Ty T0) 6)) Tz) 1) rfl)) (by exact Rat.le_antisymm (lqr [_] (.gle (.s Tx T0) (.s Tx T0) 1) rfl) (lqr [_] (.gle (.s Tx T0) (.s Tx T0) 1) rfl))
  ·exact t_three_p (z:=1) h0 h1 (by rw [show (((1:Int)):Rat)=1 from rfl];exact Rat.le_antisymm (lqr [_] (.gle (.a (.s (.a (.d Tx 2) (.d (.n 4) 3)) (.d (.a Ty T0) 6)) Tz) (.a Tx (.d (.s (.n 3) T0) 6)) 1) rfl) (lqr [_] (.gle (.a Tx (.d (.s (.n 3) T0) 6)) (.a (.s (.a (.d Tx 2) (.d (.n 4) 3)) (.d (.a Ty T0) 6)) Tz) 1) rfl)) (by exact Rat.le_antisymm (lqr [] (.gle (.s Tx Tz) Tx 1) rfl) (lqr [] (.gle Tx (.s Tx Tz) 1) rfl))
  ·exact t_one_m (z:=1) h0 h1 (by rw [show (((1:Int)):Rat)=1 from rfl];exact Rat.le_antisymm (lqr [_] (.gle (.a (.s (.a (.d Tx 2) (.d (.n 4) 3)) (.d (.s (.n 4) T0) 6)) Tz) (.a Tx (.d (.a Tx T0) 6)) 1) rfl) (lqr [_] (.gle (.a Tx (.d (.a Tx T0) 6)) (.a (.s (.a (.d Tx 2) (.d (.n 4) 3)) (.d (.s (.n 4) T0) 6)) Tz) 1) rfl)) (by exact Rat.le_antisymm (lqr [] (.gle (.s Tx Tz) Tx 1) rfl) (lqr [] (.gle Tx (.s Tx Tz) 1) rfl))
  ·exact t_one_p (z:=1) h0 h1 (by rw [show (((1:Int)):Rat)=1 from rfl];exact Rat.le_antisymm (lqr [_] (.gle (.a (.s (.a (.d Tx 2) (.d (.n 4) 3)) (.d (.a (.n 4) T0) 6)) Tz) (.a Tx (.d (.s Tx T0) 6)) 1) rfl) (lqr [_] (.gle (.a Tx (.d (.s Tx T0) 6)) (.a (.s (.a (.d Tx 2) (.d (.n 4) 3)) (.d (.a (.n 4) T0) 6)) Tz) 1) rfl)) (by exact Rat.le_antisymm (lqr [_] (.gle (.s Tx T0) (.s Tx T0) 1) rfl) (lqr [_] (.gle (.s Tx T0) (.s Tx T0) 1) rfl))
  ·exact t_five_m (z:=1) h0 h1 (by rw [show (((1:Int)):Rat)=1 from rfl];exact Rat.le_antisymm (lqr [_] (.gle (.a (.s (.a (.d Tx 2) (.d (.n 4) 3)) (.d (.g T0) 6)) Tz) (.a Tx (.d (.a (.n 5) T0) 6)) 1) rfl) (lqr [_] (.gle (.a Tx (.d (.a (.n 5) T0) 6)) (.a (.s (.a (.d Tx 2) (.d (.n 4) 3)) (.d (.g T0) 6)) Tz) 1) rfl)) (by exact Rat.le_antisymm (lqr [] (.gle (.s Tx Tx) Tz 1) rfl) (lqr [] (.gle Tz (.s Tx Tx) 1) rfl))
 | 2,2=>
  show TrapAt (1/2+4/3-h + -1/3) (1-b)
  rcases H with ⟨rfl,rfl,rfl,rfl⟩|⟨rfl,rfl,rfl,rfl⟩|⟨rfl,rfl,rfl,rfl⟩|⟨rfl,rfl,rfl,rfl⟩|⟨rfl,rfl,rfl,rfl⟩|⟨rfl,rfl,rfl,rfl⟩
  ·exact t_three_p (z:=1) h0 h1 (by rw [show (((1:Int)):Rat)=1 from rfl];exact Rat.le_antisymm (lqr [_] (.gle (.a (.s (.a (.d Tx 2) (.d (.n 4) 3)) (.d T0 6)) (.d (.g Tx) 3)) (.a Tx (.d (.s (.n 3) T0) 6)) 1) rfl) (lqr [_] (.gle (.a Tx (.d (.s (.n 3) T0) 6)) (.a (.s (.a (.d Tx 2) (.d (.n 4) 3)) (.d T0 6)) (.d (.g Tx) 3)) 1) rfl)) (by exact Rat.le_antisymm (lqr [] (.gle (.s Tx Tz) Tx 1) rfl) (lqr [] (.gle Tx (.s Tx Tz) 1) rfl))
  ·exact t_one_m (z:=1) h0 h1 (by rw [show (((1:Int)):Rat)=1 from rfl];exact Rat.le_antisymm (lqr [_] (.gle (.a (.s (.a (.d Tx 2) (.d (.n 4) 3)) (.d (.s Ty T0) 6)) (.d (.g Tx) 3)) (.a Tx (.d (.a Tx T0) 6)) 1) rfl) (lqr [_] (.gle (.a Tx (.d (.a Tx T0) 6)) (.a (.s (.a (.d Tx 2) (.d (.n 4) 3)) (.d (.s Ty T0) 6)) (.d (.g Tx) 3)) 1) rfl)) (by exact Rat.le_antisymm (lqr [] (.gle (.s Tx Tz) Tx 1) rfl) (lqr [] (.gle Tx (.s Tx Tz) 1) rfl))
  ·exact t_one_p (z:=1) h0 h1 (by rw [show (((1:Int)):Rat)=1 from rfl];exact Rat.le_antisymm (lqr [_] (.gle (.a (.s (.a (.d Tx 2) (.d (.n 4) 3)) (.d (.a Ty T0) 6)) (.d (.g Tx) 3)) (.a Tx (.d (.s Tx T0) 6)) 1) rfl) (lqr [_] (.gle (.a Tx (.d (.s Tx T0) 6)) (.a (.s (.a (.d Tx 2) (.d (.n 4) 3)) (.d (.a Ty T0) 6)) (.d (.g Tx) 3)) 1) rfl)) (by exact Rat.le_antisymm (lqr [_] (.gle (.s Tx T0) (.s Tx T0) 1) rfl) (lqr [_] (.gle (.s Tx T0) (.s Tx T0) 1) rfl))
  ·exact t_five_m (z:=0) h0 h1 (by rw [show (((0:Int)):Rat)=0 from rfl];exact Rat.le_antisymm (lqr [_] (.gle (.a (.s (.a (.d Tx 2) (.d (.n 4) 3)) (.d (.s (.n 4) T0) 6)) (.d (.g Tx) 3)) (.a Tz (.d (.a (.n 5) T0) 6)) 1) rfl) (lqr [_] (.gle (.a Tz (.d (.a (.n 5) T0) 6)) (.a (.s (.a (.d Tx 2) (.d (.n 4) 3)) (.d (.s (.n 4) T0) 6)) (.d (.g Tx) 3)) 1) rfl)) (by exact Rat.le_antisymm (lqr [] (.gle (.s Tx Tx) Tz 1) rfl) (lqr [] (.gle Tz (.s Tx Tx) 1) rfl))
  ·exact t_five_p (z:=0) h0 h1 (by rw [show (((0:Int)):Rat)=0 from rfl];exact Rat.le_antisymm (lqr [_] (.gle (.a (.s (.a (.d Tx 2) (.d (.n 4) 3)) (.d (.a (.n 4) T0) 6)) (.d (.g Tx) 3)) (.a Tz (.d (.s (.n 5) T0) 6)) 1) rfl) (lqr [_] (.gle (.a Tz (.d (.s (.n 5) T0) 6)) (.a (.s (.a (.d Tx 2) (.d (.n 4) 3)) (.d (.a (.n 4) T0) 6)) (.d (.g Tx) 3)) 1) rfl)) (by exact Rat.le_antisymm (lqr [] (.gle (.s Tx Tx) Tz 1) rfl) (lqr [] (.gle Tz (.s Tx Tx) 1) rfl))
  ·exact t_three_m (z:=1) h0 h1 (by rw [show (((1:Int)):Rat)=1 from rfl];exact Rat.le_antisymm (lqr [_] (.gle (.a (.s (.a (.d Tx 2) (.d (.n 4) 3)) (.d (.g T0) 6)) (.d (.g Tx) 3)) (.a Tx (.d (.a (.n 3) T0) 6)) 1) rfl) (lqr [_] (.gle (.a Tx (.d (.a (.n 3) T0) 6)) (.a (.s (.a (.d Tx 2) (.d (.n 4) 3)) (.d (.g T0) 6)) (.d (.g Tx) 3)) 1) rfl)) (by exact Rat.le_antisymm (lqr [_] (.gle (.s Tx T0) (.s Tx T0) 1) rfl) (lqr [_] (.gle (.s Tx T0) (.s Tx T0) 1) rfl))
end Mine
end
section
open PySem PySem.Float64 PySem.Flt
namespace Mine
private theorem ct_Fl12_1 {n0:Nat} (h0:0<(-(n0:Int))):False:=lqz [(n0:Int)] (.lt Tz (.g T0) 1 (.le Tz T0 1 (.o))) rfl h0 (Int.natCast_nonneg n0)
private theorem ex_lt {x y:UInt64} {a b:Int} (hx:Ex x a) (hy:Ex y b):(cmp x y == some Ordering.lt)=decide (a<b):=by
 have h:lt x y=_:=lt_fin hx.1 hy.1
 have hP:(0:Int)<2 ^ 1059:=by decide +kernel
 show lt x y=_
 rw [h,hx.2,hy.2]
 by_cases q:a<b
 ·rw [decide_eq_true q,decide_eq_true (Int.mul_lt_mul_of_pos_right q hP)]
 ·rw [decide_eq_false q,decide_eq_false]
  intro h2
  exact q (Int.lt_of_mul_lt_mul_right h2 (Int.le_of_lt hP))
private theorem ex_inj {x y:UInt64} {a b:Int} (hx:Ex x a) (hy:Ex y b):val x=val y↔a=b:=by
 have hP:(2:Int) ^ 1059≠0:=by decide +kernel
 rw [hx.2,hy.2]
 exact ⟨fun h=>Int.eq_of_mul_eq_mul_right hP h,fun h=>by rw [h]⟩
private theorem ex_eq {x y:UInt64} {a b:Int} (hx:Ex x a) (hy:Ex y b):(cmp x y == some Ordering.eq)=decide (a=b):=by
 rw [rv_eq hx.1 hy.1]
 exact decide_eq_decide.mpr (ex_inj hx hy)
private theorem ex_nz {x:UInt64} {a:Int} (hx:Ex x a) (h:a≠0):isZero x=true→False:=by
 rw [isZero_fin hx.1,decide_eq_true_iff,hx.2]
 intro h2
 rcases Int.mul_eq_zero.mp h2 with h3|h3
 ·exact h h3
 ·revert h3;decide +kernel
private theorem best_max {x y z:UInt64} {a b c:Int} (hx:Ex x a) (hy:Ex y b) (hz:Ex z c):Ex (bestBits gtB x [y,z]) (max a (max b c)):=by
 unfold bestBits bestBits bestBits
 have h1:gtB y x=decide (a<b):=ex_lt hx hy
 rw [h1]
 by_cases q:a<b
 ·rw [if_pos (decide_eq_true q)]
  have h2:gtB z y=decide (b<c):=ex_lt hy hz
  rw [h2]
  by_cases r:b<c
  ·rw [if_pos (decide_eq_true r)]
   have e:max a (max b c)=c:=by lia -abstractProof
   rw [e];exact hz
  ·rw [if_neg (by simpa using r)]
   have e:max a (max b c)=b:=by lia -abstractProof
   rw [e];exact hy
 ·rw [if_neg (show ¬ decide (a<b)=true by simpa using q)]
  have h2:gtB z x=decide (a<c):=ex_lt hx hz
  rw [h2]
  by_cases r:a<c
  ·rw [if_pos (decide_eq_true r)]
   have e:max a (max b c)=c:=by lia -abstractProof
   rw [e];exact hz
  ·rw [if_neg (by simpa using r)]
   have e:max a (max b c)=a:=by lia -abstractProof
   rw [e];exact hx
private theorem best_min {x y z:UInt64} {a b c:Int} (hx:Ex x a) (hy:Ex y b) (hz:Ex z c):Ex (bestBits ltB x [y,z]) (min a (min b c)):=by
 unfold bestBits bestBits bestBits
 have h1:ltB y x=decide (b<a):=ex_lt hy hx
 rw [h1]
 by_cases q:b<a
 ·rw [if_pos (decide_eq_true q)]
  have h2:ltB z y=decide (c<b):=ex_lt hz hy
  rw [h2]
  by_cases r:c<b
  ·rw [if_pos (decide_eq_true r)]
   have e:min a (min b c)=c:=by lia -abstractProof
   rw [e];exact hz
  ·rw [if_neg (by simpa using r)]
   have e:min a (min b c)=b:=by lia -abstractProof
   rw [e];exact hy
 ·rw [if_neg (show ¬ decide (b<a)=true by simpa using q)]
  have h2:ltB z x=decide (c<a):=ex_lt hz hx
  rw [h2]
  by_cases r:c<a
  ·rw [if_pos (decide_eq_true r)]
   have e:min a (min b c)=c:=by lia -abstractProof
   rw [e];exact hz
  ·rw [if_neg (by simpa using r)]
   have e:min a (min b c)=a:=by lia -abstractProof
   rw [e];exact hx
private theorem ex_two:Ex 4611686018427387904 65536:=⟨fin_two,by decide +kernel⟩
private theorem ex_half:Ex 4602678819172646912 16384:=⟨fin_half,by decide +kernel⟩
private theorem ex_one:Ex 4607182418800017408 32768:=⟨fin_one,by decide +kernel⟩
private theorem ex_nought:Ex 0 0:=⟨fin_nought,by decide +kernel⟩
private theorem sign_pos {x:UInt64} {a:Bool} {m:Nat} {e:Int} (hx:decode x = .fin a m e) (h:0<val x):a=false:=by
 rw [val_eq hx] at h
 cases a with
 | false=>rfl
 | true=>unfold sgn at h;simp only [if_true] at h;exact (ct_Fl12_1 h).elim
private theorem dec_nz {x:UInt64} {a:Bool} {m:Nat} {e:Int} (hx:decode x = .fin a m e) (h:val x≠0):m≠0:=by
 rintro rfl
 apply h
 rw [val_eq hx];unfold sgn;cases a<;>simp
private theorem div_frac {x y:UInt64} {n d:Nat} (hx:FinF x) (hy:FinF y) (px:0<val x) (py:0<val y) (hd:0<d) (h:n*(val y).natAbs=(val x).natAbs*d):div x y=ofFrac false n d:=by
 obtain ⟨a,m,e,hx⟩:=hx
 obtain ⟨b,k,f,hy⟩:=hy
 have r1:=div_right hx hy (dec_nz hy (by lia -abstractProof))
 rw [sign_pos hx px,sign_pos hy py] at r1
 have hD:0<(val y).natAbs:=by lia -abstractProof
 refine right_unique hD r1 (ofFrac_right hd ?_ hD)
 rw [Nat.mul_right_comm,h,Nat.mul_right_comm]
private theorem div_near {x y:UInt64} {ρ:Rat} (hx:FinF x) (hy:FinF y) (py:0<Rv y) (h:Rv x=ρ*Rv y) (h1 : -1000≤ρ) (h2:ρ≤1000):FinF (div x y)∧ρ-dR≤Rv (div x y)∧Rv (div x y)≤ρ+dR:=by
 have a1:0≤(1000-ρ)*Rv y:=Rat.mul_nonneg (by exact lqr [_] (.le T0 (.n 1000) 1 (.gle Tz (.s (.n 1000) T0) 1)) rfl h2) (by exact lqr [_] (.lt Tz T0 1 (.gle Tz T0 1)) rfl py)
 have a2:0≤(1000+ρ)*Rv y:=Rat.mul_nonneg (by exact lqr [_] (.le (.g (.n 1000)) T0 1 (.gle Tz (.a (.n 1000) T0) 1)) rfl h1) (by exact lqr [_] (.lt Tz T0 1 (.gle Tz T0 1)) rfl py)
 refine and3 (rv_div hx hy py (by rw [h];grind -abstractProof) (by rw [h];grind -abstractProof)) fun hf b1 b2=>?_
 rw [h] at b1 b2
 refine ⟨hf,?_,?_⟩
 ·exact Rat.le_of_mul_le_mul_left (c:=Rv y) (by grind -abstractProof) py
 ·exact Rat.le_of_mul_le_mul_left (c:=Rv y) (by grind -abstractProof) py
private theorem div_nonneg {x y:UInt64} (hx:FinF x) (hy:FinF y) (px:0≤val x) (py:0<val y) (hb:(val x).natAbs*2 ^ 1074≤(val y).natAbs*2 ^ 1094):0≤val (div x y):=by
 obtain ⟨a,m,e,hx⟩:=hx
 obtain ⟨b,k,f,hy⟩:=hy
 obtain ⟨hf,v,hv,hd,he⟩:=fl_right (div_right hx hy (dec_nz hy (by lia -abstractProof))) (Int.natAbs_pos.mpr (by lia -abstractProof)) hb
 rw [hv]
 by_cases h:0<val x
 ·rw [sign_pos hx h,sign_pos hy py]
  unfold sgn
  simp
 ·have h0:val x=0:=by exact Int.le_antisymm (lqz [_] (.nlt Tz T0 1 (.gle T0 Tz 1)) rfl h) (lqz [_] (.le Tz T0 1 (.gle Tz T0 1)) rfl px)
  have h3:=he ⟨0,0,by decide,by decide,by rw [h0];simp⟩
  rw [h0] at h3
  have h4:v=0:=by
   have h5:(val y).natAbs*v=0:=by rw [← h3];simp
   rcases Nat.mul_eq_zero.mp h5 with h6|h6
   ·lia -abstractProof
   ·exact h6
  rw [h4]
  unfold sgn
  split<;>simp
private theorem ex_div2 {x:UInt64} {a:Int} (hx:Ex x (2*a)) (h0:0<a) (h9:a≤100000):Ex (div x 4611686018427387904) a:=by
 have hP:(0:Int)<2 ^ 1059:=by decide +kernel
 have px:0<val x:=by rw [hx.2];exact Int.mul_pos (by exact lqz [_] (.lt Tz T0 2 (.glt Tz (.m Ty T0) 1)) rfl h0) hP
 have e2:val 4611686018427387904=65536*2 ^ 1059:=ex_two.2
 have e:div x 4611686018427387904=ofFrac false a.natAbs 32768:=by
  refine div_frac hx.1 fin_two px (by decide +kernel) (by decide) ?_
  rw [hx.2,e2,Int.natAbs_mul,Int.natAbs_mul,Int.natAbs_mul]
  have e3:((2:Int) ^ 1059).natAbs=2 ^ 1059:=by decide +kernel
  rw [e3]
  have e4:(65536:Int).natAbs=65536:=rfl
  have e5:(2:Int).natAbs=2:=rfl
  rw [e4,e5]
  generalize (2:Nat) ^ 1059=G
  generalize a.natAbs=A
  rw [Nat.mul_right_comm (2*A) G,←Nat.mul_assoc]
  congr 1
  exact Nat.le_antisymm (lqn [_] (.gle (.m T0 (.n 65536)) (.m (.m Ty T0) (.n 32768)) 1) rfl) (lqn [_] (.gle (.m (.m Ty T0) (.n 32768)) (.m T0 (.n 65536)) 1) rfl)
 rw [e]
 exact ex_frac (by decide) (by lia -abstractProof) (by unfold sgn;simp;lia -abstractProof) rfl
private theorem seen_ex {v:Int} (h1 : -10000≤v) (h2:v≤10000):Ex (add 4602678819172646912 (fdivI v 16384)) (2*(8192+v)):=by
 have e:Ex (fdivI v 16384) (2*v):=by
  unfold fdivI
  refine ex_frac (by decide) (by lia -abstractProof) ?_ (by rw [show (16384:Int).natAbs=16384 from rfl];lia -abstractProof)
  have e3:decide ((16384:Int)<0)=false:=by decide
  rw [e3]
  unfold sgn
  by_cases h:v<0
  ·rw [decide_eq_true h];simp;lia -abstractProof
  ·rw [decide_eq_false h];simp;lia -abstractProof
 have:=ex_add ex_half e (by lia -abstractProof)
 rw [show 2*(8192+v)=16384+2*v by exact Int.le_antisymm (lqz [_] (.gle (.m Ty (.a (.n 8192) T0)) (.a (.n 16384) (.m Ty T0)) 1) rfl) (lqz [_] (.gle (.a (.n 16384) (.m Ty T0)) (.m Ty (.a (.n 8192) T0)) 1) rfl)]
 exact this
private theorem both_ex {v:Int} (h1 : -20000≤v) (h2:v≤20000):Ex (add 4602678819172646912 (fdivI v 32768)) (16384+v):=by
 have e:Ex (fdivI v 32768) v:=by
  unfold fdivI
  refine ex_frac (by decide) (by lia -abstractProof) ?_ (by rw [show (32768:Int).natAbs=32768 from rfl])
  have e3:decide ((32768:Int)<0)=false:=by decide
  rw [e3]
  unfold sgn
  by_cases h:v<0
  ·rw [decide_eq_true h];simp;lia -abstractProof
  ·rw [decide_eq_false h];simp;lia -abstractProof
 exact ex_add ex_half e (by lia -abstractProof)
end Mine
end
section
open PySem PySem.Float64 PySem.Flt
namespace Mine
private theorem ct_Fl14_1 {x0:Nat}:x0≤(6*x0):=lqn [x0] (.gle T0 (.m (.n 6) T0) 1) rfl
private theorem ct_Fl14_2 {x0:Int} {x1:Int} {x2:Int} (h0:x0=x1) (h1:x2≤x0) (h2:x1≤x2):x2=x1:=Int.le_antisymm (lqz [x0,x1,x2] (.eq T0 T1 1 (.le T2 T0 1 (.gle T2 T1 1))) rfl h0 h1) (lqz [x1,x2] (.le T0 T1 1 (.gle T0 T1 1)) rfl h2)
private theorem ct_Fl14_3 {x0:Int} {x1:Int} {x2:Int} (h0:x0=x1) (h1:¬ x0≤x2) (h2:x1≤x2):x2=x1:=Int.le_antisymm (lqz [x0,x1,x2] (.eq T0 T1 1 (.nle T0 T2 1 (.gle T2 T1 1))) rfl h0 h1) (lqz [x1,x2] (.le T0 T1 1 (.gle T0 T1 1)) rfl h2)
noncomputable def denI (z:Int):Int:=if z≤16384 then z else 32768-z
private theorem rv_of_ex {x:UInt64} {a:Int} (hx:Ex x (2*a)):Rv x=(a:Rat)/16384:=by
 rw [rv_ex hx,Rat.intCast_mul]
 have:((2:Int):Rat)=2:=rfl
 rw [this];exact Rat.le_antisymm (lqr [_] (.gle (.d (.m Ty T0) 32768) (.d T0 16384) 1) rfl) (lqr [_] (.gle (.d T0 16384) (.d (.m Ty T0) 32768) 1) rfl)
private theorem hue_mod {h:UInt64} {θ:Rat} (fh:FinF h) (n1:Rv h-6*θ≤5*dR) (n2:6*θ-Rv h≤5*dR) (t1 : -2≤θ) (t2:θ≤2) (hs:0≤val h∨(-2≤Rv h∧Rv h ≤ -1/20000)) :
  FinF (divmod (div h 4618441417868443648) 4607182418800017408).2∧0≤Rv (divmod (div h 4618441417868443648) 4607182418800017408).2∧Rv (divmod (div h 4618441417868443648) 4607182418800017408).2<1 ∧
  ∃ z:Int,Rv (divmod (div h 4618441417868443648) 4607182418800017408).2-(θ-z)≤4*dR∧(θ-z)-Rv (divmod (div h 4618441417868443648) 4607182418800017408).2≤4*dR:=by
 refine and3 (div_near (ρ:=Rv h/6) fh fin_six (by rw [rv_six];exact lqr [] (.glt Tz (.n 6) 1) rfl) (by rw [rv_six];exact Rat.le_antisymm (lqr [_] (.gle T0 (.m (.d T0 6) (.n 6)) 1) rfl) (lqr [_] (.gle (.m (.d T0 6) (.n 6)) T0 1) rfl)) (by exact lqr [_,_] (.le (.s (.m (.n 6) T0) T1) (.m (.n 5) Td) 1 (.le (.g Ty) T0 51539607552 (.gle (.g (.n 1000)) (.d T1 6) 8589934592))) rfl n2 t1) (by exact lqr [_,_] (.le (.s T0 (.m (.n 6) T1)) (.m (.n 5) Td) 1 (.le T1 Ty 51539607552 (.gle (.d T0 6) (.n 1000) 8589934592))) rfl n1 t2)) fun fd d1 d2=>?_
 have hv:0≤val h→0≤Rv (div h 4618441417868443648):=by
  intro h0
  have hb:(val h).natAbs≤2 ^ 1094:=abs_bound (by show -1048576≤Rv h;exact lqr [_,_] (.le (.s (.m (.n 6) T0) T1) (.m (.n 5) Td) 1 (.le (.g Ty) T0 51539607552 (.gle (.g (.n 1048576)) T1 8589934592))) rfl n2 t1) (by show Rv h≤1048576;exact lqr [_,_] (.le (.s T0 (.m (.n 6) T1)) (.m (.n 5) Td) 1 (.le T1 Ty 51539607552 (.gle T0 (.n 1048576) 8589934592))) rfl n1 t2)
  have h1:=div_nonneg fh fin_six h0 (by decide +kernel) (by
   have e6:(val 4618441417868443648).natAbs=6*2 ^ 1074:=by decide +kernel
   rw [e6]
   calc (val h).natAbs*2 ^ 1074≤2 ^ 1094*2 ^ 1074:=Nat.mul_le_mul_right _ hb
    _≤6*(2 ^ 1094*2 ^ 1074):=by exact ct_Fl14_1
    _=6*2 ^ 1074*2 ^ 1094:=by rw [Nat.mul_assoc,Nat.mul_comm (2 ^ 1094)])
  have:=cast_le h1
  have e0:((0:Int):Rat)*uR=0:=by simp
  rw [e0] at this
  exact this
 generalize div h 4618441417868443648=d at *
 refine goalP fun G9 hG9=>?_
 obtain ⟨fm,z,m1,m2,m3,m4,m5⟩:=rv_mod fd (by exact lqr [_,_,_] (.le (.s (.m (.n 6) T0) T1) (.m (.n 5) Td) 1 (.le (.g Ty) T0 51539607552 (.le (.s (.d T1 6) Td) T2 1 (.gle (.g (.n 1048576)) T2 51539607552)))) rfl n2 t1 d1) (by exact lqr [_,_,_] (.le (.s T0 (.m (.n 6) T1)) (.m (.n 5) Td) 1 (.le T1 Ty 51539607552 (.le T2 (.a (.d T0 6) Td) 1 (.gle T2 (.n 1048576) 51539607552)))) rfl n1 t2 d2)
 refine hG9 ?_
 clear hG9
 generalize (divmod d 4607182418800017408).2=u at *
 rcases hs with hs|⟨s1,s2⟩
 ·have h0:=hv hs
  have h5:=m5 h0
  refine ⟨fm,by exact lqr [_,_,_] (.le Tz (.s T0 T1) 1 (.eq T2 (.s T0 T1) (-1) (.gle Tz T2 1))) rfl m1 h5,by exact lqr [_,_,_] (.lt (.s T0 T1) Tx 1 (.eq T2 (.s T0 T1) 1 (.glt T2 Tx 1))) rfl m2 h5,z,by exact lqr [_,_,_,_,_] (.le (.s T0 (.m (.n 6) T1)) (.m (.n 5) Td) 1 (.le T2 (.a (.d T0 6) Td) 1 (.eq T3 (.s T2 T4) 51539607552 (.gle (.s T3 (.s T1 T4)) (.m (.n 4) Td) 6)))) rfl n1 d2 h5,by exact lqr [_,_,_,_,_] (.le (.s (.m (.n 6) T0) T1) (.m (.n 5) Td) 1 (.le (.s (.d T1 6) Td) T2 1 (.eq T3 (.s T2 T4) (-51539607552) (.gle (.s (.s T0 T4) T3) (.m (.n 4) Td) 6)))) rfl n2 d1 h5⟩
 ·have hz:z = -1:=by
   have a1:((z:Int):Rat)<((0:Int):Rat):=by show (z:Rat)<0;exact lqr [_,_,_] (.le T0 (.a (.d T1 6) Td) 625 (.le Tz (.s T0 T2) 32212254720000 (.le T1 (.d (.g Tx) 20000) 268435456 (.glt T2 Tz 32212254720000)))) rfl d2 m1 s2
   have a2:((-2:Int):Rat)<((z:Int):Rat):=by show (-2:Rat)<(z:Rat);exact lqr [_,_,_] (.le (.s (.d T0 6) Td) T1 1 (.lt (.s T1 T2) Tx 51539607552 (.le (.g Ty) T0 8589934592 (.glt (.g Ty) T2 51539607552)))) rfl d1 m2 s1
   have b1:=Rat.intCast_lt_intCast.mp a1
   have b2:=Rat.intCast_lt_intCast.mp a2
   exact Int.le_antisymm (lqz [_] (.lt T0 Tz 1 (.gle T0 (.g Tx) 1)) rfl b1) (lqz [_] (.lt (.g Ty) T0 1 (.gle (.g Tx) T0 1)) rfl b2)
  subst hz
  have e1:((-1:Int):Rat) = -1:=rfl
  rw [e1] at m1 m2 m3 m4 m5
  refine ⟨fm,by exact lqr [_,_,_] (.le (.s (.d T0 6) Td) T1 1 (.le (.g Ty) T0 8589934592 (.le (.s (.s T1 (.g Tx)) Td) T2 6 (.gle Tz T2 51539607552)))) rfl d1 s1 m3,by exact lqr [_,_,_] (.le T0 (.a (.d T1 6) Td) 625 (.le T1 (.d (.g Tx) 20000) 268435456 (.le T2 (.a (.s T0 (.g Tx)) Td) 3750 (.glt T2 Tx 32212254720000)))) rfl d2 s2 m4,-1,?_,?_⟩<;>rw [e1]<;>(first|exact lqr [_,_,_,_] (.le (.s T0 (.m (.n 6) T1)) (.m (.n 5) Td) 1 (.le T2 (.a (.d T0 6) Td) 1 (.le T3 (.a (.s T2 (.g Tx)) Td) 6 (.gle (.s T3 (.s T1 (.g Tx))) (.m (.n 4) Td) 6)))) rfl n1 d2 m4|exact lqr [_,_,_,_] (.le (.s (.m (.n 6) T0) T1) (.m (.n 5) Td) 1 (.le (.s (.d T1 6) Td) T2 1 (.le (.s (.s T2 (.g Tx)) Td) T3 6 (.gle (.s (.s T0 (.g Tx)) T3) (.m (.n 4) Td) 6)))) rfl n2 d1 m3)
private theorem norm_frac {n d:Int} (hd:0<d) (hd9:d≤15000) (h0:0≤n) (h1:n≤d):∃ r:Rat,r*(d:Rat)=(n:Rat)∧0≤r∧r≤1∧(n=d→r=1)∧(n=0→r=0)∧(n≠0→1/15000≤r):=by
 have hdR:(0:Rat)<(d:Rat):=by have:=Rat.intCast_lt_intCast.mpr hd;exact this
 have hd9R:(d:Rat)≤15000:=by have:=Rat.intCast_le_intCast.mpr hd9;exact this
 have h0R:(0:Rat)≤(n:Rat):=by have:=Rat.intCast_le_intCast.mpr h0;exact this
 have h1R:(n:Rat)≤(d:Rat):=Rat.intCast_le_intCast.mpr h1
 have e:(n:Rat)/(d:Rat)*(d:Rat)=(n:Rat):=Rat.div_mul_cancel (by grind -abstractProof)
 refine ⟨(n:Rat)/(d:Rat),e,?_,?_,?_,?_,?_⟩
 ·exact Rat.le_of_mul_le_mul_right (c:=(d:Rat)) (by rw [e];exact lqr [_,_] (.le Tz T0 1 (.gle (.m Tz T1) T0 1)) rfl h0R) hdR
 ·exact Rat.le_of_mul_le_mul_right (c:=(d:Rat)) (by rw [e];exact lqr [_,_] (.le T0 T1 1 (.gle T0 (.m Tx T1) 1)) rfl h1R) hdR
 ·rintro rfl
  grind -abstractProof
 ·rintro rfl
  rw [Rat.div_def]
  show (0:Rat)*_=0
  exact Rat.le_antisymm (lqr [_] (.gle (.m Tz T0) Tz 1) rfl) (lqr [_] (.gle Tz (.m Tz T0) 1) rfl)
 ·intro h
  have h2:1≤n:=by lia -abstractProof
  have h2R:(1:Rat)≤(n:Rat):=by have:=Rat.intCast_le_intCast.mpr h2;exact this
  exact Rat.le_of_mul_le_mul_right (c:=(d:Rat)) (by rw [e];exact lqr [_,_] (.le T0 (.n 15000) 1 (.le Tx T1 15000 (.gle (.m (.d Tx 15000) T0) T1 1))) rfl hd9R h2R) hdR
private theorem rgb_same {x y z:UInt64} {a:Int} (hx:Ex x (2*a)) (hy:Ex y (2*a)) (hz:Ex z (2*a)) (h1:500≤a) (h2:a≤15500) :
  RgbOk x y z∧∃ l,rgbF x y z=(0,l,0)∧Ex l (2*a):=by
 have hM:=best_max hx hy hz
 have hm:=best_min hx hy hz
 rw [show max (2*a) (max (2*a) (2*a))=2*a by lia -abstractProof] at hM
 rw [show min (2*a) (min (2*a) (2*a))=2*a by lia -abstractProof] at hm
 have hS:=ex_add hM hm (by lia -abstractProof)
 have he:(cmp (bestBits ltB x [y,z]) (bestBits gtB x [y,z]) == some Ordering.eq)=true:=by rw [ex_eq hm hM];simp
 refine ⟨⟨ex_nz hS (by lia -abstractProof),ex_nz (ex_sub (ex_sub ex_two hM (by lia -abstractProof)) hm (by lia -abstractProof)) (by lia -abstractProof),fun h=>?_⟩,div (add (bestBits gtB x [y,z]) (bestBits ltB x [y,z])) 4611686018427387904,?_,?_⟩
 ·rw [he] at h;cases h
 ·unfold rgbF
  dsimp only
  rw [if_pos he]
 ·refine ex_div2 (a:=2*a) ?_ (by exact lqz [_] (.le (.n 500) T0 2 (.glt Tz (.m Ty T0) 1)) rfl h1) (by exact lqz [_] (.le T0 (.n 15500) 2 (.gle (.m Ty T0) (.n 100000) 1)) rfl h2)
  rw [show 2*(2*a)=2*a+2*a by exact Int.le_antisymm (lqz [_] (.gle (.m Ty (.m Ty T0)) (.a (.m Ty T0) (.m Ty T0)) 1) rfl) (lqz [_] (.gle (.a (.m Ty T0) (.m Ty T0)) (.m Ty (.m Ty T0)) 1) rfl)]
  exact hS
private theorem ratio {x y:UInt64} {a d:Int} {r:Rat} (hx:Ex x (2*a)) (hy:Ex y (2*d)) (hr:r*(d:Rat)=(a:Rat)) (hd:0<d) (h0:0≤r) (h1:r≤1):FinF (div x y)∧r-dR≤Rv (div x y)∧Rv (div x y)≤r+dR:=by
 have hdR:(0:Rat)<(d:Rat):=by have:=Rat.intCast_lt_intCast.mpr hd;exact this
 have e1:=rv_of_ex hx
 have e2:=rv_of_ex hy
 exact div_near hx.1 hy.1 (by rw [e2];exact lqr [_] (.lt Tz T0 1 (.glt Tz (.d T0 16384) 1)) rfl hdR) (by rw [e1,e2];grind -abstractProof) (by exact lqr [_] (.le Tz T0 1 (.gle (.g (.n 1000)) T0 1)) rfl h0) (by exact lqr [_] (.le T0 Tx 1 (.gle T0 (.n 1000) 1)) rfl h1)
private theorem rat_sub_int (a b:Int):((a-b:Int):Rat)=(a:Rat)-(b:Rat):=Rat.intCast_sub a b
noncomputable def hueF (x y z:UInt64):UInt64:=
 let mx:=bestBits gtB x [y,z]
 let mn:=bestBits ltB x [y,z]
 let rc:=Float64.div (Float64.sub mx x) (Float64.sub mx mn)
 let gc:=Float64.div (Float64.sub mx y) (Float64.sub mx mn)
 let bc:=Float64.div (Float64.sub mx z) (Float64.sub mx mn)
 if (Float64.cmp x mx == some Ordering.eq)=true then Float64.sub bc gc
  else if (Float64.cmp y mx == some Ordering.eq)=true then Float64.sub (Float64.add 4611686018427387904 rc) bc
  else Float64.sub (Float64.add 4616189618054758400 gc) rc
private theorem nonneg_of_rv {x:UInt64} (h:0≤Rv x):0≤val x:=by
 apply le_cast
 have e0:((0:Int):Rat)*uR=0:=by simp
 rw [e0];exact h
private theorem max_of {a b c M:Int} (e:M=max a (max b c)):(a≤M∧b≤M∧c≤M)∧(a=M∨b=M∨c=M):=by
 subst e
 refine ⟨⟨Int.le_max_left _ _,Int.le_trans (Int.le_max_left _ _) (Int.le_max_right _ _),Int.le_trans (Int.le_max_right _ _) (Int.le_max_right _ _)⟩,?_⟩
 rcases Int.le_total (max b c) a with h|h
 ·exact .inl (Int.max_eq_left h).symm
 ·rw [Int.max_eq_right h]
  rcases Int.le_total c b with h'|h'
  ·exact .inr (.inl (Int.max_eq_left h').symm)
  ·exact .inr (.inr (Int.max_eq_right h').symm)
private theorem min_of {a b c M:Int} (e:M=min a (min b c)):(M≤a∧M≤b∧M≤c)∧(a=M∨b=M∨c=M):=by
 subst e
 refine ⟨⟨Int.min_le_left _ _,Int.le_trans (Int.min_le_right _ _) (Int.min_le_left _ _),Int.le_trans (Int.min_le_right _ _) (Int.min_le_right _ _)⟩,?_⟩
 rcases Int.le_total a (min b c) with h|h
 ·exact .inl (Int.min_eq_left h).symm
 ·rw [Int.min_eq_right h]
  rcases Int.le_total b c with h'|h'
  ·exact .inr (.inl (Int.min_eq_left h').symm)
  ·exact .inr (.inr (Int.min_eq_right h').symm)
private theorem abs30 {z:Int} (h1 : -100000≤z) (h2:z≤100000):z.natAbs≤2 ^ 30:=by lia -abstractProof
private theorem ord3 {a b c m d:Int} (k1:a≤m+d∧b≤m+d∧c≤m+d) (k2:m≤a∧m≤b∧m≤c) (k3:a=m+d∨b=m+d∨c=m+d) (k4:a=m∨b=m∨c=m) (hd:0<d) :
  (b≠c→a=m+d→b=m∧c≠m∧b<c∨c=m∧b≠m∧c<b)∧(b=c→a=m+d→b=m∧c=m∧b<m+d)∧(a≠m+d→b=m+d→(c≤a→c=m)∧(¬ c≤a→a=m))∧(a≠m+d→b≠m+d→c=m+d∧(a≤b→a=m)∧(¬ a≤b→b=m)):=by
 refine and3 k1 fun p1 p2 p3=>?_
 refine and3 k2 fun r1 r2 r3=>?_
 refine ⟨fun h1 h2=>?_,fun h1 h2=>?_,fun h1 h2=>?_,fun h1 h2=>?_⟩
 ·clear k3
  rcases k4 with h|h|h
  ·exact (lqz [_,_,_] (.lt Tz T0 1 (.eq T1 (.a T2 T0) (-1) (.eq T1 T2 1 (.o)))) rfl hd h2 h).elim
  ·exact .inl ⟨h,by lia -abstractProof,by lia -abstractProof⟩
  ·exact .inr ⟨h,by lia -abstractProof,by lia -abstractProof⟩
 ·clear k3
  rcases k4 with h|h|h<;>(first|exact ⟨Int.le_antisymm (lqz [_,_,_,_] (.lt Tz T0 1 (.eq T1 (.a T2 T0) (-1) (.eq T1 T2 1 (.gle T3 T2 0)))) rfl hd h2 h) (lqz [_,_] (.le T0 T1 1 (.gle T0 T1 1)) rfl r2),⟨Int.le_antisymm (lqz [_,_,_,_] (.lt Tz T0 1 (.eq T1 (.a T2 T0) (-1) (.eq T1 T2 1 (.gle T3 T2 0)))) rfl hd h2 h) (lqz [_,_] (.le T0 T1 1 (.gle T0 T1 1)) rfl r3),lqz [_,_,_,_] (.lt Tz T0 1 (.eq T1 (.a T2 T0) (-1) (.eq T1 T2 1 (.glt T3 (.a T2 T0) 0)))) rfl hd h2 h⟩⟩|exact ⟨Int.le_antisymm (lqz [_,_] (.eq T0 T1 1 (.gle T0 T1 1)) rfl h) (lqz [_,_] (.le T0 T1 1 (.gle T0 T1 1)) rfl r2),⟨Int.le_antisymm (lqz [_,_,_] (.eq T0 T1 (-1) (.eq T0 T2 1 (.gle T1 T2 1))) rfl h1 h) (lqz [_,_] (.le T0 T1 1 (.gle T0 T1 1)) rfl r3),lqz [_,_,_] (.lt Tz T0 1 (.eq T1 T2 1 (.glt T1 (.a T2 T0) 1))) rfl hd h⟩⟩|exact ⟨Int.le_antisymm (lqz [_,_,_] (.eq T0 T1 1 (.eq T1 T2 1 (.gle T0 T2 1))) rfl h1 h) (lqz [_,_] (.le T0 T1 1 (.gle T0 T1 1)) rfl r2),⟨Int.le_antisymm (lqz [_,_] (.eq T0 T1 1 (.gle T0 T1 1)) rfl h) (lqz [_,_] (.le T0 T1 1 (.gle T0 T1 1)) rfl r3),lqz [_,_,_,_] (.lt Tz T0 1 (.eq T1 T2 1 (.eq T2 T3 1 (.glt T1 (.a T3 T0) 1)))) rfl hd h1 h⟩⟩)
 ·clear k3
  rcases k4 with h|h|h
  ·exact ⟨fun _=>by exact ct_Fl14_2 h (by assumption) r3,fun _=>h⟩
  ·exact ⟨(lqz [_,_,_] (.lt Tz T0 1 (.eq T1 (.a T2 T0) (-1) (.eq T1 T2 1 (.o)))) rfl hd h2 h).elim,(lqz [_,_,_] (.lt Tz T0 1 (.eq T1 (.a T2 T0) (-1) (.eq T1 T2 1 (.o)))) rfl hd h2 h).elim⟩
  ·exact ⟨fun _=>h,fun _=>by exact ct_Fl14_3 h (by assumption) r1⟩
 ·rcases k3 with h|h|h
  ·exact absurd h h1
  ·exact absurd h h2
  ·refine ⟨h,?_⟩
   rcases k4 with h'|h'|h'
   ·exact ⟨fun _=>h',fun _=>by exact ct_Fl14_3 h' (by assumption) r2⟩
   ·exact ⟨fun _=>by exact ct_Fl14_2 h' (by assumption) r1,fun _=>h'⟩
   ·exact ⟨(lqz [_,_,_] (.lt Tz T0 1 (.eq T1 (.a T2 T0) (-1) (.eq T1 T2 1 (.o)))) rfl hd h h').elim,(lqz [_,_,_] (.lt Tz T0 1 (.eq T1 (.a T2 T0) (-1) (.eq T1 T2 1 (.o)))) rfl hd h h').elim⟩
private theorem hue_near {x y z:UInt64} {a b c m d:Int} {ra rb rc:Rat} (hx:Ex x (2*a)) (hy:Ex y (2*b)) (hz:Ex z (2*c))
  (h1:500≤a) (h2:a≤15500) (h3:500≤b) (h4:b≤15500) (h5:500≤c) (h6:c≤15500)
  (hM:Ex (bestBits gtB x [y,z]) (2*(m+d))) (hm:Ex (bestBits ltB x [y,z]) (2*m)) (eM:m+d=max a (max b c)) (em:m=min a (min b c)) (hd:0<d)
  (pa:ra*(d:Rat)=((a-m:Int):Rat)) (pb:rb*(d:Rat)=((b-m:Int):Rat)) (pc:rc*(d:Rat)=((c-m:Int):Rat)) :
  FinF (hueF x y z)∧∃ θ,HueAt θ ra rb rc∧Rv (hueF x y z)-6*θ≤5*dR∧6*θ-Rv (hueF x y z)≤5*dR∧(0≤val (hueF x y z)∨(-2≤Rv (hueF x y z)∧Rv (hueF x y z) ≤ -1/20000)):=by
 have hdR:(0:Rat)<(d:Rat):=by have:=Rat.intCast_lt_intCast.mpr hd;exact this
 refine goalP fun G hG=>?_
 refine and2 (max_of eM) fun kM kM2=>?_
 refine and2 (min_of em) fun km km2=>?_
 refine and4 (ord3 kM km kM2 km2 hd) fun j1 j2 j3 j4=>?_
 have hb9:m+d≤15500:=by rcases kM2 with h|h|h<;>(first|exact lqz [_,_,_] (.le T0 (.n 15500) 1 (.eq T0 (.a T1 T2) (-1) (.gle (.a T1 T2) (.n 15500) 1))) rfl h2 h|exact lqz [_,_,_] (.le T0 (.n 15500) 1 (.eq T0 (.a T1 T2) (-1) (.gle (.a T1 T2) (.n 15500) 1))) rfl h4 h|exact lqz [_,_,_] (.le T0 (.n 15500) 1 (.eq T0 (.a T1 T2) (-1) (.gle (.a T1 T2) (.n 15500) 1))) rfl h6 h)
 have hm5:500≤m:=by rcases km2 with h|h|h<;>(first|exact lqz [_,_] (.le (.n 500) T0 1 (.eq T0 T1 1 (.gle (.n 500) T1 1))) rfl h1 h|exact lqz [_,_] (.le (.n 500) T0 1 (.eq T0 T1 1 (.gle (.n 500) T1 1))) rfl h3 h|exact lqz [_,_] (.le (.n 500) T0 1 (.eq T0 T1 1 (.gle (.n 500) T1 1))) rfl h5 h)
 clear eM em kM2 km2
 have uniq:∀ {r r':Rat},r*(d:Rat)=r'*(d:Rat)→r=r':=by
  intro r r' h
  grind -abstractProof
 have full:∀ {v:Int},500≤v→v≤15500→m≤v→v≤m+d→∀ {r:Rat},r*(d:Rat)=((v-m:Int):Rat)→0≤r∧r≤1∧(v=m+d→r=1)∧(v=m→r=0)∧(v≠m→1/15000≤r)∧(∀ w,Ex w (2*v)→FinF (div (sub (bestBits gtB x [y,z]) w) (sub (bestBits gtB x [y,z]) (bestBits ltB x [y,z])))∧(1-r)-dR≤Rv (div (sub (bestBits gtB x [y,z]) w) (sub (bestBits gtB x [y,z]) (bestBits ltB x [y,z])))∧Rv (div (sub (bestBits gtB x [y,z]) w) (sub (bestBits gtB x [y,z]) (bestBits ltB x [y,z])))≤(1-r)+dR):=by
  intro v v1 v2 v3 v4 r hr
  clear j1 j2 j3 j4
  refine goalP fun G9 hG9=>?_
  obtain ⟨r',q0,q1,q2,q3,q4,q5⟩:=norm_frac (n:=v-m) hd (by exact lqz [_,_] (.le (.a T0 T1) (.n 15500) 1 (.le (.n 500) T0 1 (.gle T1 (.n 15000) 1))) rfl hb9 hm5) (by exact lqz [_,_] (.le T0 T1 1 (.gle Tz (.s T1 T0) 1)) rfl v3) (by exact lqz [_,_,_] (.le T0 (.a T1 T2) 1 (.gle (.s T0 T1) T2 1)) rfl v4)
  refine hG9 ?_
  clear hG9
  have er:r=r':=uniq (by rw [hr,q0])
  subst er
  refine ⟨q1,q2,fun h=>q3 (by exact Int.le_antisymm (lqz [_,_,_] (.le T0 (.a T1 T2) 1 (.gle (.s T0 T1) T2 1)) rfl v4) (lqz [_,_,_] (.eq T0 (.a T1 T2) (-1) (.gle T2 (.s T0 T1) 1)) rfl h)),fun h=>q4 (by exact Int.le_antisymm (lqz [_,_] (.eq T0 T1 1 (.gle (.s T0 T1) Tz 1)) rfl h) (lqz [_,_] (.le T0 T1 1 (.gle Tz (.s T1 T0) 1)) rfl v3)),fun h=>q5 (by lia -abstractProof),fun w hw=>?_⟩
  have e1:=ex_sub hM hw (abs30 (by exact lqz [_,_,_] (.le T0 (.a T1 T2) 2 (.gle (.g (.n 100000)) (.s (.m Ty (.a T1 T2)) (.m Ty T0)) 1)) rfl v4) (by exact lqz [_,_,_] (.le (.a T0 T1) (.n 15500) 2 (.le (.n 500) T2 2 (.gle (.s (.m Ty (.a T0 T1)) (.m Ty T2)) (.n 100000) 1))) rfl hb9 v1))
  have e2:=ex_sub hM hm (abs30 (by exact lqz [_,_] (.lt Tz T0 2 (.gle (.g (.n 100000)) (.s (.m Ty (.a T1 T0)) (.m Ty T1)) 1)) rfl hd) (by exact lqz [_,_] (.le (.a T0 T1) (.n 15500) 2 (.le (.n 500) T0 2 (.gle (.s (.m Ty (.a T0 T1)) (.m Ty T0)) (.n 100000) 1))) rfl hb9 hm5))
  rw [← Int.mul_sub] at e1 e2
  rw [show m+d-m=d by exact Int.le_antisymm (lqz [_,_] (.gle (.s (.a T0 T1) T0) T1 1) rfl) (lqz [_,_] (.gle T0 (.s (.a T1 T0) T1) 1) rfl)] at e2
  refine ratio (a:=m+d-v) e1 e2 ?_ hd (by exact lqr [_] (.le T0 Tx 1 (.gle Tz (.s Tx T0) 1)) rfl q2) (by exact lqr [_] (.le Tz T0 1 (.gle (.s Tx T0) Tx 1)) rfl q1)
  have e3:m+d-v=d-(v-m):=by exact Int.le_antisymm (lqz [_,_,_] (.gle (.s (.a T0 T1) T2) (.s T1 (.s T2 T0)) 1) rfl) (lqz [_,_,_] (.gle (.s T0 (.s T1 T2)) (.s (.a T2 T0) T1) 1) rfl)
  rw [e3,rat_sub_int d,←hr]
  grind -abstractProof
 refine and6 (full h1 h2 km.1 kM.1 pa) fun a0 a1 a2 a3 a4 a5=>?_
 refine and6 (full h3 h4 km.2.1 kM.2.1 pb) fun b0 b1 b2 b3 b4 b5=>?_
 refine and6 (full h5 h6 km.2.2 kM.2.2 pc) fun c0 c1 c2 c3 c4 c5=>?_
 refine and3 (a5 x hx) fun fa a6 a7=>?_
 refine and3 (b5 y hy) fun fb b6 b7=>?_
 refine and3 (c5 z hz) fun fc c6 c7=>?_
 clear full a5 b5 c5
 have de:b=c→b<m+d→div (sub (bestBits gtB x [y,z]) z) (sub (bestBits gtB x [y,z]) (bestBits ltB x [y,z]))=div (sub (bestBits gtB x [y,z]) y) (sub (bestBits gtB x [y,z]) (bestBits ltB x [y,z])):=by
  intro qe hlt
  clear j1 j2 j3 j4
  have e1:=ex_sub hM hy (abs30 (by exact lqz [_,_,_] (.lt T0 (.a T1 T2) 2 (.gle (.g (.n 100000)) (.s (.m Ty (.a T1 T2)) (.m Ty T0)) 1)) rfl hlt) (by exact lqz [_,_,_] (.le (.n 500) T0 2 (.le (.a T1 T2) (.n 15500) 2 (.gle (.s (.m Ty (.a T1 T2)) (.m Ty T0)) (.n 100000) 1))) rfl h3 hb9))
  have e2:=ex_sub hM hz (abs30 (by exact lqz [_,_,_] (.le T0 (.a T1 T2) 2 (.gle (.g (.n 100000)) (.s (.m Ty (.a T1 T2)) (.m Ty T0)) 1)) rfl kM.2.2) (by exact lqz [_,_,_] (.le (.n 500) T0 2 (.le (.a T1 T2) (.n 15500) 2 (.gle (.s (.m Ty (.a T1 T2)) (.m Ty T0)) (.n 100000) 1))) rfl h5 hb9))
  have e3:=ex_sub hM hm (abs30 (by exact lqz [_,_] (.lt Tz T0 2 (.gle (.g (.n 100000)) (.s (.m Ty (.a T1 T0)) (.m Ty T1)) 1)) rfl hd) (by exact lqz [_,_] (.le (.a T0 T1) (.n 15500) 2 (.le (.n 500) T0 2 (.gle (.s (.m Ty (.a T0 T1)) (.m Ty T0)) (.n 100000) 1))) rfl hb9 hm5))
  have hP:(0:Int)<2 ^ 1059:=by decide +kernel
  have hv:val (sub (bestBits gtB x [y,z]) z)=val (sub (bestBits gtB x [y,z]) y):=by rw [e1.2,e2.2,qe]
  have hv1:0<val (sub (bestBits gtB x [y,z]) z):=by rw [e2.2];exact Int.mul_pos (by exact lqz [_,_,_,_] (.eq T0 T1 (-2) (.lt T0 (.a T2 T3) 2 (.glt Tz (.s (.m Ty (.a T2 T3)) (.m Ty T1)) 1))) rfl qe hlt) hP
  have hv2:0<val (sub (bestBits gtB x [y,z]) (bestBits ltB x [y,z])):=by rw [e3.2];exact Int.mul_pos (by exact lqz [_,_] (.lt Tz T0 2 (.glt Tz (.s (.m Ty (.a T1 T0)) (.m Ty T1)) 1)) rfl hd) hP
  have d1:=div_frac (n:=(val (sub (bestBits gtB x [y,z]) z)).natAbs) (d:=(val (sub (bestBits gtB x [y,z]) (bestBits ltB x [y,z]))).natAbs) e2.1 e3.1 hv1 hv2 (by lia -abstractProof) rfl
  have d2:=div_frac (n:=(val (sub (bestBits gtB x [y,z]) z)).natAbs) (d:=(val (sub (bestBits gtB x [y,z]) (bestBits ltB x [y,z]))).natAbs) e1.1 e3.1 (by exact lqz [_,_] (.eq T0 T1 1 (.lt Tz T0 1 (.glt Tz T1 1))) rfl hv hv1) hv2 (by lia -abstractProof) (by rw [hv])
  exact d1.trans d2.symm
 refine hG ?_
 clear hG G
 unfold hueF
 dsimp only
 rw [ex_eq hx hM,ex_eq hy hM]
 have i1:(2*a=2*(m+d))↔a=m+d:=by lia -abstractProof
 have i2:(2*b=2*(m+d))↔b=m+d:=by lia -abstractProof
 simp only [decide_eq_true_iff,i1,i2]
 clear i1 i2 hx hy hz hM hm h1 h2 h3 h4 h5 h6 kM km hb9 hm5 pa pb pc hd hdR uniq
 generalize div (sub (bestBits gtB x [y,z]) x) (sub (bestBits gtB x [y,z]) (bestBits ltB x [y,z]))=U at *
 generalize div (sub (bestBits gtB x [y,z]) y) (sub (bestBits gtB x [y,z]) (bestBits ltB x [y,z]))=V at *
 generalize div (sub (bestBits gtB x [y,z]) z) (sub (bestBits gtB x [y,z]) (bestBits ltB x [y,z]))=T at *
 by_cases qa:a=m+d
 ·rw [if_pos qa]
  have ha:=a2 qa
  by_cases qe:b=c
  ·refine and3 (j2 qe qa) fun k1 k2 k3=>?_
   have hb:=b3 k1
   have hc:=c3 k2
   rw [de qe k3]
   have hz0:val (sub V V)=0:=by
    refine goalP fun G9 hG9=>?_
    obtain ⟨s1,s2,s3,hd1⟩:=fb
    refine hG9 ?_
    clear hG9
    rw [(sub_right hd1 hd1).1 (by exact Int.le_antisymm (lqz [_] (.gle (.s T0 T0) Tz 1) rfl) (lqz [_] (.gle Tz (.s T0 T0) 1) rfl)),val_zero]
   have rz:Rv (sub V V)=0:=by
    unfold Rv;rw [hz0];simp
   clear a2 b2 c2 a3 b3 c3 a4 b4 c4 j1 j2 j3 j4 de
   have fz:=(rv_sub fb fb (by exact lqr [_] (.gle (.g (.n 1048576)) (.s T0 T0) 1) rfl) (by exact lqr [_] (.gle (.s T0 T0) (.n 1048576) 1) rfl)).1
   refine ⟨fz,0,⟨0,by exact lqr [] (.gle Tz Tz 1) rfl,by exact lqr [] (.gle Tz Tx 1) rfl,.inl ⟨by exact Rat.le_antisymm (lqr [] (.gle Tz (.d Tz 6) 1) rfl) (lqr [] (.gle (.d Tz 6) Tz 1) rfl),ha,hb,hc⟩⟩,by rw [rz];exact lqr [] (.gle (.s Tz (.m (.n 6) Tz)) (.m (.n 5) Td) 1) rfl,by rw [rz];exact lqr [] (.gle (.s (.m (.n 6) Tz) Tz) (.m (.n 5) Td) 1) rfl,.inl (by rw [hz0];exact Int.le_refl _)⟩
  ·rcases j1 qe qa with ⟨k1,k2,k3⟩|⟨k1,k2,k3⟩
   ·have hb:=b3 k1
    have hc:=c4 k2
    clear a2 b2 c2 a3 b3 c3 a4 b4 c4 j1 j2 j3 j4 de
    refine and3 (rv_sub fc fb (by exact lqr [_,_,_,_] (.le Tz T0 8589934592 (.le T1 Tx 8589934592 (.le T2 (.a (.s Tx T0) Td) 1 (.le (.s (.s Tx T1) Td) T3 1 (.gle (.g (.n 1048576)) (.s T3 T2) 8589934592))))) rfl b0 c1 b7 c6) (by exact lqr [_,_,_,_] (.le (.s (.s Tx T0) Td) T1 1875 (.le T2 (.a (.s Tx T3) Td) 1875 (.eq T0 Tz 16106127360000 (.le (.d Tx 15000) T3 1073741824 (.gle (.s T2 T1) (.n 1048576) 16106127360000))))) rfl b6 c7 hb hc)) fun fs s1 s2=>?_
    exact ⟨fs,-rc/6,⟨rc,c0,c1,.inr (.inr (.inr (.inr (.inr ⟨rfl,ha,hb,rfl⟩))))⟩,by exact lqr [_,_,_,_,_] (.le (.s (.s Tx T0) Td) T1 6 (.le T2 (.a (.s Tx T3) Td) 6 (.eq T0 Tz 51539607552 (.le T4 (.a (.s T2 T1) Td) 6 (.gle (.s T4 (.m (.n 6) (.d (.g T3) 6))) (.m (.n 5) Td) 1))))) rfl b6 c7 hb s2,by exact lqr [_,_,_,_,_] (.le Tz T0 51539607552 (.le T1 (.a (.s Tx T0) Td) 6 (.le (.s (.s Tx T2) Td) T3 6 (.le (.s (.s T3 T1) Td) T4 6 (.gle (.s (.m (.n 6) (.d (.g T2) 6)) T4) (.m (.n 5) Td) 1))))) rfl b0 b7 c6 s1,.inr ⟨by exact lqr [_,_,_,_,_] (.le Tz T0 8589934592 (.le T1 Tx 8589934592 (.le T2 (.a (.s Tx T0) Td) 1 (.le (.s (.s Tx T1) Td) T3 1 (.le (.s (.s T3 T2) Td) T4 1 (.gle (.g Ty) T4 8589934592)))))) rfl b0 c1 b7 c6 s1,by exact lqr [_,_,_,_,_] (.le (.s (.s Tx T0) Td) T1 1875 (.le T2 (.a (.s Tx T3) Td) 1875 (.eq T0 Tz 16106127360000 (.le (.d Tx 15000) T3 1073741824 (.le T4 (.a (.s T2 T1) Td) 1875 (.gle T4 (.d (.g Tx) 20000) 805306368)))))) rfl b6 c7 hb hc s2⟩⟩
   ·have hb:=b4 k2
    have hc:=c3 k1
    clear a2 b2 c2 a3 b3 c3 a4 b4 c4 j1 j2 j3 j4 de
    refine and3 (rv_sub fc fb (by exact lqr [_,_,_,_] (.le T0 (.a (.s Tx T1) Td) 1875 (.le (.s (.s Tx T2) Td) T3 1875 (.le (.d Tx 15000) T1 1073741824 (.eq T2 Tz 16106127360000 (.gle (.g (.n 1048576)) (.s T3 T0) 16106127360000))))) rfl b7 c6 hb hc) (by exact lqr [_,_,_,_] (.le T0 Tx 8589934592 (.le Tz T1 8589934592 (.le (.s (.s Tx T0) Td) T2 1 (.le T3 (.a (.s Tx T1) Td) 1 (.gle (.s T3 T2) (.n 1048576) 8589934592))))) rfl b1 c0 b6 c7)) fun fs s1 s2=>?_
    exact ⟨fs,rb/6,⟨rb,b0,b1,.inl ⟨rfl,ha,rfl,hc⟩⟩,by exact lqr [_,_,_,_,_] (.le Tz T0 51539607552 (.le (.s (.s Tx T1) Td) T2 6 (.le T3 (.a (.s Tx T0) Td) 6 (.le T4 (.a (.s T3 T2) Td) 6 (.gle (.s T4 (.m (.n 6) (.d T1 6))) (.m (.n 5) Td) 1))))) rfl c0 b6 c7 s2,by exact lqr [_,_,_,_,_] (.le T0 (.a (.s Tx T1) Td) 6 (.le (.s (.s Tx T2) Td) T3 6 (.eq T2 Tz 51539607552 (.le (.s (.s T3 T0) Td) T4 6 (.gle (.s (.m (.n 6) (.d T1 6)) T4) (.m (.n 5) Td) 1))))) rfl b7 c6 hc s1,.inl (nonneg_of_rv (by exact lqr [_,_,_,_,_] (.le T0 (.a (.s Tx T1) Td) 1875 (.le (.s (.s Tx T2) Td) T3 1875 (.le (.d Tx 15000) T1 1073741824 (.eq T2 Tz 16106127360000 (.le (.s (.s T3 T0) Td) T4 1875 (.gle Tz T4 16106127360000)))))) rfl b7 c6 hb hc s1))⟩
 ·rw [if_neg qa]
  by_cases qb:b=m+d
  ·rw [if_pos qb]
   have hb:=b2 qb
   refine and2 (j3 qa qb) fun j5 j6=>?_
   by_cases q:c≤a
   ·have hc:=c3 (j5 q)
    clear a2 b2 c2 a3 b3 c3 a4 b4 c4 j1 j2 j3 j4 j5 j6 de
    refine and3 (rv_add fin_two fa (by rw [rv_two];exact lqr [_,_] (.le T0 Tx 8589934592 (.le (.s (.s Tx T0) Td) T1 1 (.gle (.g (.n 1048576)) (.a Ty T1) 8589934592))) rfl a1 a6) (by rw [rv_two];exact lqr [_,_] (.le Tz T0 8589934592 (.le T1 (.a (.s Tx T0) Td) 1 (.gle (.a Ty T1) (.n 1048576) 8589934592))) rfl a0 a7)) fun fs s1 s2=>?_
    rw [rv_two] at s1 s2
    refine and3 (rv_sub fs fc (by exact lqr [_,_,_,_,_] (.le T0 Tx 8589934592 (.le Tz T1 8589934592 (.le (.s (.s Tx T0) Td) T2 1 (.le T3 (.a (.s Tx T1) Td) 1 (.le (.s (.a Ty T2) Td) T4 1 (.gle (.g (.n 1048576)) (.s T4 T3) 8589934592)))))) rfl a1 c0 a6 c7 s1) (by exact lqr [_,_,_,_,_] (.le Tz T0 8589934592 (.le T1 (.a (.s Tx T0) Td) 1 (.le (.s (.s Tx T2) Td) T3 1 (.eq T2 Tz 8589934592 (.le T4 (.a (.a Ty T1) Td) 1 (.gle (.s T4 T3) (.n 1048576) 8589934592)))))) rfl a0 a7 c6 hc s2)) fun ft t1 t2=>?_
    exact ⟨ft,(2-ra)/6,⟨ra,a0,a1,.inr (.inl ⟨rfl,rfl,hb,hc⟩)⟩,by exact lqr [_,_,_,_,_,_] (.le T0 (.a (.s Tx T1) Td) 6 (.le (.s (.s Tx T2) Td) T3 6 (.eq T2 Tz 51539607552 (.le T4 (.a (.a Ty T0) Td) 6 (.le T5 (.a (.s T4 T3) Td) 6 (.gle (.s T5 (.m (.n 6) (.d (.s Ty T1) 6))) (.m (.n 5) Td) 1)))))) rfl a7 c6 hc s2 t2,by exact lqr [_,_,_,_,_,_] (.le Tz T0 51539607552 (.le (.s (.s Tx T1) Td) T2 6 (.le T3 (.a (.s Tx T0) Td) 6 (.le (.s (.a Ty T2) Td) T4 6 (.le (.s (.s T4 T3) Td) T5 6 (.gle (.s (.m (.n 6) (.d (.s Ty T1) 6)) T5) (.m (.n 5) Td) 1)))))) rfl c0 a6 c7 s1 t1,.inl (nonneg_of_rv (by exact lqr [_,_,_,_,_,_] (.le T0 Tx 8589934592 (.le Tz T1 8589934592 (.le (.s (.s Tx T0) Td) T2 1 (.le T3 (.a (.s Tx T1) Td) 1 (.le (.s (.a Ty T2) Td) T4 1 (.le (.s (.s T4 T3) Td) T5 1 (.gle Tz T5 8589934592))))))) rfl a1 c0 a6 c7 s1 t1))⟩
   ·have ha:=a3 (j6 q)
    clear a2 b2 c2 a3 b3 c3 a4 b4 c4 j1 j2 j3 j4 j5 j6 de
    refine and3 (rv_add fin_two fa (by rw [rv_two];exact lqr [_,_] (.le (.s (.s Tx T0) Td) T1 1 (.eq T0 Tz 8589934592 (.gle (.g (.n 1048576)) (.a Ty T1) 8589934592))) rfl a6 ha) (by rw [rv_two];exact lqr [_,_] (.le Tz T0 8589934592 (.le T1 (.a (.s Tx T0) Td) 1 (.gle (.a Ty T1) (.n 1048576) 8589934592))) rfl a0 a7)) fun fs s1 s2=>?_
    rw [rv_two] at s1 s2
    refine and3 (rv_sub fs fc (by exact lqr [_,_,_,_,_] (.le Tz T0 8589934592 (.le (.s (.s Tx T1) Td) T2 1 (.le T3 (.a (.s Tx T0) Td) 1 (.eq T1 Tz 8589934592 (.le (.s (.a Ty T2) Td) T4 1 (.gle (.g (.n 1048576)) (.s T4 T3) 8589934592)))))) rfl c0 a6 c7 ha s1) (by exact lqr [_,_,_,_,_] (.le Tz T0 8589934592 (.le T1 Tx 8589934592 (.le T2 (.a (.s Tx T0) Td) 1 (.le (.s (.s Tx T1) Td) T3 1 (.le T4 (.a (.a Ty T2) Td) 1 (.gle (.s T4 T3) (.n 1048576) 8589934592)))))) rfl a0 c1 a7 c6 s2)) fun ft t1 t2=>?_
    exact ⟨ft,(2+rc)/6,⟨rc,c0,c1,.inr (.inr (.inl ⟨rfl,ha,hb,rfl⟩))⟩,by exact lqr [_,_,_,_,_,_] (.le Tz T0 51539607552 (.le T1 (.a (.s Tx T0) Td) 6 (.le (.s (.s Tx T2) Td) T3 6 (.le T4 (.a (.a Ty T1) Td) 6 (.le T5 (.a (.s T4 T3) Td) 6 (.gle (.s T5 (.m (.n 6) (.d (.a Ty T2) 6))) (.m (.n 5) Td) 1)))))) rfl a0 a7 c6 s2 t2,by exact lqr [_,_,_,_,_,_] (.le (.s (.s Tx T0) Td) T1 6 (.le T2 (.a (.s Tx T3) Td) 6 (.eq T0 Tz 51539607552 (.le (.s (.a Ty T1) Td) T4 6 (.le (.s (.s T4 T2) Td) T5 6 (.gle (.s (.m (.n 6) (.d (.a Ty T3) 6)) T5) (.m (.n 5) Td) 1)))))) rfl a6 c7 ha s1 t1,.inl (nonneg_of_rv (by exact lqr [_,_,_,_,_,_] (.le Tz T0 8589934592 (.le (.s (.s Tx T1) Td) T2 1 (.le T3 (.a (.s Tx T0) Td) 1 (.eq T1 Tz 8589934592 (.le (.s (.a Ty T2) Td) T4 1 (.le (.s (.s T4 T3) Td) T5 1 (.gle Tz T5 8589934592))))))) rfl c0 a6 c7 ha s1 t1))⟩
  ·rw [if_neg qb]
   refine and3 (j4 qa qb) fun j5 j6 j7=>?_
   have hc:=c2 j5
   by_cases q:a≤b
   ·have ha:=a3 (j6 q)
    clear a2 b2 c2 a3 b3 c3 a4 b4 c4 j1 j2 j3 j4 j5 j6 j7 de
    refine and3 (rv_add fin_four fb (by rw [rv_four];exact lqr [_,_] (.le T0 Tx 8589934592 (.le (.s (.s Tx T0) Td) T1 1 (.gle (.g (.n 1048576)) (.a (.n 4) T1) 8589934592))) rfl b1 b6) (by rw [rv_four];exact lqr [_,_] (.le Tz T0 8589934592 (.le T1 (.a (.s Tx T0) Td) 1 (.gle (.a (.n 4) T1) (.n 1048576) 8589934592))) rfl b0 b7)) fun fs s1 s2=>?_
    rw [rv_four] at s1 s2
    refine and3 (rv_sub fs fa (by exact lqr [_,_,_,_,_] (.le Tz T0 8589934592 (.le T1 Tx 8589934592 (.le T2 (.a (.s Tx T0) Td) 1 (.le (.s (.s Tx T1) Td) T3 1 (.le (.s (.a (.n 4) T3) Td) T4 1 (.gle (.g (.n 1048576)) (.s T4 T2) 8589934592)))))) rfl a0 b1 a7 b6 s1) (by exact lqr [_,_,_,_,_] (.le Tz T0 8589934592 (.le (.s (.s Tx T1) Td) T2 1 (.le T3 (.a (.s Tx T0) Td) 1 (.eq T1 Tz 8589934592 (.le T4 (.a (.a (.n 4) T3) Td) 1 (.gle (.s T4 T2) (.n 1048576) 8589934592)))))) rfl b0 a6 b7 ha s2)) fun ft t1 t2=>?_
    exact ⟨ft,(4-rb)/6,⟨rb,b0,b1,.inr (.inr (.inr (.inl ⟨rfl,ha,rfl,hc⟩)))⟩,by exact lqr [_,_,_,_,_,_] (.le (.s (.s Tx T0) Td) T1 6 (.le T2 (.a (.s Tx T3) Td) 6 (.eq T0 Tz 51539607552 (.le T4 (.a (.a (.n 4) T2) Td) 6 (.le T5 (.a (.s T4 T1) Td) 6 (.gle (.s T5 (.m (.n 6) (.d (.s (.n 4) T3) 6))) (.m (.n 5) Td) 1)))))) rfl a6 b7 ha s2 t2,by exact lqr [_,_,_,_,_,_] (.le Tz T0 51539607552 (.le T1 (.a (.s Tx T0) Td) 6 (.le (.s (.s Tx T2) Td) T3 6 (.le (.s (.a (.n 4) T3) Td) T4 6 (.le (.s (.s T4 T1) Td) T5 6 (.gle (.s (.m (.n 6) (.d (.s (.n 4) T2) 6)) T5) (.m (.n 5) Td) 1)))))) rfl a0 a7 b6 s1 t1,.inl (nonneg_of_rv (by exact lqr [_,_,_,_,_,_] (.le Tz T0 8589934592 (.le T1 Tx 8589934592 (.le T2 (.a (.s Tx T0) Td) 1 (.le (.s (.s Tx T1) Td) T3 1 (.le (.s (.a (.n 4) T3) Td) T4 1 (.le (.s (.s T4 T2) Td) T5 1 (.gle Tz T5 8589934592))))))) rfl a0 b1 a7 b6 s1 t1))⟩
   ·have hb:=b3 (j7 q)
    clear a2 b2 c2 a3 b3 c3 a4 b4 c4 j1 j2 j3 j4 j5 j6 j7 de
    refine and3 (rv_add fin_four fb (by rw [rv_four];exact lqr [_,_] (.le (.s (.s Tx T0) Td) T1 1 (.eq T0 Tz 8589934592 (.gle (.g (.n 1048576)) (.a (.n 4) T1) 8589934592))) rfl b6 hb) (by rw [rv_four];exact lqr [_,_] (.le Tz T0 8589934592 (.le T1 (.a (.s Tx T0) Td) 1 (.gle (.a (.n 4) T1) (.n 1048576) 8589934592))) rfl b0 b7)) fun fs s1 s2=>?_
    rw [rv_four] at s1 s2
    refine and3 (rv_sub fs fa (by exact lqr [_,_,_,_,_] (.le Tz T0 8589934592 (.le T1 (.a (.s Tx T0) Td) 1 (.le (.s (.s Tx T2) Td) T3 1 (.eq T2 Tz 8589934592 (.le (.s (.a (.n 4) T3) Td) T4 1 (.gle (.g (.n 1048576)) (.s T4 T1) 8589934592)))))) rfl a0 a7 b6 hb s1) (by exact lqr [_,_,_,_,_] (.le T0 Tx 8589934592 (.le Tz T1 8589934592 (.le (.s (.s Tx T0) Td) T2 1 (.le T3 (.a (.s Tx T1) Td) 1 (.le T4 (.a (.a (.n 4) T3) Td) 1 (.gle (.s T4 T2) (.n 1048576) 8589934592)))))) rfl a1 b0 a6 b7 s2)) fun ft t1 t2=>?_
    exact ⟨ft,(4+ra)/6,⟨ra,a0,a1,.inr (.inr (.inr (.inr (.inl ⟨rfl,rfl,hb,hc⟩))))⟩,by exact lqr [_,_,_,_,_,_] (.le Tz T0 51539607552 (.le (.s (.s Tx T1) Td) T2 6 (.le T3 (.a (.s Tx T0) Td) 6 (.le T4 (.a (.a (.n 4) T3) Td) 6 (.le T5 (.a (.s T4 T2) Td) 6 (.gle (.s T5 (.m (.n 6) (.d (.a (.n 4) T1) 6))) (.m (.n 5) Td) 1)))))) rfl b0 a6 b7 s2 t2,by exact lqr [_,_,_,_,_,_] (.le T0 (.a (.s Tx T1) Td) 6 (.le (.s (.s Tx T2) Td) T3 6 (.eq T2 Tz 51539607552 (.le (.s (.a (.n 4) T3) Td) T4 6 (.le (.s (.s T4 T0) Td) T5 6 (.gle (.s (.m (.n 6) (.d (.a (.n 4) T1) 6)) T5) (.m (.n 5) Td) 1)))))) rfl a7 b6 hb s1 t1,.inl (nonneg_of_rv (by exact lqr [_,_,_,_,_,_] (.le Tz T0 8589934592 (.le T1 (.a (.s Tx T0) Td) 1 (.le (.s (.s Tx T2) Td) T3 1 (.eq T2 Tz 8589934592 (.le (.s (.a (.n 4) T3) Td) T4 1 (.le (.s (.s T4 T1) Td) T5 1 (.gle Tz T5 8589934592))))))) rfl a0 a7 b6 hb s1 t1))⟩
end Mine
end
section
open PySem PySem.Float64 PySem.Flt
namespace Mine
private theorem ct_Fl15_1 {x0:Int} {x1:Int} {x2:Int} (h0:((x0+x1)+x0)≤16384) (h1:x2=((x0+x1)+x0)) (h2:¬ ((x0+x1)+x0)<16384):x2=(32768-((x0+x1)+x0)):=Int.le_antisymm (lqz [x0,x1,x2] (.le (.a (.a T0 T1) T0) (.n 16384) 2 (.eq T2 (.a (.a T0 T1) T0) 1 (.gle T2 (.s (.n 32768) (.a (.a T0 T1) T0)) 1))) rfl h0 h1) (lqz [x0,x1,x2] (.nlt (.a (.a T0 T1) T0) (.n 16384) 2 (.eq T2 (.a (.a T0 T1) T0) (-1) (.gle (.s (.n 32768) (.a (.a T0 T1) T0)) T2 1))) rfl h2 h1)
private theorem ct_Fl15_2 {x0:Int} {x1:Int} {x2:Int} (h0:x0=(32768-((x1+x2)+x1))):x0=(32768-((x1+x2)+x1)):=Int.le_antisymm (lqz [x0,x1,x2] (.eq T0 (.s (.n 32768) (.a (.a T1 T2) T1)) 1 (.gle T0 (.s (.n 32768) (.a (.a T1 T2) T1)) 1)) rfl h0) (lqz [x0,x1,x2] (.eq T0 (.s (.n 32768) (.a (.a T1 T2) T1)) (-1) (.gle (.s (.n 32768) (.a (.a T1 T2) T1)) T0 1)) rfl h0)
private theorem ex_pos {x:UInt64} {a:Int} (hx:Ex x a) (h:0<a):0<val x:=by
 have hP:(0:Int)<2 ^ 1059:=by decide +kernel
 rw [hx.2];exact Int.mul_pos h hP
private theorem share_is {u v:UInt64} {d e:Int} (hu:Ex u (2*d)) (hv:Ex v (2*e)) (hd:0<d) (he:0<e):div u v=fdivI d e:=by
 unfold fdivI
 have e1:(decide (d<0) != decide (e<0))=false:=by
  rw [decide_eq_false (by exact Int.not_lt.mpr (lqz [_] (.lt Tz T0 1 (.gle Tz T0 1)) rfl hd)),decide_eq_false (by exact Int.not_lt.mpr (lqz [_] (.lt Tz T0 1 (.gle Tz T0 1)) rfl he))];rfl
 rw [e1]
 refine div_frac hu.1 hv.1 (ex_pos hu (by exact lqz [_] (.lt Tz T0 2 (.glt Tz (.m Ty T0) 1)) rfl hd)) (ex_pos hv (by exact lqz [_] (.lt Tz T0 2 (.glt Tz (.m Ty T0) 1)) rfl he)) (by lia -abstractProof) ?_
 rw [hu.2,hv.2,Int.natAbs_mul,Int.natAbs_mul,Int.natAbs_mul,Int.natAbs_mul]
 generalize ((2:Int) ^ 1059).natAbs=G
 generalize d.natAbs=D
 generalize e.natAbs=E
 generalize (2:Int).natAbs=T
 simp only [Nat.mul_assoc,Nat.mul_comm,Nat.mul_left_comm]
private theorem share_near {d e:Int} {ρ:Rat} (hd:0<d) (he:0<e) (hd9:d≤16000) (he9:e≤40000) (hle:d≤e) (hr:ρ*(e:Rat)=(d:Rat)):FinF (fdivI d e)∧ρ-dR≤Rv (fdivI d e)∧Rv (fdivI d e)≤ρ+dR∧0≤ρ∧ρ≤1∧1/40000≤ρ:=by
 have hu:∀ {d:Int},0<d→d≤40000→Ex (ofFrac false d.natAbs 16384) (2*d):=by
  intro d hd hd9
  exact ex_frac (by decide) (by lia -abstractProof) (by unfold sgn;simp;lia -abstractProof) (by lia -abstractProof)
 have heR:(0:Rat)<(e:Rat):=by have:=Rat.intCast_lt_intCast.mpr he;exact this
 have he9R:(e:Rat)≤40000:=by have:=Rat.intCast_le_intCast.mpr he9;exact this
 have hd1R:(1:Rat)≤(d:Rat):=by have:=Rat.intCast_le_intCast.mpr (show (1:Int)≤d by exact lqz [_] (.lt Tz T0 1 (.gle Tx T0 1)) rfl hd);exact this
 have hleR:(d:Rat)≤(e:Rat):=Rat.intCast_le_intCast.mpr hle
 have p0:1/40000≤ρ:=Rat.le_of_mul_le_mul_right (c:=(e:Rat)) (by rw [hr];exact lqr [_,_] (.le T0 (.n 40000) 1 (.le Tx T1 40000 (.gle (.m (.d Tx 40000) T0) T1 1))) rfl he9R hd1R) heR
 have p1:ρ≤1:=Rat.le_of_mul_le_mul_right (c:=(e:Rat)) (by rw [hr];exact lqr [_,_] (.le T0 T1 1 (.gle T0 (.m Tx T1) 1)) rfl hleR) heR
 have u:=hu hd (by exact lqz [_] (.le T0 (.n 16000) 1 (.gle T0 (.n 40000) 1)) rfl hd9)
 have v:=hu he he9
 have:=ratio u v hr he (by exact lqr [_] (.le (.d Tx 40000) T0 1 (.gle Tz T0 40000)) rfl p0) p1
 rw [share_is u v hd he] at this
 exact ⟨this.1,this.2.1,this.2.2,by exact lqr [_] (.le (.d Tx 40000) T0 1 (.gle Tz T0 40000)) rfl p0,p1,p0⟩
private theorem lamps_near {X Y Z:UInt64} {m d e:Int} {ρ:Rat} (hY:Ex Y (32768-(m+d+m))) (fZ:FinF Z) (z1:ρ-dR≤Rv Z) (z2:Rv Z≤ρ+dR) (hr:ρ*(e:Rat)=(d:Rat)) (r0:0≤ρ) (r9:ρ≤1) (r1:1/40000≤ρ)
  (he:e=denI (m+d+m)) (hd:0<d) (hm:500≤m) (hM:m+d≤15500) :
  ∃ m1 m2,FinF m1∧FinF m2∧Rv m1-(1-((m+d:Int):Rat)/16384)≤eR∧(1-((m+d:Int):Rat)/16384)-Rv m1≤eR∧Rv m2-(1-(m:Rat)/16384)≤eR∧(1-(m:Rat)/16384)-Rv m2≤eR ∧
   hlsF X Y Z=(vF m1 m2 (add X 4599676419421066581),vF m1 m2 X,vF m1 m2 (sub X 4599676419421066581)):=by
 have hdR:(0:Rat)<(d:Rat):=by have:=Rat.intCast_lt_intCast.mpr hd;exact this
 have hmR:(500:Rat)≤(m:Rat):=by have:=Rat.intCast_le_intCast.mpr hm;exact this
 have hMR:(m:Rat)+(d:Rat)≤15500:=by have:=Rat.intCast_le_intCast.mpr hM;rw [Rat.intCast_add] at this;exact this
 have hz:(cmp Z 0 == some Ordering.eq)=false:=by
  rw [rv_eq fZ fin_nought,decide_eq_false]
  intro h
  have:=rv_eq_of h
  rw [rv_nought] at this
  exact lqr [_,_] (.le (.s T0 Td) T1 625 (.le (.d Tx 40000) T0 134217728 (.eq T1 Tz 5368709120000 (.o)))) rfl z1 r1 this
 have eY:Rv Y=1-((m:Rat)+(d:Rat)+(m:Rat))/32768:=by
  rw [rv_ex hY,rat_sub_int,Rat.intCast_add,Rat.intCast_add]
  have:((32768:Int):Rat)=32768:=rfl
  rw [this];exact Rat.le_antisymm (lqr [_,_] (.gle (.d (.s (.n 32768) (.a (.a T0 T1) T0)) 32768) (.s Tx (.d (.a (.a T0 T1) T0) 32768)) 1) rfl) (lqr [_,_] (.gle (.s Tx (.d (.a (.a T0 T1) T0) 32768)) (.d (.s (.n 32768) (.a (.a T0 T1) T0)) 32768) 1) rfl)
 unfold hlsF
 dsimp only
 rw [if_neg (by rw [hz];simp),ex_lt hY ex_half,ex_eq hY ex_half,Rat.intCast_add]
 by_cases q:m+d+m<16384
 ·have e1:(decide (32768-(m+d+m)<16384) || decide (32768-(m+d+m)=16384))=false:=by
   rw [decide_eq_false (by exact Int.not_lt.mpr (lqz [_,_] (.lt (.a (.a T0 T1) T0) (.n 16384) 1 (.gle (.n 16384) (.s (.n 32768) (.a (.a T0 T1) T0)) 1)) rfl q)),decide_eq_false (by lia -abstractProof)];rfl
  rw [if_neg (by rw [e1];simp)]
  have he2:e=m+d+m:=by unfold denI at he;rw [if_pos (by exact lqz [_,_] (.lt (.a (.a T0 T1) T0) (.n 16384) 1 (.gle (.a (.a T0 T1) T0) (.n 16384) 1)) rfl q)] at he;exact he
  rw [he2,Rat.intCast_add,Rat.intCast_add] at hr
  clear e1 hz he he2
  refine goalP fun G hG=>?_
  refine and3 (rv_add hY.1 fZ (by exact lqr [_,_,_,_,_] (.le (.s T0 Td) T1 625 (.le (.d Tx 40000) T0 134217728 (.lt Tz T2 163840000 (.le (.a T3 T2) (.n 15500) 327680000 (.eq T4 (.s Tx (.d (.a (.a T3 T2) T3) 32768)) (-163840000) (.gle (.g (.n 1048576)) (.a T4 T1) 5368709120000)))))) rfl z1 r1 hdR hMR eY) (by exact lqr [_,_,_,_,_] (.le T0 (.a T1 Td) 1 (.le T1 Tx 8589934592 (.lt Tz T2 262144 (.le (.n 500) T3 524288 (.eq T4 (.s Tx (.d (.a (.a T3 T2) T3) 32768)) 262144 (.gle (.a T4 T0) (.n 1048576) 8589934592)))))) rfl z2 r9 hdR hmR eY)) fun f1 a1 a2=>?_
  have p0:=mul_abs (p:=Rv Z-ρ) (v:=Rv Y) (e:=dR) (B:=1) (by exact lqr [_,_] (.le (.s T0 Td) T1 1 (.gle (.g Td) (.s T1 T0) 1)) rfl z1) (by exact lqr [_,_] (.le T0 (.a T1 Td) 1 (.gle (.s T0 T1) Td 1)) rfl z2) (by exact lqr [_,_,_] (.lt Tz T0 1 (.le (.a T1 T0) (.n 15500) 2 (.eq T2 (.s Tx (.d (.a (.a T1 T0) T1) 32768)) (-1) (.gle (.g Tx) T2 32768)))) rfl hdR hMR eY) (by exact lqr [_,_,_] (.lt Tz T0 1 (.le (.n 500) T1 2 (.eq T2 (.s Tx (.d (.a (.a T1 T0) T1) 32768)) 1 (.gle T2 Tx 32768)))) rfl hdR hmR eY)
  have p1:=mul_abs (p:=ρ) (v:=Rv Y) (e:=1) (B:=1) (by exact lqr [_] (.le (.d Tx 40000) T0 1 (.gle (.g Tx) T0 40000)) rfl r1) (by exact lqr [_] (.le T0 Tx 1 (.gle T0 Tx 1)) rfl r9) (by exact lqr [_,_,_] (.lt Tz T0 1 (.le (.a T1 T0) (.n 15500) 2 (.eq T2 (.s Tx (.d (.a (.a T1 T0) T1) 32768)) (-1) (.gle (.g Tx) T2 32768)))) rfl hdR hMR eY) (by exact lqr [_,_,_] (.lt Tz T0 1 (.le (.n 500) T1 2 (.eq T2 (.s Tx (.d (.a (.a T1 T0) T1) 32768)) 1 (.gle T2 Tx 32768)))) rfl hdR hmR eY)
  have p2:ρ*Rv Y=ρ-(d:Rat)/32768:=by rw [eY];grind -abstractProof
  have p3:Rv Y*Rv Z=(Rv Z-ρ)*Rv Y+ρ*Rv Y:=by grind -abstractProof
  refine and3 (rv_mul hY.1 fZ (by exact lqr [_,_,_] (.le (.g (.m Td Tx)) T0 1 (.le (.g (.m Tx Tx)) T1 8589934592 (.eq T2 (.a T0 T1) (-8589934592) (.gle (.g (.n 1048576)) T2 8589934592)))) rfl p0.1 p1.1 p3) (by exact lqr [_,_,_] (.le T0 (.m Td Tx) 1 (.le T1 (.m Tx Tx) 8589934592 (.eq T2 (.a T0 T1) 8589934592 (.gle T2 (.n 1048576) 8589934592)))) rfl p0.2 p1.2 p3)) fun f2 b1 b2=>?_
  refine and3 (rv_sub f1 f2 (by exact lqr [_,_,_,_,_,_,_,_,_,_] (.le (.s T0 Td) T1 1 (.lt Tz T2 524288 (.le (.a T3 T2) (.n 15500) 524288 (.eq T4 (.s Tx (.d (.a (.a T3 T2) T3) 32768)) (-262144) (.le (.s (.a T4 T1) Td) T5 1 (.le T6 (.m Td Tx) 1 (.eq T7 (.s T0 (.d T2 32768)) 262144 (.eq T8 (.a T6 T7) 8589934592 (.le T9 (.a T8 Td) 1 (.gle (.g (.n 1048576)) (.s T5 T9) 8589934592)))))))))) rfl z1 hdR hMR eY a1 p0.2 p2 p3 b2) (by exact lqr [_,_,_,_,_,_,_,_,_,_] (.le T0 (.a T1 Td) 1 (.le (.n 500) T2 524288 (.eq T3 (.s Tx (.d (.a (.a T2 T4) T2) 32768)) 262144 (.le T5 (.a (.a T3 T0) Td) 1 (.le (.g (.m Td Tx)) T6 1 (.eq T7 (.s T1 (.d T4 32768)) (-262144) (.eq T8 (.a T6 T7) (-8589934592) (.le (.s T8 Td) T9 1 (.gle (.s T5 T9) (.n 1048576) 8589934592))))))))) rfl z2 hmR eY a2 p0.1 p2 p3 b1)) fun f3 c1 c2=>?_
  refine and3 (rv_mul fin_two hY.1 (by rw [rv_two];exact lqr [_,_,_] (.lt Tz T0 1 (.le (.a T1 T0) (.n 15500) 2 (.eq T2 (.s Tx (.d (.a (.a T1 T0) T1) 32768)) (-1) (.gle (.g (.n 1048576)) (.m Ty T2) 16384)))) rfl hdR hMR eY) (by rw [rv_two];exact lqr [_,_,_] (.lt Tz T0 1 (.le (.n 500) T1 2 (.eq T2 (.s Tx (.d (.a (.a T1 T0) T1) 32768)) 1 (.gle (.m Ty T2) (.n 1048576) 16384)))) rfl hdR hmR eY)) fun f4 d1 d2=>?_
  rw [rv_two] at d1 d2
  refine and3 (rv_sub f4 f3 (by exact lqr [_,_,_,_,_,_,_,_,_,_,_,_] (.le T0 (.a T1 Td) 1 (.le (.a T2 T3) (.n 15500) 524288 (.eq T4 (.s Tx (.d (.a (.a T2 T3) T2) 32768)) (-262144) (.le T5 (.a (.a T4 T0) Td) 1 (.le (.g (.m Td Tx)) T6 1 (.eq T7 (.s T1 (.d T3 32768)) (-262144) (.eq T8 (.a T6 T7) (-8589934592) (.le (.s T8 Td) T9 1 (.le (.v 10) (.a (.s T5 T9) Td) 1 (.le (.s (.m Ty T4) Td) (.v 11) 1 (.gle (.g (.n 1048576)) (.s (.v 11) (.v 10)) 8589934592))))))))))) rfl z2 hMR eY a2 p0.1 p2 p3 b1 c2 d1) (by exact lqr [_,_,_,_,_,_,_,_,_,_,_,_] (.le (.s T0 Td) T1 1 (.lt Tz T2 524288 (.le (.n 500) T3 524288 (.eq T4 (.s Tx (.d (.a (.a T3 T2) T3) 32768)) 262144 (.le (.s (.a T4 T1) Td) T5 1 (.le T6 (.m Td Tx) 1 (.eq T7 (.s T0 (.d T2 32768)) 262144 (.eq T8 (.a T6 T7) 8589934592 (.le T9 (.a T8 Td) 1 (.le (.s (.s T5 T9) Td) (.v 10) 1 (.le (.v 11) (.a (.m Ty T4) Td) 1 (.gle (.s (.v 11) (.v 10)) (.n 1048576) 8589934592)))))))))))) rfl z1 hdR hmR eY a1 p0.2 p2 p3 b2 c1 d2)) fun f5 g1 g2=>?_
  refine hG ⟨_,_,f5,f3,?_,?_,?_,?_,rfl⟩
  ·exact lqr [_,_,_,_,_,_,_,_,_,_,_,_,_] (.le (.s T0 Td) T1 512 (.eq T2 (.s Tx (.d (.a (.a T3 T4) T3) 32768)) 134217728 (.le (.s (.a T2 T1) Td) T5 512 (.le T6 (.m Td Tx) 512 (.eq T7 (.s T0 (.d T4 32768)) 134217728 (.eq T8 (.a T6 T7) 4398046511104 (.le T9 (.a T8 Td) 512 (.le (.s (.s T5 T9) Td) (.v 10) 512 (.le (.v 11) (.a (.m Ty T2) Td) 512 (.le (.v 12) (.a (.s (.v 11) (.v 10)) Td) 512 (.gle (.s (.v 12) (.s Tx (.d (.a T3 T4) 16384))) Te 1))))))))))) rfl z1 eY a1 p0.2 p2 p3 b2 c1 d2 g2
  ·exact lqr [_,_,_,_,_,_,_,_,_,_,_,_,_] (.le T0 (.a T1 Td) 512 (.eq T2 (.s Tx (.d (.a (.a T3 T4) T3) 32768)) (-134217728) (.le T5 (.a (.a T2 T0) Td) 512 (.le (.g (.m Td Tx)) T6 512 (.eq T7 (.s T1 (.d T4 32768)) (-134217728) (.eq T8 (.a T6 T7) (-4398046511104) (.le (.s T8 Td) T9 512 (.le (.v 10) (.a (.s T5 T9) Td) 512 (.le (.s (.m Ty T2) Td) (.v 11) 512 (.le (.s (.s (.v 11) (.v 10)) Td) (.v 12) 512 (.gle (.s (.s Tx (.d (.a T3 T4) 16384)) (.v 12)) Te 1))))))))))) rfl z2 eY a2 p0.1 p2 p3 b1 c2 d1 g1
  ·exact lqr [_,_,_,_,_,_,_,_,_,_,_] (.le T0 (.a T1 Td) 512 (.eq T2 (.s Tx (.d (.a (.a T3 T4) T3) 32768)) 134217728 (.le T5 (.a (.a T2 T0) Td) 512 (.le (.g (.m Td Tx)) T6 512 (.eq T7 (.s T1 (.d T4 32768)) (-134217728) (.eq T8 (.a T6 T7) (-4398046511104) (.le (.s T8 Td) T9 512 (.le (.v 10) (.a (.s T5 T9) Td) 512 (.gle (.s (.v 10) (.s Tx (.d T3 16384))) Te 1))))))))) rfl z2 eY a2 p0.1 p2 p3 b1 c2
  ·exact lqr [_,_,_,_,_,_,_,_,_,_,_] (.le (.s T0 Td) T1 512 (.eq T2 (.s Tx (.d (.a (.a T3 T4) T3) 32768)) (-134217728) (.le (.s (.a T2 T1) Td) T5 512 (.le T6 (.m Td Tx) 512 (.eq T7 (.s T0 (.d T4 32768)) 134217728 (.eq T8 (.a T6 T7) 4398046511104 (.le T9 (.a T8 Td) 512 (.le (.s (.s T5 T9) Td) (.v 10) 512 (.gle (.s (.s Tx (.d T3 16384)) (.v 10)) Te 1))))))))) rfl z1 eY a1 p0.2 p2 p3 b2 c1
 ·have e1:(decide (32768-(m+d+m)<16384) || decide (32768-(m+d+m)=16384))=true:=by
   by_cases q2:m+d+m=16384
   ·rw [decide_eq_true (p:=32768-(m+d+m)=16384) (by exact Int.le_antisymm (lqz [_,_] (.nlt (.a (.a T0 T1) T0) (.n 16384) 1 (.gle (.s (.n 32768) (.a (.a T0 T1) T0)) (.n 16384) 1)) rfl q) (lqz [_,_] (.eq (.a (.a T0 T1) T0) (.n 16384) 1 (.gle (.n 16384) (.s (.n 32768) (.a (.a T0 T1) T0)) 1)) rfl q2))];simp
   ·rw [decide_eq_true (p:=32768-(m+d+m)<16384) (by lia -abstractProof)];rfl
  rw [if_pos e1]
  have he2:e=32768-(m+d+m):=by unfold denI at he;split at he<;>(first|exact ct_Fl15_1 (by assumption) he q|exact ct_Fl15_2 he)
  have e3:((32768:Int):Rat)=32768:=rfl
  rw [he2,rat_sub_int,Rat.intCast_add,Rat.intCast_add,e3] at hr
  clear e1 hz he he2 e3
  refine goalP fun G hG=>?_
  refine and3 (rv_add fin_one fZ (by rw [rv_one];exact lqr [_,_] (.le (.s T0 Td) T1 625 (.le (.d Tx 40000) T0 134217728 (.gle (.g (.n 1048576)) (.a Tx T1) 5368709120000))) rfl z1 r1) (by rw [rv_one];exact lqr [_,_] (.le T0 (.a T1 Td) 1 (.le T1 Tx 8589934592 (.gle (.a Tx T0) (.n 1048576) 8589934592))) rfl z2 r9)) fun f1 a1 a2=>?_
  rw [rv_one] at a1 a2
  generalize add 4607182418800017408 Z=V at *
  have p0:=mul_abs (p:=Rv V-(1+ρ)) (v:=Rv Y) (e:=2*dR) (B:=1) (by exact lqr [_,_,_] (.le (.s T0 Td) T1 1 (.le (.s (.a Tx T1) Td) T2 1 (.gle (.g (.m Ty Td)) (.s T2 (.a Tx T0)) 1))) rfl z1 a1) (by exact lqr [_,_,_] (.le T0 (.a T1 Td) 1 (.le T2 (.a (.a Tx T0) Td) 1 (.gle (.s T2 (.a Tx T1)) (.m Ty Td) 1))) rfl z2 a2) (by exact lqr [_,_,_] (.lt Tz T0 1 (.le (.a T1 T0) (.n 15500) 2 (.eq T2 (.s Tx (.d (.a (.a T1 T0) T1) 32768)) (-1) (.gle (.g Tx) T2 32768)))) rfl hdR hMR eY) (by exact lqr [_,_,_] (.lt Tz T0 1 (.le (.n 500) T1 2 (.eq T2 (.s Tx (.d (.a (.a T1 T0) T1) 32768)) 1 (.gle T2 Tx 32768)))) rfl hdR hmR eY)
  have p2:ρ*Rv Y=(d:Rat)/32768:=by rw [eY];grind -abstractProof
  have p1:(1+ρ)*Rv Y=1-(m:Rat)/16384:=by grind -abstractProof
  have p3:Rv Y*Rv V=(Rv V-(1+ρ))*Rv Y+(1+ρ)*Rv Y:=by grind -abstractProof
  refine and3 (rv_mul hY.1 f1 (by exact lqr [_,_,_,_,_] (.lt Tz T0 524288 (.le (.a T1 T0) (.n 15500) 524288 (.le (.g (.m (.m Ty Td) Tx)) T2 1 (.eq T3 (.s Tx (.d T1 16384)) (-524288) (.eq T4 (.a T2 T3) (-8589934592) (.gle (.g (.n 1048576)) T4 8589934592)))))) rfl hdR hMR p0.1 p1 p3) (by exact lqr [_,_,_,_] (.le (.n 500) T0 524288 (.le T1 (.m (.m Ty Td) Tx) 1 (.eq T2 (.s Tx (.d T0 16384)) 524288 (.eq T3 (.a T1 T2) 8589934592 (.gle T3 (.n 1048576) 8589934592))))) rfl hmR p0.2 p1 p3)) fun f3 c1 c2=>?_
  refine and3 (rv_mul fin_two hY.1 (by rw [rv_two];exact lqr [_,_,_] (.lt Tz T0 1 (.le (.a T1 T0) (.n 15500) 2 (.eq T2 (.s Tx (.d (.a (.a T1 T0) T1) 32768)) (-1) (.gle (.g (.n 1048576)) (.m Ty T2) 16384)))) rfl hdR hMR eY) (by rw [rv_two];exact lqr [_,_,_] (.lt Tz T0 1 (.le (.n 500) T1 2 (.eq T2 (.s Tx (.d (.a (.a T1 T0) T1) 32768)) 1 (.gle (.m Ty T2) (.n 1048576) 16384)))) rfl hdR hmR eY)) fun f4 d1 d2=>?_
  rw [rv_two] at d1 d2
  refine and3 (rv_sub f4 f3 (by exact lqr [_,_,_,_,_,_,_,_] (.le (.a T0 T1) (.n 15500) 524288 (.eq T2 (.s Tx (.d (.a (.a T0 T1) T0) 32768)) (-524288) (.le T3 (.m (.m Ty Td) Tx) 1 (.eq T4 (.s Tx (.d T0 16384)) 524288 (.eq T5 (.a T3 T4) 8589934592 (.le T6 (.a T5 Td) 1 (.le (.s (.m Ty T2) Td) T7 1 (.gle (.g (.n 1048576)) (.s T7 T6) 8589934592)))))))) rfl hMR eY p0.2 p1 p3 c2 d1) (by exact lqr [_,_,_,_,_,_,_,_] (.lt Tz T0 524288 (.le (.n 500) T1 524288 (.eq T2 (.s Tx (.d (.a (.a T1 T0) T1) 32768)) 524288 (.le (.g (.m (.m Ty Td) Tx)) T3 1 (.eq T4 (.s Tx (.d T1 16384)) (-524288) (.eq T5 (.a T3 T4) (-8589934592) (.le (.s T5 Td) T6 1 (.le T7 (.a (.m Ty T2) Td) 1 (.gle (.s T7 T6) (.n 1048576) 8589934592))))))))) rfl hdR hmR eY p0.1 p1 p3 c1 d2)) fun f5 g1 g2=>?_
  refine hG ⟨_,_,f5,f3,?_,?_,?_,?_,rfl⟩
  ·exact lqr [_,_,_,_,_,_,_,_,_] (.eq T0 (.s Tx (.d (.a (.a T1 T2) T1) 32768)) 268435456 (.le (.g (.m (.m Ty Td) Tx)) T3 512 (.eq T4 (.s Tx (.d T1 16384)) (-268435456) (.eq T5 (.a T3 T4) (-4398046511104) (.le (.s T5 Td) T6 512 (.le T7 (.a (.m Ty T0) Td) 512 (.le T8 (.a (.s T7 T6) Td) 512 (.gle (.s T8 (.s Tx (.d (.a T1 T2) 16384))) Te 1)))))))) rfl eY p0.1 p1 p3 c1 d2 g2
  ·exact lqr [_,_,_,_,_,_,_,_,_] (.eq T0 (.s Tx (.d (.a (.a T1 T2) T1) 32768)) (-268435456) (.le T3 (.m (.m Ty Td) Tx) 512 (.eq T4 (.s Tx (.d T1 16384)) 268435456 (.eq T5 (.a T3 T4) 4398046511104 (.le T6 (.a T5 Td) 512 (.le (.s (.m Ty T0) Td) T7 512 (.le (.s (.s T7 T6) Td) T8 512 (.gle (.s (.s Tx (.d (.a T1 T2) 16384)) T8) Te 1)))))))) rfl eY p0.2 p1 p3 c2 d1 g1
  ·exact lqr [_,_,_,_,_] (.le T0 (.m (.m Ty Td) Tx) 512 (.eq T1 (.s Tx (.d T2 16384)) 268435456 (.eq T3 (.a T0 T1) 4398046511104 (.le T4 (.a T3 Td) 512 (.gle (.s T4 (.s Tx (.d T2 16384))) Te 1))))) rfl p0.2 p1 p3 c2
  ·exact lqr [_,_,_,_,_] (.le (.g (.m (.m Ty Td) Tx)) T0 512 (.eq T1 (.s Tx (.d T2 16384)) (-268435456) (.eq T3 (.a T0 T1) (-4398046511104) (.le (.s T3 Td) T4 512 (.gle (.s (.s Tx (.d T2 16384)) T4) Te 1))))) rfl p0.1 p1 p3 c1
end Mine
end
section
open PySem PySem.Float64 PySem.Flt
namespace Mine
private theorem two_k:∀ k:Fin 3,FinF (fdivI (2*(k.val:Int)) 3)∧twoK k-dR≤Rv (fdivI (2*(k.val:Int)) 3)∧Rv (fdivI (2*(k.val:Int)) 3)≤twoK k+dR
 | 0=>⟨⟨_,_,_,by with_unfolding_all rfl⟩,by decide +kernel,by decide +kernel⟩
 | 1=>⟨⟨_,_,_,by with_unfolding_all rfl⟩,by decide +kernel,by decide +kernel⟩
 | 2=>⟨⟨_,_,_,by with_unfolding_all rfl⟩,by decide +kernel,by decide +kernel⟩
noncomputable abbrev hueX (k2:Int) (hue:UInt64):UInt64:=(divmod (sub (add 4602678819172646912 (fdivI k2 3)) hue) 4607182418800017408).2
private theorem twoK_le:∀ k,0≤twoK k∧twoK k≤4/3:=by decide +kernel
private theorem turn_hue (k:Fin 3) {hue:UInt64} {θ:Rat} {z:Int} (fh:FinF hue) (n1:Rv hue-(θ-z)≤4*dR) (n2:(θ-z)-Rv hue≤4*dR) (h0:0≤Rv hue) (h1:Rv hue<1) :
  FinF (hueX (2*(k.val:Int)) hue)∧0≤Rv (hueX (2*(k.val:Int)) hue)+1∧Rv (hueX (2*(k.val:Int)) hue)≤2∧∃ z':Int,Rv (hueX (2*(k.val:Int)) hue)-(1/2+twoK k-θ-z')≤8*dR∧(1/2+twoK k-θ-z')-Rv (hueX (2*(k.val:Int)) hue)≤8*dR:=by
 refine and3 (two_k k) fun fk k1 k2=>?_
 have k3:=twoK_le k
 unfold hueX
 generalize fdivI (2*(k.val:Int)) 3=g at *
 generalize twoK k=τ at *
 refine and3 (rv_add fin_half fk (by rw [rv_half];exact lqr [_,_] (.le Tz T0 8589934592 (.le (.s T0 Td) T1 1 (.gle (.g (.n 1048576)) (.a (.d Tx 2) T1) 4294967296))) rfl k3.1 k1) (by rw [rv_half];exact lqr [_,_] (.le T0 (.d (.n 4) 3) 8589934592 (.le T1 (.a T0 Td) 3 (.gle (.a (.d Tx 2) T1) (.n 1048576) 12884901888))) rfl k3.2 k2)) fun fa a1 a2=>?_
 rw [rv_half] at a1 a2
 refine and3 (rv_sub fa fh (by exact lqr [_,_,_,_] (.lt T0 Tx 17179869184 (.le Tz T1 17179869184 (.le (.s T1 Td) T2 2 (.le (.s (.a (.d Tx 2) T2) Td) T3 1 (.gle (.g (.n 1048576)) (.s T3 T0) 17179869184))))) rfl h1 k3.1 k1 a1) (by exact lqr [_,_,_,_] (.le Tz T0 51539607552 (.le T1 (.d (.n 4) 3) 17179869184 (.le T2 (.a T1 Td) 6 (.le T3 (.a (.a (.d Tx 2) T2) Td) 3 (.gle (.s T3 T0) (.n 1048576) 51539607552))))) rfl h0 k3.2 k2 a2)) fun fs s1 s2=>?_
 generalize sub (add 4602678819172646912 g) hue=u at *
 refine goalP fun G9 hG9=>?_
 obtain ⟨fm,y,m1,m2,m3,m4,m5⟩:=rv_mod fs (by exact lqr [_,_,_,_,_] (.lt T0 Tx 17179869184 (.le Tz T1 17179869184 (.le (.s T1 Td) T2 2 (.le (.s (.a (.d Tx 2) T2) Td) T3 1 (.le (.s (.s T3 T0) Td) T4 2 (.gle (.g (.n 1048576)) T4 17179869184)))))) rfl h1 k3.1 k1 a1 s1) (by exact lqr [_,_,_,_,_] (.le Tz T0 51539607552 (.le T1 (.d (.n 4) 3) 17179869184 (.le T2 (.a T1 Td) 6 (.le T3 (.a (.a (.d Tx 2) T2) Td) 3 (.le T4 (.a (.s T3 T0) Td) 6 (.gle T4 (.n 1048576) 51539607552)))))) rfl h0 k3.2 k2 a2 s2)
 refine hG9 ?_
 clear hG9
 refine ⟨fm,by exact lqr [_,_,_] (.le Tz (.s T0 T1) 8589934592 (.le (.s (.s T0 T1) Td) T2 1 (.gle Tz (.a T2 Tx) 8589934592))) rfl m1 m3,by exact lqr [_,_,_] (.lt (.s T0 T1) Tx 8589934592 (.le T2 (.a (.s T0 T1) Td) 1 (.gle T2 Ty 8589934592))) rfl m2 m4,y-z,?_,?_⟩<;>rw [rat_sub_int]<;>(first|exact lqr [_,_,_,_,_,_,_,_,_] (.le (.s (.s T0 T1) T2) (.m (.n 4) Td) 2 (.le T3 (.a T4 Td) 2 (.le T5 (.a (.a (.d Tx 2) T3) Td) 1 (.le T6 (.a (.s T5 T2) Td) 2 (.le T7 (.a (.s T6 T8) Td) 2 (.gle (.s T7 (.s (.s (.a (.d Tx 2) T4) T0) (.s T8 T1))) (.m (.n 8) Td) 1)))))) rfl n2 k2 a2 s2 m4|exact lqr [_,_,_,_,_,_,_,_,_] (.le (.s T0 (.s T1 T2)) (.m (.n 4) Td) 2 (.le (.s T3 Td) T4 2 (.le (.s (.a (.d Tx 2) T4) Td) T5 1 (.le (.s (.s T5 T0) Td) T6 2 (.le (.s (.s T6 T7) Td) T8 2 (.gle (.s (.s (.s (.a (.d Tx 2) T3) T1) (.s T7 T2)) T8) (.m (.n 8) Td) 1)))))) rfl n1 k1 a1 s1 m3)
private theorem max_plus2 (k x y:Int):max (k+x) (k+y)=k+max x y:=by
 rcases Int.le_total x y with h|h
 ·rw [Int.max_eq_right h,Int.max_eq_right (Int.add_le_add_left h k)]
 ·rw [Int.max_eq_left h,Int.max_eq_left (Int.add_le_add_left h k)]
private theorem min_plus2 (k x y:Int):min (k+x) (k+y)=k+min x y:=by
 rcases Int.le_total x y with h|h
 ·rw [Int.min_eq_left h,Int.min_eq_left (Int.add_le_add_left h k)]
 ·rw [Int.min_eq_right h,Int.min_eq_right (Int.add_le_add_left h k)]
private theorem max_twice2 (x y:Int):max (2*x) (2*y)=2*max x y:=by
 rcases Int.le_total x y with h|h
 ·rw [Int.max_eq_right h,Int.max_eq_right (Int.mul_le_mul_of_nonneg_left h (by decide))]
 ·rw [Int.max_eq_left h,Int.max_eq_left (Int.mul_le_mul_of_nonneg_left h (by decide))]
private theorem min_twice2 (x y:Int):min (2*x) (2*y)=2*min x y:=by
 rcases Int.le_total x y with h|h
 ·rw [Int.min_eq_left h,Int.min_eq_left (Int.mul_le_mul_of_nonneg_left h (by decide))]
 ·rw [Int.min_eq_right h,Int.min_eq_right (Int.mul_le_mul_of_nonneg_left h (by decide))]
private theorem max_plus (x y z:Int):max (8192+x) (max (8192+y) (8192+z))=8192+max x (max y z):=by rw [max_plus2,max_plus2]
private theorem min_plus (x y z:Int):min (8192+x) (min (8192+y) (8192+z))=8192+min x (min y z):=by rw [min_plus2,min_plus2]
private theorem max_twice (x y z:Int):max (2*x) (max (2*y) (2*z))=2*max x (max y z):=by rw [max_twice2,max_twice2]
private theorem min_twice (x y z:Int):min (2*x) (min (2*y) (2*z))=2*min x (min y z):=by rw [min_twice2,min_twice2]
private theorem rgb_diff {x y z:UInt64} {a b c m d:Int} (hx:Ex x (2*a)) (hy:Ex y (2*b)) (hz:Ex z (2*c))
  (h1:500≤a) (h2:a≤15500) (h3:500≤b) (h4:b≤15500) (h5:500≤c) (h6:c≤15500)
  (eM:m+d=max a (max b c)) (em:m=min a (min b c)) (hd:0<d) :
  Ex (bestBits gtB x [y,z]) (2*(m+d))∧Ex (bestBits ltB x [y,z]) (2*m)∧RgbOk x y z∧∃ l,Ex l (m+d+m)∧rgbF x y z=((divmod (div (hueF x y z) 4618441417868443648) 4607182418800017408).2,l,fdivI d (denI (m+d+m))):=by
 have hM:=best_max hx hy hz
 have hm:=best_min hx hy hz
 have hb:500≤m∧m+d≤15500:=by
  refine and2 (max_of eM) fun _ kM=>?_
  refine and2 (min_of em) fun _ km=>?_
  clear eM em
  constructor
  ·rcases km with h|h|h<;>(first|exact lqz [_,_] (.le (.n 500) T0 1 (.eq T0 T1 1 (.gle (.n 500) T1 1))) rfl h1 h|exact lqz [_,_] (.le (.n 500) T0 1 (.eq T0 T1 1 (.gle (.n 500) T1 1))) rfl h3 h|exact lqz [_,_] (.le (.n 500) T0 1 (.eq T0 T1 1 (.gle (.n 500) T1 1))) rfl h5 h)
  ·rcases kM with h|h|h<;>(first|exact lqz [_,_,_] (.le T0 (.n 15500) 1 (.eq T0 (.a T1 T2) (-1) (.gle (.a T1 T2) (.n 15500) 1))) rfl h2 h|exact lqz [_,_,_] (.le T0 (.n 15500) 1 (.eq T0 (.a T1 T2) (-1) (.gle (.a T1 T2) (.n 15500) 1))) rfl h4 h|exact lqz [_,_,_] (.le T0 (.n 15500) 1 (.eq T0 (.a T1 T2) (-1) (.gle (.a T1 T2) (.n 15500) 1))) rfl h6 h)
 rw [max_twice,←eM] at hM
 rw [min_twice,←em] at hm
 clear eM em hx hy hz h1 h2 h3 h4 h5 h6
 have hS:=ex_add hM hm (abs30 (by exact lqz [_,_] (.lt Tz T0 2 (.le (.n 500) T1 4 (.gle (.g (.n 100000)) (.a (.m Ty (.a T1 T0)) (.m Ty T1)) 1))) rfl hd hb.1) (by exact lqz [_,_] (.lt Tz T0 2 (.le (.a T1 T0) (.n 15500) 4 (.gle (.a (.m Ty (.a T1 T0)) (.m Ty T1)) (.n 100000) 1))) rfl hd hb.2))
 have hD:=ex_sub hM hm (abs30 (by exact lqz [_,_] (.lt Tz T0 2 (.gle (.g (.n 100000)) (.s (.m Ty (.a T1 T0)) (.m Ty T1)) 1)) rfl hd) (by exact lqz [_,_] (.le (.n 500) T0 2 (.le (.a T0 T1) (.n 15500) 2 (.gle (.s (.m Ty (.a T0 T1)) (.m Ty T0)) (.n 100000) 1))) rfl hb.1 hb.2))
 have hT:=ex_sub (ex_sub ex_two hM (abs30 (by exact lqz [_,_] (.le (.a T0 T1) (.n 15500) 2 (.gle (.g (.n 100000)) (.s (.n 65536) (.m Ty (.a T0 T1))) 1)) rfl hb.2) (by exact lqz [_,_] (.lt Tz T0 2 (.le (.n 500) T1 2 (.gle (.s (.n 65536) (.m Ty (.a T1 T0))) (.n 100000) 1))) rfl hd hb.1))) hm (abs30 (by exact lqz [_,_] (.lt Tz T0 2 (.le (.a T1 T0) (.n 15500) 4 (.gle (.g (.n 100000)) (.s (.s (.n 65536) (.m Ty (.a T1 T0))) (.m Ty T1)) 1))) rfl hd hb.2) (by exact lqz [_,_] (.lt Tz T0 2 (.le (.n 500) T1 4 (.gle (.s (.s (.n 65536) (.m Ty (.a T1 T0))) (.m Ty T1)) (.n 100000) 1))) rfl hd hb.1))
 have he:(cmp (bestBits ltB x [y,z]) (bestBits gtB x [y,z]) == some Ordering.eq)=false:=by rw [ex_eq hm hM,decide_eq_false (Int.ne_of_lt (by exact lqz [_,_] (.lt Tz T0 2 (.glt (.m Ty T1) (.m Ty (.a T1 T0)) 1)) rfl hd))]
 have hL:Ex (div (add (bestBits gtB x [y,z]) (bestBits ltB x [y,z])) 4611686018427387904) (m+d+m):=by
  refine ex_div2 ?_ (by exact lqz [_,_] (.lt Tz T0 1 (.le (.n 500) T1 2 (.glt Tz (.a (.a T1 T0) T1) 1))) rfl hd hb.1) (by exact lqz [_,_] (.lt Tz T0 1 (.le (.a T1 T0) (.n 15500) 2 (.gle (.a (.a T1 T0) T1) (.n 100000) 1))) rfl hd hb.2)
  rw [show 2*(m+d+m)=2*(m+d)+2*m by exact Int.le_antisymm (lqz [_,_] (.gle (.m Ty (.a (.a T0 T1) T0)) (.a (.m Ty (.a T0 T1)) (.m Ty T0)) 1) rfl) (lqz [_,_] (.gle (.a (.m Ty (.a T0 T1)) (.m Ty T0)) (.m Ty (.a (.a T0 T1) T0)) 1) rfl)]
  exact hS
 refine ⟨hM,hm,⟨ex_nz hS (Int.ne_of_gt (by exact lqz [_,_] (.lt Tz T0 2 (.le (.n 500) T1 4 (.glt Tz (.a (.m Ty (.a T1 T0)) (.m Ty T1)) 1))) rfl hd hb.1)),ex_nz hT (Int.ne_of_gt (by exact lqz [_,_] (.lt Tz T0 2 (.le (.a T1 T0) (.n 15500) 4 (.glt Tz (.s (.s (.n 65536) (.m Ty (.a T1 T0))) (.m Ty T1)) 1))) rfl hd hb.2)),fun _=>ex_nz hD (Int.ne_of_gt (by exact lqz [_,_] (.lt Tz T0 2 (.glt Tz (.s (.m Ty (.a T1 T0)) (.m Ty T1)) 1)) rfl hd))⟩,_,hL,?_⟩
 unfold rgbF
 dsimp only
 rw [if_neg (by rw [he];simp),ex_lt hL ex_half,ex_eq hL ex_half]
 have hD2:Ex (sub (bestBits gtB x [y,z]) (bestBits ltB x [y,z])) (2*d):=by
  rw [show 2*d=2*(m+d)-2*m by exact Int.le_antisymm (lqz [_,_] (.gle (.m Ty T0) (.s (.m Ty (.a T1 T0)) (.m Ty T1)) 1) rfl) (lqz [_,_] (.gle (.s (.m Ty (.a T0 T1)) (.m Ty T0)) (.m Ty T1) 1) rfl)];exact hD
 refine Prod.ext rfl (Prod.ext rfl ?_)
 dsimp only
 by_cases q:m+d+m≤16384
 ·have e1:(decide (m+d+m<16384) || decide (m+d+m=16384))=true:=by
   by_cases q2:m+d+m=16384
   ·rw [decide_eq_true q2];simp
   ·rw [decide_eq_true (show m+d+m<16384 by lia -abstractProof)];rfl
  rw [if_pos e1]
  have e2:denI (m+d+m)=m+d+m:=by unfold denI;rw [if_pos q]
  rw [e2]
  refine share_is hD2 ?_ hd (by exact lqz [_,_] (.lt Tz T0 1 (.le (.n 500) T1 2 (.glt Tz (.a (.a T1 T0) T1) 1))) rfl hd hb.1)
  rw [show 2*(m+d+m)=2*(m+d)+2*m by exact Int.le_antisymm (lqz [_,_] (.gle (.m Ty (.a (.a T0 T1) T0)) (.a (.m Ty (.a T0 T1)) (.m Ty T0)) 1) rfl) (lqz [_,_] (.gle (.a (.m Ty (.a T0 T1)) (.m Ty T0)) (.m Ty (.a (.a T0 T1) T0)) 1) rfl)];exact hS
 ·have e1:(decide (m+d+m<16384) || decide (m+d+m=16384))=false:=by
   rw [decide_eq_false (by exact Int.not_lt.mpr (lqz [_,_] (.nle (.a (.a T0 T1) T0) (.n 16384) 1 (.gle (.n 16384) (.a (.a T0 T1) T0) 1)) rfl q)),decide_eq_false (by lia -abstractProof)];rfl
  rw [if_neg (by rw [e1];simp)]
  have e2:denI (m+d+m)=32768-(m+d+m):=by unfold denI;rw [if_neg q]
  rw [e2]
  refine share_is hD2 ?_ hd (by exact lqz [_,_] (.lt Tz T0 1 (.le (.a T1 T0) (.n 15500) 2 (.glt Tz (.s (.n 32768) (.a (.a T1 T0) T1)) 1))) rfl hd hb.2)
  rw [show 2*(32768-(m+d+m))=65536-2*(m+d)-2*m by exact Int.le_antisymm (lqz [_,_] (.gle (.m Ty (.s (.n 32768) (.a (.a T0 T1) T0))) (.s (.s (.n 65536) (.m Ty (.a T0 T1))) (.m Ty T0)) 1) rfl) (lqz [_,_] (.gle (.s (.s (.n 65536) (.m Ty (.a T0 T1))) (.m Ty T0)) (.m Ty (.s (.n 32768) (.a (.a T0 T1) T0))) 1) rfl)];exact hT
private theorem not_ne {x:Option Ordering} (h:(x == some Ordering.eq)=true):(x != some Ordering.eq)=false:=by unfold bne;rw [h];rfl
private theorem self_eq {x:UInt64} (h:FinF x):(cmp x x == some Ordering.eq)=true:=by rw [rv_eq h h];exact decide_eq_true rfl
private theorem hue_low {h:UInt64} (fh:FinF h) (h0:0≤Rv h):(cmp 0 h == some Ordering.lt || cmp 0 h == some Ordering.eq)=true:=by
 rw [rv_eq fin_nought fh]
 have e:(cmp 0 h == some Ordering.lt)=decide (val 0<val h):=lt_fin fin_nought fh
 rw [e]
 have h1:=nonneg_of_rv h0
 have h2:val 0=0:=by decide +kernel
 rw [h2]
 by_cases q:val h=0
 ·rw [decide_eq_true (show (0:Int)=val h by exact Int.le_antisymm (lqz [_] (.le Tz T0 1 (.gle Tz T0 1)) rfl h1) (lqz [_] (.eq T0 Tz 1 (.gle T0 Tz 1)) rfl q))];simp
 ·rw [decide_eq_true (show (0:Int)<val h by lia -abstractProof)];rfl
private theorem pick_case {P:Int→Rat→Prop} {a b c:Int} {ra rb rc:Rat} (h0:P a ra) (h1:P b rb) (h2:P c rc) (j:Fin 3):P (pick3 a b c j) (pick3 ra rb rc j):=match j with|0=>h0|1=>h1|2=>h2
private theorem spread {s0 s1 s2 m d:Int} (em:m=min (8192+s0) (min (8192+s1) (8192+s2))) (eM:m+d=max (8192+s0) (max (8192+s1) (8192+s2))) :
  max s0 (max s1 s2)-min s0 (min s1 s2)=d∧16384-absI (max s0 (max s1 s2)+min s0 (min s1 s2))=denI (m+d+m)∧m+d+m=16384+(max s0 (max s1 s2)+min s0 (min s1 s2)):=by
 rw [max_plus] at eM
 rw [min_plus] at em
 generalize max s0 (max s1 s2)=u at *
 generalize min s0 (min s1 s2)=v at *
 refine ⟨by exact Int.le_antisymm (lqz [_,_,_,_] (.eq (.a T0 T1) (.a (.n 8192) T2) (-1) (.eq T0 (.a (.n 8192) T3) 1 (.gle (.s T2 T3) T1 1))) rfl eM em) (lqz [_,_,_,_] (.eq (.a T0 T1) (.a (.n 8192) T2) 1 (.eq T0 (.a (.n 8192) T3) (-1) (.gle T1 (.s T2 T3) 1))) rfl eM em),?_,by exact Int.le_antisymm (lqz [_,_,_,_] (.eq (.a T0 T1) (.a (.n 8192) T2) 1 (.eq T0 (.a (.n 8192) T3) 1 (.gle (.a (.a T0 T1) T0) (.a (.n 16384) (.a T2 T3)) 1))) rfl eM em) (lqz [_,_,_,_] (.eq (.a T0 T1) (.a (.n 8192) T2) (-1) (.eq T0 (.a (.n 8192) T3) (-1) (.gle (.a (.n 16384) (.a T2 T3)) (.a (.a T0 T1) T0) 1))) rfl eM em)⟩
 unfold absI denI
 split<;>rename_i h1<;>split<;>rename_i h2<;>(first|exact Int.le_antisymm (lqz [_,_,_,_] (.eq (.a T0 T1) (.a (.n 8192) T2) (-1) (.eq T0 (.a (.n 8192) T3) (-1) (.gle (.s (.n 16384) (.g (.a T2 T3))) (.a (.a T0 T1) T0) 1))) rfl eM em) (lqz [_,_,_,_] (.eq (.a T0 T1) (.a (.n 8192) T2) 1 (.eq T0 (.a (.n 8192) T3) 1 (.gle (.a (.a T0 T1) T0) (.s (.n 16384) (.g (.a T2 T3))) 1))) rfl eM em)|exact Int.le_antisymm (lqz [_,_,_,_] (.eq (.a T0 T1) (.a (.n 8192) T2) 1 (.eq T0 (.a (.n 8192) T3) 1 (.lt (.a T2 T3) Tz 2 (.gle (.s (.n 16384) (.g (.a T2 T3))) (.s (.n 32768) (.a (.a T0 T1) T0)) 1)))) rfl eM em h1) (lqz [_,_,_,_] (.eq (.a T0 T1) (.a (.n 8192) T2) 1 (.eq T0 (.a (.n 8192) T3) 1 (.nle (.a (.a T0 T1) T0) (.n 16384) 2 (.gle (.s (.n 32768) (.a (.a T0 T1) T0)) (.s (.n 16384) (.g (.a T2 T3))) 1)))) rfl eM em h2)|exact Int.le_antisymm (lqz [_,_,_,_] (.eq (.a T0 T1) (.a (.n 8192) T2) (-1) (.eq T0 (.a (.n 8192) T3) (-1) (.nlt (.a T2 T3) Tz 2 (.gle (.s (.n 16384) (.a T2 T3)) (.a (.a T0 T1) T0) 1)))) rfl eM em h1) (lqz [_,_,_,_] (.eq (.a T0 T1) (.a (.n 8192) T2) (-1) (.eq T0 (.a (.n 8192) T3) (-1) (.le (.a (.a T0 T1) T0) (.n 16384) 2 (.gle (.a (.a T0 T1) T0) (.s (.n 16384) (.a T2 T3)) 1)))) rfl eM em h2)|exact Int.le_antisymm (lqz [_,_,_,_] (.eq (.a T0 T1) (.a (.n 8192) T2) 1 (.eq T0 (.a (.n 8192) T3) 1 (.gle (.s (.n 16384) (.a T2 T3)) (.s (.n 32768) (.a (.a T0 T1) T0)) 1))) rfl eM em) (lqz [_,_,_,_] (.eq (.a T0 T1) (.a (.n 8192) T2) (-1) (.eq T0 (.a (.n 8192) T3) (-1) (.gle (.s (.n 32768) (.a (.a T0 T1) T0)) (.s (.n 16384) (.a T2 T3)) 1))) rfl eM em))
private theorem turn_ok (k:Fin 3) {s0 s1 s2:Int} (b0 : -6000≤s0∧s0≤6000) (b1 : -6000≤s1∧s1≤6000) (b2 : -6000≤s2∧s2≤6000) :
  TurnOk (2*(k.val:Int)) s0 s1 s2 (8192-pick3 s0 s1 s2 (othr k 0)) (8192-pick3 s0 s1 s2 (othr k 1)) (8192-pick3 s0 s1 s2 (othr k 2)):=by
 have x0:=seen_ex (v:=s0) (by exact lqz [_] (.le (.g (.n 6000)) T0 1 (.gle (.g (.n 10000)) T0 1)) rfl b0.1) (by exact lqz [_] (.le T0 (.n 6000) 1 (.gle T0 (.n 10000) 1)) rfl b0.2)
 have x1:=seen_ex (v:=s1) (by exact lqz [_] (.le (.g (.n 6000)) T0 1 (.gle (.g (.n 10000)) T0 1)) rfl b1.1) (by exact lqz [_] (.le T0 (.n 6000) 1 (.gle T0 (.n 10000) 1)) rfl b1.2)
 have x2:=seen_ex (v:=s2) (by exact lqz [_] (.le (.g (.n 6000)) T0 1 (.gle (.g (.n 10000)) T0 1)) rfl b2.1) (by exact lqz [_] (.le T0 (.n 6000) 1 (.gle T0 (.n 10000) 1)) rfl b2.2)
 by_cases hs:s0=s1∧s1=s2
 ·obtain ⟨rfl,rfl⟩:=hs
  obtain ⟨hz,l,hl,hL⟩:=rgb_same x0 x1 x2 (by exact lqz [_] (.le (.g (.n 6000)) T0 1 (.gle (.n 500) (.a (.n 8192) T0) 1)) rfl b0.1) (by exact lqz [_] (.le T0 (.n 6000) 1 (.gle (.a (.n 8192) T0) (.n 15500) 1)) rfl b0.2)
  have hY:Ex (sub 4607182418800017408 l) (2*(8192-s0)):=by
   rw [show 2*(8192-s0)=32768-2*(8192+s0) by exact Int.le_antisymm (lqz [_] (.gle (.m Ty (.s (.n 8192) T0)) (.s (.n 32768) (.m Ty (.a (.n 8192) T0))) 1) rfl) (lqz [_] (.gle (.s (.n 32768) (.m Ty (.a (.n 8192) T0))) (.m Ty (.s (.n 8192) T0)) 1) rfl)]
   exact ex_sub ex_one hL (abs30 (by exact lqz [_] (.le T0 (.n 6000) 2 (.gle (.g (.n 100000)) (.s (.n 32768) (.m Ty (.a (.n 8192) T0))) 1)) rfl b0.2) (by exact lqz [_] (.le (.g (.n 6000)) T0 2 (.gle (.s (.n 32768) (.m Ty (.a (.n 8192) T0))) (.n 100000) 1)) rfl b0.1))
  have hf:∀ X,hlsF X (sub 4607182418800017408 l) 0=(sub 4607182418800017408 l,sub 4607182418800017408 l,sub 4607182418800017408 l):=by
   intro X
   unfold hlsF
   rw [if_pos (self_eq fin_nought)]
  have hi:IntIs (add (mul (ofInt 16384) (sub 4607182418800017408 l)) 4602678819172646912) (8192-s0):=by
   refine int_from hY.1 (by exact lqz [_] (.le T0 (.n 6000) 1 (.gle Tz (.s (.n 8192) T0) 1)) rfl b0.2) (by exact lqz [_] (.le (.g (.n 6000)) T0 1 (.gle (.s (.n 8192) T0) (.n 30000) 1)) rfl b0.1) ?_ ?_<;>rw [rv_of_ex hY]<;>exact lqr [_] (.gle (.s (.d T0 16384) (.d T0 16384)) (.d Tx 1048576) 1) rfl
  have hp:∀ j,pick3 s0 s0 s0 j=s0:=fun j=>match j with|0=>rfl|1=>rfl|2=>rfl
  have em:max s0 (max s0 s0)=s0:=by rw [Int.max_self,Int.max_self]
  have en:min s0 (min s0 s0)=s0:=by rw [Int.min_self,Int.min_self]
  refine ⟨hz,?_,?_,?_,?_,?_,?_,?_⟩
  ·rw [hl]
   refine not_ne ?_
   rw [em,en]
   dsimp only
   rw [ex_eq hL (both_ex (by exact lqz [_] (.le (.g (.n 6000)) T0 2 (.gle (.g (.n 20000)) (.a T0 T0) 1)) rfl b0.1) (by exact lqz [_] (.le T0 (.n 6000) 2 (.gle (.a T0 T0) (.n 20000) 1)) rfl b0.2)),decide_eq_true_iff]
   exact Int.le_antisymm (lqz [_] (.gle (.m Ty (.a (.n 8192) T0)) (.a (.n 16384) (.a T0 T0)) 1) rfl) (lqz [_] (.gle (.a (.n 16384) (.a T0 T0)) (.m Ty (.a (.n 8192) T0)) 1) rfl)
  ·rw [hl]
   refine not_ne ?_
   rw [em,en]
   dsimp only
   have e0:Ex (fdivI (s0-s0) (16384-absI (s0+s0))) 0:=by
    rw [show s0-s0=0 by exact Int.le_antisymm (lqz [_] (.gle (.s T0 T0) Tz 1) rfl) (lqz [_] (.gle Tz (.s T0 T0) 1) rfl)]
    unfold fdivI
    refine ex_frac ?_ (by lia -abstractProof) ?_ (by simp)
    ·unfold absI;split<;>lia -abstractProof
    ·unfold sgn;split<;>rfl
   rw [ex_eq ex_nought e0];rfl
  ·rw [hl];dsimp only;rw [hf,hp];exact hi
  ·rw [hl];dsimp only;rw [hf,hp];exact hi
  ·rw [hl];dsimp only;rw [hf,hp];exact hi
  ·rw [hl];dsimp only;decide +kernel
  ·rw [hl];dsimp only;decide +kernel
 ·refine goalP fun G hG=>?_
  obtain ⟨m,em⟩:∃ m,m=min (8192+s0) (min (8192+s1) (8192+s2)):=⟨_,rfl⟩
  obtain ⟨d,eM⟩:∃ d,m+d=max (8192+s0) (max (8192+s1) (8192+s2)):=⟨max (8192+s0) (max (8192+s1) (8192+s2))-m,by exact Int.le_antisymm (lqz [_,_] (.gle (.a T0 (.s T1 T0)) T1 1) rfl) (lqz [_,_] (.gle T0 (.a T1 (.s T0 T1)) 1) rfl)⟩
  refine and3 (spread em eM) fun spr1 spr2 spr3=>?_
  refine and2 (max_of eM) fun kM kM2=>?_
  refine and2 (min_of em) fun km km2=>?_
  have hm0:2000≤m:=by clear kM kM2 eM em hs;rcases km2 with h|h|h<;>(first|exact lqz [_,_] (.le (.g (.n 6000)) T0 1 (.eq (.a (.n 8192) T0) T1 1 (.gle (.n 2000) T1 1))) rfl b0.1 h|exact lqz [_,_] (.le (.g (.n 6000)) T0 1 (.eq (.a (.n 8192) T0) T1 1 (.gle (.n 2000) T1 1))) rfl b1.1 h|exact lqz [_,_] (.le (.g (.n 6000)) T0 1 (.eq (.a (.n 8192) T0) T1 1 (.gle (.n 2000) T1 1))) rfl b2.1 h)
  have hm9:m+d≤14200:=by clear km km2 eM em hs;rcases kM2 with h|h|h<;>(first|exact lqz [_,_,_] (.le T0 (.n 6000) 1 (.eq (.a (.n 8192) T0) (.a T1 T2) (-1) (.gle (.a T1 T2) (.n 14200) 1))) rfl b0.2 h|exact lqz [_,_,_] (.le T0 (.n 6000) 1 (.eq (.a (.n 8192) T0) (.a T1 T2) (-1) (.gle (.a T1 T2) (.n 14200) 1))) rfl b1.2 h|exact lqz [_,_,_] (.le T0 (.n 6000) 1 (.eq (.a (.n 8192) T0) (.a T1 T2) (-1) (.gle (.a T1 T2) (.n 14200) 1))) rfl b2.2 h)
  have hd:0<d:=by clear km2 kM2 eM em;refine Int.not_le.mp fun hle=>hs ⟨?_,?_⟩<;>(first|exact Int.le_antisymm (lqz [_,_,_,_] (.le (.a (.n 8192) T0) (.a T1 T2) 1 (.le T1 (.a (.n 8192) T3) 1 (.le T2 Tz 1 (.gle T0 T3 1)))) rfl kM.1 km.2.1 hle) (lqz [_,_,_,_] (.le (.a (.n 8192) T0) (.a T1 T2) 1 (.le T1 (.a (.n 8192) T3) 1 (.le T2 Tz 1 (.gle T0 T3 1)))) rfl kM.2.1 km.1 hle)|exact Int.le_antisymm (lqz [_,_,_,_] (.le (.a (.n 8192) T0) (.a T1 T2) 1 (.le T1 (.a (.n 8192) T3) 1 (.le T2 Tz 1 (.gle T0 T3 1)))) rfl kM.2.1 km.2.2 hle) (lqz [_,_,_,_] (.le (.a (.n 8192) T0) (.a T1 T2) 1 (.le T1 (.a (.n 8192) T3) 1 (.le T2 Tz 1 (.gle T0 T3 1)))) rfl kM.2.2 km.2.1 hle))
  have hd9:d≤12000:=by
   have g1:2192≤m:=by clear kM kM2 eM em hs;rcases km2 with h|h|h<;>(first|exact lqz [_,_] (.le (.g (.n 6000)) T0 1 (.eq (.a (.n 8192) T0) T1 1 (.gle (.n 2192) T1 1))) rfl b0.1 h|exact lqz [_,_] (.le (.g (.n 6000)) T0 1 (.eq (.a (.n 8192) T0) T1 1 (.gle (.n 2192) T1 1))) rfl b1.1 h|exact lqz [_,_] (.le (.g (.n 6000)) T0 1 (.eq (.a (.n 8192) T0) T1 1 (.gle (.n 2192) T1 1))) rfl b2.1 h)
   have g2:m+d≤14192:=by clear km km2 eM em hs;rcases kM2 with h|h|h<;>(first|exact lqz [_,_,_] (.le T0 (.n 6000) 1 (.eq (.a (.n 8192) T0) (.a T1 T2) (-1) (.gle (.a T1 T2) (.n 14192) 1))) rfl b0.2 h|exact lqz [_,_,_] (.le T0 (.n 6000) 1 (.eq (.a (.n 8192) T0) (.a T1 T2) (-1) (.gle (.a T1 T2) (.n 14192) 1))) rfl b1.2 h|exact lqz [_,_,_] (.le T0 (.n 6000) 1 (.eq (.a (.n 8192) T0) (.a T1 T2) (-1) (.gle (.a T1 T2) (.n 14192) 1))) rfl b2.2 h)
   clear kM kM2 km km2 eM em hs
   exact lqz [_,_] (.le (.n 2192) T0 1 (.le (.a T0 T1) (.n 14192) 1 (.gle T1 (.n 12000) 1))) rfl g1 g2
  clear kM2 km2
  obtain ⟨hM,hm,hz,l,hL,hrgb⟩:=rgb_diff x0 x1 x2 (by clear eM em km kM hs;exact lqz [_] (.le (.g (.n 6000)) T0 1 (.gle (.n 500) (.a (.n 8192) T0) 1)) rfl b0.1) (by clear eM em km kM hs;exact lqz [_] (.le T0 (.n 6000) 1 (.gle (.a (.n 8192) T0) (.n 15500) 1)) rfl b0.2) (by clear eM em km kM hs;exact lqz [_] (.le (.g (.n 6000)) T0 1 (.gle (.n 500) (.a (.n 8192) T0) 1)) rfl b1.1) (by clear eM em km kM hs;exact lqz [_] (.le T0 (.n 6000) 1 (.gle (.a (.n 8192) T0) (.n 15500) 1)) rfl b1.2) (by clear eM em km kM hs;exact lqz [_] (.le (.g (.n 6000)) T0 1 (.gle (.n 500) (.a (.n 8192) T0) 1)) rfl b2.1) (by clear eM em km kM hs;exact lqz [_] (.le T0 (.n 6000) 1 (.gle (.a (.n 8192) T0) (.n 15500) 1)) rfl b2.2) eM em hd
  obtain ⟨ra,pa,_⟩:=norm_frac (n:=8192+s0-m) hd (by clear eM em hs;exact lqz [_] (.le T0 (.n 12000) 1 (.gle T0 (.n 15000) 1)) rfl hd9) (by clear eM em hs;exact lqz [_,_] (.le T0 (.a (.n 8192) T1) 1 (.gle Tz (.s (.a (.n 8192) T1) T0) 1)) rfl km.1) (by clear eM em hs;exact lqz [_,_,_] (.le (.a (.n 8192) T0) (.a T1 T2) 1 (.gle (.s (.a (.n 8192) T0) T1) T2 1)) rfl kM.1)
  obtain ⟨rb,pb,_⟩:=norm_frac (n:=8192+s1-m) hd (by clear eM em hs;exact lqz [_] (.le T0 (.n 12000) 1 (.gle T0 (.n 15000) 1)) rfl hd9) (by clear eM em hs;exact lqz [_,_] (.le T0 (.a (.n 8192) T1) 1 (.gle Tz (.s (.a (.n 8192) T1) T0) 1)) rfl km.2.1) (by clear eM em hs;exact lqz [_,_,_] (.le (.a (.n 8192) T0) (.a T1 T2) 1 (.gle (.s (.a (.n 8192) T0) T1) T2 1)) rfl kM.2.1)
  obtain ⟨rc,pc,_⟩:=norm_frac (n:=8192+s2-m) hd (by clear eM em hs;exact lqz [_] (.le T0 (.n 12000) 1 (.gle T0 (.n 15000) 1)) rfl hd9) (by clear eM em hs;exact lqz [_,_] (.le T0 (.a (.n 8192) T1) 1 (.gle Tz (.s (.a (.n 8192) T1) T0) 1)) rfl km.2.2) (by clear eM em hs;exact lqz [_,_,_] (.le (.a (.n 8192) T0) (.a T1 T2) 1 (.gle (.s (.a (.n 8192) T0) T1) T2 1)) rfl kM.2.2)
  obtain ⟨fH,θ,hθ,t1,t2,t3⟩:=hue_near x0 x1 x2 (by clear eM em km kM hs;exact lqz [_] (.le (.g (.n 6000)) T0 1 (.gle (.n 500) (.a (.n 8192) T0) 1)) rfl b0.1) (by clear eM em km kM hs;exact lqz [_] (.le T0 (.n 6000) 1 (.gle (.a (.n 8192) T0) (.n 15500) 1)) rfl b0.2) (by clear eM em km kM hs;exact lqz [_] (.le (.g (.n 6000)) T0 1 (.gle (.n 500) (.a (.n 8192) T0) 1)) rfl b1.1) (by clear eM em km kM hs;exact lqz [_] (.le T0 (.n 6000) 1 (.gle (.a (.n 8192) T0) (.n 15500) 1)) rfl b1.2) (by clear eM em km kM hs;exact lqz [_] (.le (.g (.n 6000)) T0 1 (.gle (.n 500) (.a (.n 8192) T0) 1)) rfl b2.1) (by clear eM em km kM hs;exact lqz [_] (.le T0 (.n 6000) 1 (.gle (.a (.n 8192) T0) (.n 15500) 1)) rfl b2.2) hM hm eM em hd pa pb pc
  clear kM km eM em hs
  have hθb : -2≤θ∧θ≤2:=by
   obtain ⟨q,q0,q1,hh⟩:=hθ
   clear t1 t2 t3 pa pb pc
   rcases hh with ⟨h,_⟩|⟨h,_⟩|⟨h,_⟩|⟨h,_⟩|⟨h,_⟩|⟨h,_⟩<;>constructor<;>(first|exact lqr [_,_] (.le Tz T0 1 (.eq T1 (.d T0 6) (-1) (.gle (.g Ty) T1 6))) rfl q0 h|exact lqr [_,_] (.le T0 Tx 1 (.eq T1 (.d T0 6) 1 (.gle T1 Ty 6))) rfl q1 h|exact lqr [_,_] (.le T0 Tx 1 (.eq T1 (.d (.s Ty T0) 6) (-1) (.gle (.g Ty) T1 6))) rfl q1 h|exact lqr [_,_] (.le Tz T0 1 (.eq T1 (.d (.s Ty T0) 6) 1 (.gle T1 Ty 6))) rfl q0 h|exact lqr [_,_] (.le Tz T0 1 (.eq T1 (.d (.a Ty T0) 6) (-1) (.gle (.g Ty) T1 6))) rfl q0 h|exact lqr [_,_] (.le T0 Tx 1 (.eq T1 (.d (.a Ty T0) 6) 1 (.gle T1 Ty 6))) rfl q1 h|exact lqr [_,_] (.le T0 Tx 1 (.eq T1 (.d (.s (.n 4) T0) 6) (-1) (.gle (.g Ty) T1 6))) rfl q1 h|exact lqr [_,_] (.le Tz T0 1 (.eq T1 (.d (.s (.n 4) T0) 6) 1 (.gle T1 Ty 6))) rfl q0 h|exact lqr [_,_] (.le Tz T0 1 (.eq T1 (.d (.a (.n 4) T0) 6) (-1) (.gle (.g Ty) T1 6))) rfl q0 h|exact lqr [_,_] (.le T0 Tx 1 (.eq T1 (.d (.a (.n 4) T0) 6) 1 (.gle T1 Ty 6))) rfl q1 h|exact lqr [_,_] (.le T0 Tx 1 (.eq T1 (.d (.g T0) 6) (-1) (.gle (.g Ty) T1 6))) rfl q1 h|exact lqr [_,_] (.le Tz T0 1 (.eq T1 (.d (.g T0) 6) 1 (.gle T1 Ty 6))) rfl q0 h)
  obtain ⟨fh,h0,h1,zz,n1,n2⟩:=hue_mod fH t1 t2 hθb.1 hθb.2 t3
  generalize (divmod (div (hueF (add 4602678819172646912 (fdivI s0 16384)) (add 4602678819172646912 (fdivI s1 16384)) (add 4602678819172646912 (fdivI s2 16384))) 4618441417868443648) 4607182418800017408).2=hue at *
  obtain ⟨fX,X0,X1,z',X2,X3⟩:=turn_hue k fh n1 n2 h0 h1
  have hY:Ex (sub 4607182418800017408 l) (32768-(m+d+m)):=ex_sub ex_one hL (abs30 (by exact lqz [_,_] (.le (.a T0 T1) (.n 14200) 2 (.lt Tz T1 1 (.gle (.g (.n 100000)) (.s (.n 32768) (.a (.a T0 T1) T0)) 1))) rfl hm9 hd) (by exact lqz [_,_] (.le (.n 2000) T0 2 (.lt Tz T1 1 (.gle (.s (.n 32768) (.a (.a T0 T1) T0)) (.n 100000) 1))) rfl hm0 hd))
  have hden:0<denI (m+d+m)∧denI (m+d+m)≤40000∧d≤denI (m+d+m):=by unfold denI;split<;>(first|exact ⟨lqz [_,_] (.le (.n 2000) T0 2 (.lt Tz T1 1 (.glt Tz (.a (.a T0 T1) T0) 1))) rfl hm0 hd,⟨lqz [_,_] (.le (.a T0 T1) (.n 14200) 2 (.lt Tz T1 1 (.gle (.a (.a T0 T1) T0) (.n 40000) 1))) rfl hm9 hd,lqz [_,_] (.le (.n 2000) T0 2 (.gle T1 (.a (.a T0 T1) T0) 1)) rfl hm0⟩⟩|exact ⟨lqz [_,_] (.le (.a T0 T1) (.n 14200) 2 (.lt Tz T1 1 (.glt Tz (.s (.n 32768) (.a (.a T0 T1) T0)) 1))) rfl hm9 hd,⟨lqz [_,_] (.le (.n 2000) T0 2 (.lt Tz T1 1 (.gle (.s (.n 32768) (.a (.a T0 T1) T0)) (.n 40000) 1))) rfl hm0 hd,lqz [_,_] (.le (.a T0 T1) (.n 14200) 2 (.gle T1 (.s (.n 32768) (.a (.a T0 T1) T0)) 1)) rfl hm9⟩⟩)
  obtain ⟨ρ,hρ⟩:∃ ρ:Rat,ρ*(denI (m+d+m):Rat)=(d:Rat):=by
   have hdR:(0:Rat)<(denI (m+d+m):Rat):=by have:=Rat.intCast_lt_intCast.mpr hden.1;exact this
   exact ⟨(d:Rat)/(denI (m+d+m):Rat),Rat.div_mul_cancel (by grind -abstractProof)⟩
  refine and6 (share_near hd hden.1 (by exact lqz [_] (.le T0 (.n 12000) 1 (.gle T0 (.n 16000) 1)) rfl hd9) hden.2.1 hden.2.2 hρ) fun fZ z1 z2 z3 z4 z5=>?_
  obtain ⟨m1,m2,f1,f2,p1,p2,p3,p4,hls⟩:=lamps_near (X:=hueX (2*(k.val:Int)) hue) hY fZ z1 z2 hρ z3 z4 z5 rfl hd (by exact lqz [_] (.le (.n 2000) T0 1 (.gle (.n 500) T0 1)) rfl hm0) (by exact lqz [_,_] (.le (.a T0 T1) (.n 14200) 1 (.gle (.a T0 T1) (.n 15500) 1)) rfl hm9)
  have k3:=twoK_le k
  have hdR:(0:Rat)<(d:Rat):=by have:=Rat.intCast_lt_intCast.mpr hd;exact this
  have hmR:(0:Rat)≤(m:Rat):=by have:=Rat.intCast_le_intCast.mpr (show (0:Int)≤m by exact lqz [_] (.le (.n 2000) T0 1 (.gle Tz T0 1)) rfl hm0);exact this
  have hMR:(m:Rat)+(d:Rat)≤15500:=by have:=Rat.intCast_le_intCast.mpr (show m+d≤15500 by exact lqz [_,_] (.le (.a T0 T1) (.n 14200) 1 (.gle (.a T0 T1) (.n 15500) 1)) rfl hm9);rw [Rat.intCast_add] at this;exact this
  have key:∀ (j:Fin 3) (w:UInt64),FinF w→Rv w-(Rv (hueX (2*(k.val:Int)) hue)+side3 j)≤4*dR→(Rv (hueX (2*(k.val:Int)) hue)+side3 j)-Rv w≤4*dR→Rv w≤10 → -10≤Rv w →
    IntIs (add (mul (ofInt 16384) (vF m1 m2 w)) 4602678819172646912) (8192-pick3 s0 s1 s2 (othr k j)):=by
   intro j w fw w1 w2 w3 w4
   have hT:=turn_trap hθ k j
   refine and3 (v_near (x:=1/2+twoK k-θ+side3 j) (z:=z') f1 f2 fw p1 p2 p3 p4 (by rw [Rat.intCast_add];exact lqr [_,_] (.le (.a T0 T1) (.n 15500) 1 (.gle Tz (.s Tx (.d (.a T0 T1) 16384)) 1)) rfl hMR) (by rw [Rat.intCast_add];exact lqr [_,_] (.lt Tz T0 16384 (.gle (.s Tx (.d (.a T1 T0) 16384)) (.s Tx (.d T1 16384)) 1)) rfl hdR) (by exact lqr [_] (.le Tz T0 1 (.gle (.s Tx (.d T0 16384)) Tx 1)) rfl hmR) (by exact lqr [_] (.le T0 (.n 10) 1 (.gle T0 (.n 1000) 1)) rfl w3) (by exact lqr [_] (.le (.g (.n 10)) T0 1 (.gle (.g (.n 1000)) T0 1)) rfl w4) (by exact lqr [_,_,_,_,_,_] (.le (.s T0 (.s (.s (.a (.d Tx 2) T1) T2) T3)) (.m (.n 8) Td) 1 (.le (.s T4 (.a T0 T5)) (.m (.n 4) Td) 2 (.gle (.s T4 (.s (.a (.s (.a (.d Tx 2) T1) T2) T5) T3)) (.d Te 2) 16))) rfl X2 w1) (by exact lqr [_,_,_,_,_,_] (.le (.s (.s (.s (.a (.d Tx 2) T0) T1) T2) T3) (.m (.n 8) Td) 1 (.le (.s (.a T3 T4) T5) (.m (.n 4) Td) 2 (.gle (.s (.s (.a (.s (.a (.d Tx 2) T0) T1) T4) T2) T5) (.d Te 2) 16))) rfl X3 w2) hT) fun fv v1 v2=>?_
   have hc:pick3 ra rb rc (othr k j)*(d:Rat)=((8192+pick3 s0 s1 s2 (othr k j)-m:Int):Rat):=pick_case (P:=fun s r=>r*(d:Rat)=((8192+s-m:Int):Rat)) pa pb pc (othr k j)
   have hbj : -6000≤pick3 s0 s1 s2 (othr k j)∧pick3 s0 s1 s2 (othr k j)≤6000:=pick_case (P:=fun s _ => -6000≤s∧s≤6000) (ra:=0) (rb:=0) (rc:=0) b0 b1 b2 (othr k j)
   rw [rat_sub_int,Rat.intCast_add] at hc
   rw [Rat.intCast_add] at v1 v2
   have e3:((8192:Int):Rat)=8192:=rfl
   rw [e3] at hc
   refine int_from fv (by exact lqz [_] (.le T0 (.n 6000) 1 (.gle Tz (.s (.n 8192) T0) 1)) rfl hbj.2) (by exact lqz [_] (.le (.g (.n 6000)) T0 1 (.gle (.s (.n 8192) T0) (.n 30000) 1)) rfl hbj.1) ?_ ?_<;>rw [rat_sub_int,e3]<;>clear p1 p2 p3 p4 w1 w2 X2 X3 n1 n2 t1 t2 hT hθ pa pb pc<;>grind -abstractProof
  refine and3 (rv_add fX fin_third (by have:=rv_third;exact lqr [_,_] (.le Tz (.a T0 Tx) 25769803776 (.le (.s (.d Tx 3) Td) T1 1 (.gle (.g (.n 1048576)) (.a T0 T1) 25769803776))) rfl X0 this.1) (by have:=rv_third;exact lqr [_,_] (.le T0 Ty 25769803776 (.le T1 (.a (.d Tx 3) Td) 1 (.gle (.a T0 T1) (.n 1048576) 25769803776))) rfl X1 this.2)) fun fp a1 a2=>?_
  refine and3 (rv_sub fX fin_third (by have:=rv_third;exact lqr [_,_] (.le Tz (.a T0 Tx) 25769803776 (.le T1 (.a (.d Tx 3) Td) 1 (.gle (.g (.n 1048576)) (.s T0 T1) 25769803776))) rfl X0 this.2) (by have:=rv_third;exact lqr [_,_] (.le T0 Ty 25769803776 (.le (.s (.d Tx 3) Td) T1 1 (.gle (.s T0 T1) (.n 1048576) 25769803776))) rfl X1 this.1)) fun fq c1 c2=>?_
  have r3:=rv_third
  have i0:=key 0 _ fp (by show _-(_+(1/3:Rat))≤_;exact lqr [_,_,_] (.le T0 (.a (.a T1 T2) Td) 3 (.le T2 (.a (.d Tx 3) Td) 1 (.gle (.s T0 (.a T1 (.d Tx 3))) (.m (.n 4) Td) 1))) rfl a2 r3.2) (by show (_+(1/3:Rat))-_≤_;exact lqr [_,_,_] (.le (.s (.a T0 T1) Td) T2 3 (.le (.s (.d Tx 3) Td) T1 1 (.gle (.s (.a T0 (.d Tx 3)) T2) (.m (.n 4) Td) 1))) rfl a1 r3.1) (by exact lqr [_,_,_] (.le T0 Ty 25769803776 (.le T1 (.a (.a T0 T2) Td) 3 (.le T2 (.a (.d Tx 3) Td) 1 (.gle T1 (.n 10) 25769803776)))) rfl X1 a2 r3.2) (by exact lqr [_,_,_] (.le Tz (.a T0 Tx) 25769803776 (.le (.s (.a T0 T1) Td) T2 3 (.le (.s (.d Tx 3) Td) T1 1 (.gle (.g (.n 10)) T2 25769803776)))) rfl X0 a1 r3.1)
  have i1:=key 1 _ fX (by show _-(_+(0:Rat))≤_;exact lqr [_] (.gle (.s T0 (.a T0 Tz)) (.m (.n 4) Td) 1) rfl) (by show (_+(0:Rat))-_≤_;exact lqr [_] (.gle (.s (.a T0 Tz) T0) (.m (.n 4) Td) 1) rfl) (by exact lqr [_] (.le T0 Ty 1 (.gle T0 (.n 10) 1)) rfl X1) (by exact lqr [_] (.le Tz (.a T0 Tx) 1 (.gle (.g (.n 10)) T0 1)) rfl X0)
  have i2:=key 2 _ fq (by show _-(_+(-1/3:Rat))≤_;exact lqr [_,_,_] (.le T0 (.a (.s T1 T2) Td) 3 (.le (.s (.d Tx 3) Td) T2 1 (.gle (.s T0 (.a T1 (.d (.g Tx) 3))) (.m (.n 4) Td) 1))) rfl c2 r3.1) (by show (_+(-1/3:Rat))-_≤_;exact lqr [_,_,_] (.le (.s (.s T0 T1) Td) T2 3 (.le T1 (.a (.d Tx 3) Td) 1 (.gle (.s (.a T0 (.d (.g Tx) 3)) T2) (.m (.n 4) Td) 1))) rfl c1 r3.2) (by exact lqr [_,_,_] (.le T0 Ty 25769803776 (.le T1 (.a (.s T0 T2) Td) 3 (.le (.s (.d Tx 3) Td) T2 1 (.gle T1 (.n 10) 25769803776)))) rfl X1 c2 r3.1) (by exact lqr [_,_,_] (.le Tz (.a T0 Tx) 25769803776 (.le (.s (.s T0 T1) Td) T2 3 (.le T1 (.a (.d Tx 3) Td) 1 (.gle (.g (.n 10)) T2 25769803776)))) rfl X0 c1 r3.2)
  clear key
  refine hG ⟨hz,?_,?_,?_,?_,?_,?_,?_⟩
  ·rw [hrgb]
   refine not_ne ?_
   dsimp only
   have e9 : -20000≤max s0 (max s1 s2)+min s0 (min s1 s2)∧max s0 (max s1 s2)+min s0 (min s1 s2)≤20000:=by
    generalize max s0 (max s1 s2)+min s0 (min s1 s2)=t at *
    clear b0 b1 b2 x0 x1 x2
    exact ⟨lqz [_,_,_] (.le (.n 2000) T0 2 (.lt Tz T1 1 (.eq (.a (.a T0 T1) T0) (.a (.n 16384) T2) 1 (.gle (.g (.n 20000)) T2 1)))) rfl hm0 hd spr3,lqz [_,_,_] (.le (.a T0 T1) (.n 14200) 2 (.lt Tz T1 1 (.eq (.a (.a T0 T1) T0) (.a (.n 16384) T2) (-1) (.gle T2 (.n 20000) 1)))) rfl hm9 hd spr3⟩
   rw [ex_eq hL (both_ex e9.1 e9.2),decide_eq_true_iff]
   exact spr3
  ·rw [hrgb]
   refine not_ne ?_
   dsimp only
   rw [spr1,spr2]
   exact self_eq fZ
  ·rw [hrgb];dsimp only;rw [hls];exact i0
  ·rw [hrgb];dsimp only;rw [hls];exact i1
  ·rw [hrgb];dsimp only;rw [hls];exact i2
  ·rw [hrgb];exact hue_low fh h0
  ·rw [hrgb];dsimp only
   rw [rv_lt fh fin_one,rv_one];exact decide_eq_true h1
private theorem nv_is {W:Int} {p:P3} (hs:p.a+p.b+p.c=W) (k j:Fin 3):nv W k j p=8192-pick3 (sv W k 0 p) (sv W k 1 p) (sv W k 2 p) (othr k j):=
 match k,j with
 | 0,0=>by show (0-p.a)+8192-p.a+(p.a-0)=8192-(p.a-0);exact Int.le_antisymm (lqz [_] (.gle (.a (.s (.a (.s Tz T0) (.n 8192)) T0) (.s T0 Tz)) (.s (.n 8192) (.s T0 Tz)) 1) rfl) (lqz [_] (.gle (.s (.n 8192) (.s T0 Tz)) (.a (.s (.a (.s Tz T0) (.n 8192)) T0) (.s T0 Tz)) 1) rfl)
 | 0,1=>by show (p.b+p.a)+8192-p.b+(p.b-W)=8192-(p.c-0);exact Int.le_antisymm (lqz [_,_,_,_] (.eq (.a (.a T0 T1) T2) T3 1 (.gle (.a (.s (.a (.a T1 T0) (.n 8192)) T1) (.s T1 T3)) (.s (.n 8192) (.s T2 Tz)) 1)) rfl hs) (lqz [_,_,_,_] (.eq (.a (.a T0 T1) T2) T3 (-1) (.gle (.s (.n 8192) (.s T2 Tz)) (.a (.s (.a (.a T1 T0) (.n 8192)) T1) (.s T1 T3)) 1)) rfl hs)
 | 0,2=>by show (p.c+p.a)+8192-p.c+(p.c-0)=8192-(p.b-W);exact Int.le_antisymm (lqz [_,_,_,_] (.eq (.a (.a T0 T1) T2) T3 1 (.gle (.a (.s (.a (.a T2 T0) (.n 8192)) T2) (.s T2 Tz)) (.s (.n 8192) (.s T1 T3)) 1)) rfl hs) (lqz [_,_,_,_] (.eq (.a (.a T0 T1) T2) T3 (-1) (.gle (.s (.n 8192) (.s T1 T3)) (.a (.s (.a (.a T2 T0) (.n 8192)) T2) (.s T2 Tz)) 1)) rfl hs)
 | 1,0=>by show (p.a+p.b)+8192-p.a+(p.a-0)=8192-(p.c-W);exact Int.le_antisymm (lqz [_,_,_,_] (.eq (.a (.a T0 T1) T2) T3 1 (.gle (.a (.s (.a (.a T0 T1) (.n 8192)) T0) (.s T0 Tz)) (.s (.n 8192) (.s T2 T3)) 1)) rfl hs) (lqz [_,_,_,_] (.eq (.a (.a T0 T1) T2) T3 (-1) (.gle (.s (.n 8192) (.s T2 T3)) (.a (.s (.a (.a T0 T1) (.n 8192)) T0) (.s T0 Tz)) 1)) rfl hs)
 | 1,1=>by show (0-p.b)+8192-p.b+(p.b-0)=8192-(p.b-0);exact Int.le_antisymm (lqz [_] (.gle (.a (.s (.a (.s Tz T0) (.n 8192)) T0) (.s T0 Tz)) (.s (.n 8192) (.s T0 Tz)) 1) rfl) (lqz [_] (.gle (.s (.n 8192) (.s T0 Tz)) (.a (.s (.a (.s Tz T0) (.n 8192)) T0) (.s T0 Tz)) 1) rfl)
 | 1,2=>by show (p.c+p.b)+8192-p.c+(p.c-W)=8192-(p.a-0);exact Int.le_antisymm (lqz [_,_,_,_] (.eq (.a (.a T0 T1) T2) T3 1 (.gle (.a (.s (.a (.a T2 T1) (.n 8192)) T2) (.s T2 T3)) (.s (.n 8192) (.s T0 Tz)) 1)) rfl hs) (lqz [_,_,_,_] (.eq (.a (.a T0 T1) T2) T3 (-1) (.gle (.s (.n 8192) (.s T0 Tz)) (.a (.s (.a (.a T2 T1) (.n 8192)) T2) (.s T2 T3)) 1)) rfl hs)
 | 2,0=>by show (p.a+p.c)+8192-p.a+(p.a-W)=8192-(p.b-0);exact Int.le_antisymm (lqz [_,_,_,_] (.eq (.a (.a T0 T1) T2) T3 1 (.gle (.a (.s (.a (.a T0 T2) (.n 8192)) T0) (.s T0 T3)) (.s (.n 8192) (.s T1 Tz)) 1)) rfl hs) (lqz [_,_,_,_] (.eq (.a (.a T0 T1) T2) T3 (-1) (.gle (.s (.n 8192) (.s T1 Tz)) (.a (.s (.a (.a T0 T2) (.n 8192)) T0) (.s T0 T3)) 1)) rfl hs)
 | 2,1=>by show (p.b+p.c)+8192-p.b+(p.b-0)=8192-(p.a-W);exact Int.le_antisymm (lqz [_,_,_,_] (.eq (.a (.a T0 T1) T2) T3 1 (.gle (.a (.s (.a (.a T1 T2) (.n 8192)) T1) (.s T1 Tz)) (.s (.n 8192) (.s T0 T3)) 1)) rfl hs) (lqz [_,_,_,_] (.eq (.a (.a T0 T1) T2) T3 (-1) (.gle (.s (.n 8192) (.s T0 T3)) (.a (.s (.a (.a T1 T2) (.n 8192)) T1) (.s T1 Tz)) 1)) rfl hs)
 | 2,2=>by show (0-p.c)+8192-p.c+(p.c-0)=8192-(p.c-0);exact Int.le_antisymm (lqz [_] (.gle (.a (.s (.a (.s Tz T0) (.n 8192)) T0) (.s T0 Tz)) (.s (.n 8192) (.s T0 Tz)) 1) rfl) (lqz [_] (.gle (.s (.n 8192) (.s T0 Tz)) (.a (.s (.a (.s Tz T0) (.n 8192)) T0) (.s T0 Tz)) 1) rfl)
private theorem turn_fact {W:Int} (h1:60≤W) (h2:W≤1000):TurnFact W:=by
 intro p hp k hk
 have b:=fun j=>sv_bound (by exact lqz [_] (.le (.n 60) T0 1 (.glt Tz T0 1)) rfl h1) h2 k j hp
 have:=turn_ok k (b 0) (b 1) (b 2)
 have hs:p.a+p.b+p.c=W:=hp.1
 unfold TurnAt
 rw [nv_is hs,nv_is hs,nv_is hs]
 exact this
end Mine
end
section
open PySem PySem.W PyProof.Rows PySem.Flt PySem.Calls
namespace Mine
private theorem tabs_at {P:Params} {h:Heap} (X:(hd.heap_1 P).In h) (KT:∀ P∈[98,105],h.get? P=some (tabObj #[])):TabsAt [(102,98),(109,105)] h:=
 (fcons ⟨codeHd_of_K X (by kernel_rfl),KT 98 (.head _)⟩ (fcons ⟨codeHd_of_K X (by kernel_rfl),KT 105 (.tail _ (.head _))⟩ (fun _ h=>nomatch h)))
private theorem old_of {h h':Heap} {pl pq:Array Value} (hT:TabsAt [(102,98),(109,105)] h) (hb:ButExt [98,105] h h') (h1:h'.get? 98=some (tbO pl)) (h2:h'.get? 105=some (tbO pq)):OldK h h':=by
 have t1:=hT _ (.head _)
 have t2:=hT _ (.tail _ (.head _))
 constructor
 ·intro b o e
  by_cases q1:b=98
  ·subst q1
   have e':=t1.2
   rw [show h.get? (102,98).2=some o from e] at e'
   cases e'
   exact .inr (.inl ⟨(t1.1.tab t1.2).isCodeTable,rfl,#[],pl,rfl,by rw [h1];simp⟩)
  ·by_cases q2:b=105
   ·subst q2
    have e':=t2.2
    rw [show h.get? (109,105).2=some o from e] at e'
    cases e'
    exact .inr (.inl ⟨(t2.1.tab t2.2).isCodeTable,rfl,#[],pq,rfl,by rw [h2];simp⟩)
   ·exact .inl (hb b o (fun hh=>by
     rcases List.mem_cons.mp hh with q|q
     ·exact q1 q
     ·exact q2 (List.mem_singleton.mp q)) e)
 ·intro b o e
  by_cases q1:b=98
  ·subst q1;exact ⟨_,h1⟩
  ·by_cases q2:b=105
   ·subst q2;exact ⟨_,h2⟩
   ·exact ⟨o,hb b o (fun hh=>by
     rcases List.mem_cons.mp hh with q|q
     ·exact q1 q
     ·exact q2 (List.mem_singleton.mp q)) e⟩
theorem tst:PySem.Challenge.rw_sc0045_01.Holds:=by
 refine hd ?_
 k_fill
 intro w s₀ s₁ mg mb G Y fa o pm cd doc dV kV ho hd' hcd hD hmg hg args vals as hpre hlay hrd hwl hlo
 have KX:=km_in_of Y
 have KT:=km_tabs_of Y
 have hT:=tabs_at KX KT
 have X:=(Ground.X G).1
 have V:=(Ground.X G).2
 refine Ground.open G ?_
 intro T B D TE TW
 try (refine guard_noD D (by decide +kernel) ?_;clear D)
 have e171:Value.ref fa = .ref 171:=Option.some.inj (hmg.symm.trans (mg_of KX T.g (by kernel_rfl)))
 cases e171
 clear hmg
 wrow_args hpre hlay hrd hwl hlo
 all_goals (
  first|refine callC_kw (enter_call ?_)|refine enter_call ?_
  w_top on)
 rename Heap.IsList _ _ _=>hL
 rename IntsAre _ _=>hI
 have hlen:∀ {n:Nat},¬ ((63:Nat):Int)<(n:Int)→n≤1000:=by intro n h;omega
 refine c_law (ghost_K hT KX (by kernel_rfl)) (ghost_top hT T) (by decide) (by decide) (.of_eq hg) (fun W a b=>turn_fact a b) (ghost_list hT hL) hI (KT 98 (.head _)) (.inl rfl) (KT 105 (.tail _ (.head _))) (.inl rfl) (by rw [hI.length];exact hlen (by assumption)) ?_
 intro s' pl pq hb h1 h2 hg' ho'
 exact ⟨.inl ⟨_,ofPy (.bool true),[],rfl,raisesW_false (by wrow_none_raised),readsW_of_reads (.bool true),postW_of (by o_shape) (by wtm_val) (by w_fin),unshared_nil⟩,old_of hT hb h1 h2,ho',hg'⟩
end Mine
end
theorem PySem.Challenge.cw_sc0045_01_holds : PySem.Challenge.rw_sc0045_01.Holds :=
 Mine.tst
