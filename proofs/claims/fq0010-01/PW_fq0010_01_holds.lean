import PyProof.Rows.All
import Wide.All
import OpenK.AllK
import Wide.FinOn
import PySem.Challenge.RW_fq0010_01
set_option Elab.async false
set_option maxRecDepth 100000
set_option linter.all false
open PySem PySem.W PyProof.Rows PySem.Calls
namespace Mine
open PySem PySem.W PyProof.Rows
set_option maxHeartbeats 8000000
open_top hd for PySem.Challenge.rw_fq0010_01
end Mine
open Mine
namespace Mine
open PySem PySem.W PyProof.Rows PySem.Calls
set_option maxHeartbeats 8000000
section
variable {prog : Program} {w : World} {M : Model} {A : Around} {c : Code} {E : Value → Shared → Prop} {s : Shared} {env : Env}
theorem wpAt_MethodCallKW {o : Expr} {name : Str} {apos pos : Pos} {args : List Expr} {kws : List Keyword} {pl : Sem Bool} {Q : Value → Shared → Prop}
    (h : PySem.wpAt M A c (attributeBase o name env (eval o env)) (fun ov s₁ => wpAny M A (getMethod ov name pl) (fun fx s₂ => wpAny M A (callWith pos fx.1 fx.2 (backTo pos (starEach args env)) (backToKw pos (keywordEach kws env))) Q E s₂) E s₁) E s)
    (he : eval (.Call (.Attribute o name apos) args kws pos) env = (do
      let ov ← attributeBase o name env (eval o env)
      standAt apos.atName
      let (f, first) ← holding [ov] (getMethod ov name pl)
      callWith pos f first (backTo pos (starEach args env)) (backToKw pos (keywordEach kws env))) := by rfl) :
    PySem.wpAt M A c (eval (.Call (.Attribute o name apos) args kws pos) env) Q E s := by
  rw [he]
  refine PySem.wpAt_bind (PySem.wpAt_mono h (fun ov s₁ h₁ => PySem.wpAt_of_wpAny (wpAny_bind (wpAny_standAt (wpAny_bind (wpAny_holding (wpAny_mono h₁ (fun fx s₂ h₂ => ?_) fun _ _ x => x)))))) fun _ _ x => x)
  exact h₂
theorem callWith_MKW0 {K : Frag} {pos : Pos} {q g : Addr} {self : Value} {first : List Value} {Q : Value → Shared → Prop} {kws : List Keyword} (hf : fnIn K g = true) (hall : (backToKw pos (keywordEach kws env)).all (·.1.isSome) = true)
    (h : wpAny M A (evalAll ((backToKw pos (keywordEach kws env)).map (·.2))) (fun ks s₂ => MethP K q g self s₂.heap ∧ wpAny M A (call (.ref q) (first ++ []) (((backToKw pos (keywordEach kws env)).filterMap (·.1)).zip ks)) Q E s₂) E s)
    (hplain : ((backTo pos (starEach [] env)).any (·.1) || (backToKw pos (keywordEach kws env)).any (·.1.isNone)) = false := by rfl) :
    wpAny M A (callWith pos (.ref q) first (backTo pos (starEach [] env)) (backToKw pos (keywordEach kws env))) Q E s :=
  callWith_of hplain (keeps_M hf) (evalArgs_kw2_nil hall h)
end
end Mine
namespace Mine
open PySem PySem.W PyProof.Rows PySem.Calls
set_option maxHeartbeats 8000000
end Mine
local macro_rules | `(tactic| walk_at "call ref") => `(tactic| (k_here; k_dflt (
  (refine' call_cls ?k1 ?k2 ?k3 ?k4 ?k5 ?k6 ?_; (case k1 => k_asm); (case k2 => k_asm); (case k3 => k_asm); (case k4 => k_is); (case k5 => k_is); (case k6 => k_is); intro x' d' h' F' N' l1 l2; (try k_lt l1); (try k_lt2 l2); 
   (refine' ks_code_super ?k1 ?k2 ?k3 ?k4 ?k5 ?kA ?kF ?kK ?k6 ?k7 ?k8 ?k9 ?kB ?_ ?c1 ?c2 ?c3 ?c4; (case kA => exact rfl); (case kF => exact rfl); (case kK => exact rfl); (case k1 => k_asm); (case k2 => k_asm); (case k3 => k_asm); (case k4 => k_asm); (case k5 => k_asm); (case k6 => k_is); (case k7 => k_is); (case k8 => k_room); (case k9 => first | exact binds_K (by k_in) rfl (by k_is) rfl rfl rfl | exact BindsTo.of_eq rfl); (case kB => exact locs rfl); (case c1 => decide); (case c2 => exact rfl); (case c3 => exact rfl); (case c4 => exact rfl); intro g' L' h' FG' F' N' B' X' T' l1; (try k_lt l1); (try dsimp only); (try k_lift B'))))))
namespace Mine
open PySem PySem.W PyProof.Rows PySem.Calls
set_option maxHeartbeats 8000000
local macro_rules | `(tactic| walk_at "call ref") => `(tactic| (k_here; k_dflt (
  (refine' call_cls ?k1 ?k2 ?k3 ?k4 ?k5 ?k6 ?_; (case k1 => k_asm); (case k2 => k_asm); (case k3 => k_asm); (case k4 => k_is); (case k5 => k_is); (case k6 => k_is); intro x' d' h' F' N' l1 l2; (try k_lt l1); (try k_lt2 l2); 
   (refine' ks_code_super ?k1 ?k2 ?k3 ?k4 ?k5 ?kA ?kF ?kK ?k6 ?k7 ?k8 ?k9 ?kB ?_ ?c1 ?c2 ?c3 ?c4; (case kA => exact rfl); (case kF => exact rfl); (case kK => exact rfl); (case k1 => k_asm); (case k2 => k_asm); (case k3 => k_asm); (case k4 => k_asm); (case k5 => k_asm); (case k6 => k_is); (case k7 => k_is); (case k8 => k_room); (case k9 => first | exact binds_K (by k_in) rfl (by k_is) rfl rfl rfl | exact BindsTo.of_eq rfl); (case kB => exact locs rfl); (case c1 => decide); (case c2 => exact rfl); (case c3 => exact rfl); (case c4 => exact rfl); intro g' L' h' FG' F' N' B' X' T' l1; (try k_lt l1); (try dsimp only); (try k_lift B'))))))
end Mine
local macro_rules | `(tactic| walk_at "wpAt") => `(tactic| (ks_step "eval Call"; k_dflt (refine wpAt_MethodCallKW ?_)))
namespace Mine
open PySem PySem.W PyProof.Rows PySem.Calls
set_option maxHeartbeats 8000000
local macro_rules | `(tactic| walk_at "call ref") => `(tactic| (k_here; k_dflt (
  (refine' call_cls ?k1 ?k2 ?k3 ?k4 ?k5 ?k6 ?_; (case k1 => k_asm); (case k2 => k_asm); (case k3 => k_asm); (case k4 => k_is); (case k5 => k_is); (case k6 => k_is); intro x' d' h' F' N' l1 l2; (try k_lt l1); (try k_lt2 l2); 
   (refine' ks_code_super ?k1 ?k2 ?k3 ?k4 ?k5 ?kA ?kF ?kK ?k6 ?k7 ?k8 ?k9 ?kB ?_ ?c1 ?c2 ?c3 ?c4; (case kA => exact rfl); (case kF => exact rfl); (case kK => exact rfl); (case k1 => k_asm); (case k2 => k_asm); (case k3 => k_asm); (case k4 => k_asm); (case k5 => k_asm); (case k6 => k_is); (case k7 => k_is); (case k8 => k_room); (case k9 => first | exact binds_K (by k_in) rfl (by k_is) rfl rfl rfl | exact BindsTo.of_eq rfl); (case kB => exact locs rfl); (case c1 => decide); (case c2 => exact rfl); (case c3 => exact rfl); (case c4 => exact rfl); intro g' L' h' FG' F' N' B' X' T' l1; (try k_lt l1); (try dsimp only); (try k_lift B'))))))
local macro_rules | `(tactic| walk_at "wpAt") => `(tactic| (ks_step "eval Call"; k_dflt (refine wpAt_MethodCallKW ?_)))
end Mine
local macro_rules | `(tactic| walk_at "wpAt") => `(tactic| ((with_reducible show PySem.wpAt _ _ _ (eval (PySem.Expr.Call (PySem.Expr.Attribute _ _ _) _ [] _) _) _ _ _); ks_step "eval Call"; k_dflt (refine ks_wpAt_MethodCall ?_)))
namespace Mine
open PySem PySem.W PyProof.Rows PySem.Calls
set_option maxHeartbeats 8000000
local macro_rules | `(tactic| walk_at "call ref") => `(tactic| (k_here; k_dflt (
  (refine' call_cls ?k1 ?k2 ?k3 ?k4 ?k5 ?k6 ?_; (case k1 => k_asm); (case k2 => k_asm); (case k3 => k_asm); (case k4 => k_is); (case k5 => k_is); (case k6 => k_is); intro x' d' h' F' N' l1 l2; (try k_lt l1); (try k_lt2 l2); 
   (refine' ks_code_super ?k1 ?k2 ?k3 ?k4 ?k5 ?kA ?kF ?kK ?k6 ?k7 ?k8 ?k9 ?kB ?_ ?c1 ?c2 ?c3 ?c4; (case kA => exact rfl); (case kF => exact rfl); (case kK => exact rfl); (case k1 => k_asm); (case k2 => k_asm); (case k3 => k_asm); (case k4 => k_asm); (case k5 => k_asm); (case k6 => k_is); (case k7 => k_is); (case k8 => k_room); (case k9 => first | exact binds_K (by k_in) rfl (by k_is) rfl rfl rfl | exact BindsTo.of_eq rfl); (case kB => exact locs rfl); (case c1 => decide); (case c2 => exact rfl); (case c3 => exact rfl); (case c4 => exact rfl); intro g' L' h' FG' F' N' B' X' T' l1; (try k_lt l1); (try dsimp only); (try k_lift B'))))))
local macro_rules | `(tactic| walk_at "wpAt") => `(tactic| (ks_step "eval Call"; k_dflt (refine wpAt_MethodCallKW ?_)))
local macro_rules | `(tactic| walk_at "wpAt") => `(tactic| ((with_reducible show PySem.wpAt _ _ _ (eval (PySem.Expr.Call (PySem.Expr.Attribute _ _ _) _ [] _) _) _ _ _); ks_step "eval Call"; k_dflt (refine ks_wpAt_MethodCall ?_)))
end Mine
local macro_rules | `(tactic| walk_at "wpAt") => `(tactic| (ks_step "exec Expr"; k_dflt (refine ks_wpAt_Expr_any ?_)))
namespace Mine
open PySem PySem.W PyProof.Rows PySem.Calls
set_option maxHeartbeats 8000000
local macro_rules | `(tactic| walk_at "call ref") => `(tactic| (k_here; k_dflt (
  (refine' call_cls ?k1 ?k2 ?k3 ?k4 ?k5 ?k6 ?_; (case k1 => k_asm); (case k2 => k_asm); (case k3 => k_asm); (case k4 => k_is); (case k5 => k_is); (case k6 => k_is); intro x' d' h' F' N' l1 l2; (try k_lt l1); (try k_lt2 l2); 
   (refine' ks_code_super ?k1 ?k2 ?k3 ?k4 ?k5 ?kA ?kF ?kK ?k6 ?k7 ?k8 ?k9 ?kB ?_ ?c1 ?c2 ?c3 ?c4; (case kA => exact rfl); (case kF => exact rfl); (case kK => exact rfl); (case k1 => k_asm); (case k2 => k_asm); (case k3 => k_asm); (case k4 => k_asm); (case k5 => k_asm); (case k6 => k_is); (case k7 => k_is); (case k8 => k_room); (case k9 => first | exact binds_K (by k_in) rfl (by k_is) rfl rfl rfl | exact BindsTo.of_eq rfl); (case kB => exact locs rfl); (case c1 => decide); (case c2 => exact rfl); (case c3 => exact rfl); (case c4 => exact rfl); intro g' L' h' FG' F' N' B' X' T' l1; (try k_lt l1); (try dsimp only); (try k_lift B'))))))
local macro_rules | `(tactic| walk_at "wpAt") => `(tactic| (ks_step "eval Call"; k_dflt (refine wpAt_MethodCallKW ?_)))
local macro_rules | `(tactic| walk_at "wpAt") => `(tactic| ((with_reducible show PySem.wpAt _ _ _ (eval (PySem.Expr.Call (PySem.Expr.Attribute _ _ _) _ [] _) _) _ _ _); ks_step "eval Call"; k_dflt (refine ks_wpAt_MethodCall ?_)))
local macro_rules | `(tactic| walk_at "wpAt") => `(tactic| (ks_step "exec Expr"; k_dflt (refine ks_wpAt_Expr_any ?_)))
end Mine
local macro_rules | `(tactic| walk_at "callWith ref") => `(tactic| (k_here; k_dflt (refine' callWith_MKW0 ?k2 ?k3 ?_; (case k2 => k_is); (case k3 => exact rfl); k_whole)))
namespace Mine
open PySem PySem.W PyProof.Rows PySem.Calls
set_option maxHeartbeats 8000000
local macro_rules | `(tactic| walk_at "call ref") => `(tactic| (k_here; k_dflt (
  (refine' call_cls ?k1 ?k2 ?k3 ?k4 ?k5 ?k6 ?_; (case k1 => k_asm); (case k2 => k_asm); (case k3 => k_asm); (case k4 => k_is); (case k5 => k_is); (case k6 => k_is); intro x' d' h' F' N' l1 l2; (try k_lt l1); (try k_lt2 l2); 
   (refine' ks_code_super ?k1 ?k2 ?k3 ?k4 ?k5 ?kA ?kF ?kK ?k6 ?k7 ?k8 ?k9 ?kB ?_ ?c1 ?c2 ?c3 ?c4; (case kA => exact rfl); (case kF => exact rfl); (case kK => exact rfl); (case k1 => k_asm); (case k2 => k_asm); (case k3 => k_asm); (case k4 => k_asm); (case k5 => k_asm); (case k6 => k_is); (case k7 => k_is); (case k8 => k_room); (case k9 => first | exact binds_K (by k_in) rfl (by k_is) rfl rfl rfl | exact BindsTo.of_eq rfl); (case kB => exact locs rfl); (case c1 => decide); (case c2 => exact rfl); (case c3 => exact rfl); (case c4 => exact rfl); intro g' L' h' FG' F' N' B' X' T' l1; (try k_lt l1); (try dsimp only); (try k_lift B'))))))
local macro_rules | `(tactic| walk_at "wpAt") => `(tactic| (ks_step "eval Call"; k_dflt (refine wpAt_MethodCallKW ?_)))
local macro_rules | `(tactic| walk_at "wpAt") => `(tactic| ((with_reducible show PySem.wpAt _ _ _ (eval (PySem.Expr.Call (PySem.Expr.Attribute _ _ _) _ [] _) _) _ _ _); ks_step "eval Call"; k_dflt (refine ks_wpAt_MethodCall ?_)))
local macro_rules | `(tactic| walk_at "wpAt") => `(tactic| (ks_step "exec Expr"; k_dflt (refine ks_wpAt_Expr_any ?_)))
local macro_rules | `(tactic| walk_at "callWith ref") => `(tactic| (k_here; k_dflt (refine' callWith_MKW0 ?k2 ?k3 ?_; (case k2 => k_is); (case k3 => exact rfl); k_whole)))
end Mine
local macro_rules | `(tactic| walk_at "eval Name") => `(tactic| (k_here; k_dflt (first
  | (refine' nameX_L ?F ?v ?_ ?a ?b; (case b => rfl); (case F => k_asm); (case a => first | rfl | assumption); (case v => first | rfl | assumption); k_whole)
  | (refine' nameX_F ?N ?c ?m ?d ?_ ?a ?b; (case b => rfl); (case a => first | rfl | assumption); (case N => k_asm); (case c => rfl); (case m => k_mem); (case d => rfl); k_whole)
  | (refine' nameX_K ?F ?X ?T ?e ?_ ?a ?b; (case b => rfl); (case F => k_asm); (case X => k_asm); (case a => first | rfl | assumption); (case e => k_is); (case T => k_asm); k_whole)
  | (refine' nameX_B ?F ?X ?T ?e ?v ?n ?_ ?a ?b; (case b => rfl); (case F => k_asm); (case X => k_asm); (case a => first | rfl | assumption); (case e => k_is); (case v => boot_fast); (case n => decide); (case T => k_asm); k_whole))))
local macro_rules | `(tactic| walk_at "exec For Tuple Attribute cons nil") => `(tactic| (k_here; (rename Fr _ _ _ _ => lF'); (with_unfolding_all refine' For_turns lF' ?_); k_whole))
local macro_rules | `(tactic| walk_at "callWith ref") => `(tactic| (k_here; k_dflt (first
  | (refine' callWith_F ?k1 ?_; (case k1 => exact FnAt.of (by k_asm) (by k_mem)); k_whole)
  | (refine' callWith_F0 ?k1 ?_; (case k1 => exact FnAt.of (by k_asm) (by k_mem)); k_whole; try dsimp only [List.nil_append, List.cons_append]))))
local macro_rules | `(tactic| walk_at "And") => `(tactic| ((with_reducible show FnAt _ _ ∧ _); refine ⟨FnAt.of (by k_asm) (by k_mem), ?_⟩; try dsimp only [List.nil_append, List.cons_append]))
local macro_rules | `(tactic| k_mem) => `(tactic| first | with_reducible assumption | exact List.mem_cons_self .. | (refine' List.mem_cons_of_mem _ ?_; k_mem) | (refine' List.mem_append_right _ ?_; k_mem))
namespace Mine
open PySem PySem.W PyProof.Rows PySem.Calls
set_option maxHeartbeats 8000000
section
variable {prog : Program} {w : World} {A : Around} {E : Value → Shared → Prop} {s : Shared} {K : Frag} {h₀ : Heap} {L T : Addr} {m : Str → Option Value}
def isStrV : Value → Bool
  | .str .. => true
  | _ => false
theorem in_strTup {k : Str} {t : Tok} {vs : Array Value} {n : Nat} {d : Option Addr} {sl : Array (Option Value)} {Q : Value → Shared → Prop} (F : Fr h₀ L s.heap m) (X : K.In h₀) (l : K.lookup T = some ⟨.type "tuple", d, .seq vs n, sl⟩)
    (a : vs.toList.all isStrV = true) (h : Q (.bool (vs.toList.any (isStrOf k))) s) : wpAny (model prog w) A (compareOp .In (.str k t) (.ref T)) Q E s := by
  refine SeqAt.in_tupleAt (isStrOf k) ⟨_, F.keep _ _ (X _ _ l), rfl, n, rfl⟩ (fun y hy => ?_) (by rw [← Array.any_toList]; exact h)
  have := List.all_eq_true.mp a y (Array.mem_toList_iff.mpr hy)
  cases y <;> first | exact SeqAt.EqAt.str_str _ _ _ _ | cases this
end
end Mine
local macro_rules | `(tactic| walk_at "compareOp In str ref") => `(tactic| (k_here; k_dflt (refine' Mine.in_strTup ?F ?X ?l ?a ?_; (case F => k_asm); (case X => k_asm); (case l => k_is); (case a => rfl); k_whole)))
local macro_rules | `(tactic| k_room) => `(tactic| ((simp only [depth_mark, depth_under_make, depth_under_kw, depth_in1, depth_deeper, depth_caller]); (try dsimp only [ktrTop]); omega))
local macro_rules | `(tactic| ktr_room) => `(tactic| ((try simp only [depth_mark, depth_under_make, depth_under_kw, depth_in1, depth_deeper, depth_caller]); (try dsimp only [ktrTop]); omega))
local macro_rules | `(tactic| ktr_units) => `(tactic| ((try simp only [units_in1, units_deeper, Around.mark_units, units_caller]); (try dsimp only [ktrTop]); omega))
namespace Mine
open PySem PySem.W PyProof.Rows PySem.Calls
set_option maxHeartbeats 8000000
theorem exc_RecursionError : ExcClass "RecursionError" "RecursionError.__new__" "RecursionError.__init__" := {
  boot := by decide +kernel
  notType := by decide +kernel
  canNew := by decide +kernel
  typeCall := fun _ => by kernel_rfl
  mroFast := by kernel_rfl
  madeBy := by kernel_rfl
  newCheck := fun _ => by kernel_rfl
  newEntry := entryFor_alias (id' := "BaseException.__new__") (by kernel_rfl) (by first | rfl | (unfold String.splitOn; simp +decide [String.splitOnAux])) (by decide +kernel) (by kernel_rfl)
  newPlain := by decide +kernel
  newEnds := by decide +kernel
  subOwner := by rw [isSubtype_type]; kernel_rfl
  madeHere := by kernel_rfl
  notAttr := by rw [isSubtype_type]; kernel_rfl
  notName := by rw [isSubtype_type]; kernel_rfl
  self := by rw [isSubtype_type]; kernel_rfl
  init := .of (owner := "RecursionError") (n := "__init__") (by rw [typeLookup_type, builtinLookup_eq_fast]; kernel_rfl) (by decide +kernel) (by decide +kernel) (by decide +kernel)
    (by first | exact .inl (by decide +kernel) | exact .inr (by decide +kernel)) (by rw [isSubtype_type]; kernel_rfl)
  initEntry := entryFor_alias (id' := "BaseException.__init__") (by kernel_rfl) (by first | rfl | (unfold String.splitOn; simp +decide [String.splitOnAux])) (by decide +kernel) (by kernel_rfl)
  initKind := by decide +kernel
  initSplit := by decide +kernel
  initSig := by kernel_rfl
  notStar := by decide +kernel
  base := by rw [isSubtype_type]; kernel_rfl
  metaType := by decide +kernel
  noFirst := by decide +kernel
  noOwn := fun _ => by
    unfold ownMembersOf
    split <;> first | rfl | (rename_i h; revert h; decide) | simp_all }
end Mine
local macro_rules | `(tactic| k_units) => `(tactic| ktr_units)
local macro_rules | `(tactic| boot_fact) => `(tactic| exact ExcClass.boot Mine.exc_RecursionError)
local macro_rules | `(tactic| walk_at "call type:RecursionError") => `(tactic| first
  | (refine call_exc_raise Mine.exc_RecursionError ?_; intro _ _ _)
  | (refine call_exc Mine.exc_RecursionError ?_; intro _ _ _))
namespace Mine
open PySem PySem.W PyProof.Rows PySem.Calls
set_option maxHeartbeats 8000000
theorem callWith_MKW1 {w : World} {A : Around} {E : Value → Shared → Prop} {s : Shared} {env : Env} {K : Frag} {pos : Pos} {q g : Addr} {self : Value} {first : List Value} {Q : Value → Shared → Prop} {kws : List Keyword} {h₀ : Heap} {L : Addr} {news : List (Addr × Obj)}
    (_X : K.In h₀) (_N : News h₀ L s.heap news) (_q : (q, methodObj (.ref g) self) ∈ news) (hf : fnIn K g = true) (hall : (backToKw pos (keywordEach kws env)).all (·.1.isSome) = true)
    (h : wpAny (model PySem.Challenge.rw_fq0010_01.row.prog w) A (evalAll ((backToKw pos (keywordEach kws env)).map (·.2))) (fun ks s₂ => MethP K q g self s₂.heap ∧ wpAny (model PySem.Challenge.rw_fq0010_01.row.prog w) A (call (.ref q) (first ++ []) (((backToKw pos (keywordEach kws env)).filterMap (·.1)).zip ks)) Q E s₂) E s)
    (hplain : ((backTo pos (starEach [] env)).any (·.1) || (backToKw pos (keywordEach kws env)).any (·.1.isNone)) = false := by rfl) :
    wpAny (model PySem.Challenge.rw_fq0010_01.row.prog w) A (callWith pos (.ref q) first (backTo pos (starEach [] env)) (backToKw pos (keywordEach kws env))) Q E s :=
  callWith_MKW0 hf hall h hplain
theorem callWith_K0' {M : Model} {A : Around} {E : Value → Shared → Prop} {s : Shared} {K : Frag} {env : Env} {pos : Pos} {f : Value} {first : List Value} {Q : Value → Shared → Prop} {h₀ : Heap} {L : Addr} {m : Str → Option Value} (F : Fr h₀ L s.heap m) (X : K.In h₀) (hk : keepIn K f = true) (h : wpAny M A (call f (first ++ [])) Q E s) : wpAny M A (callWith pos f first (backTo pos (starEach [] env)) []) Q E s :=
  callWith_K0 (X.keeps F.keep) hk h
end Mine
local macro_rules | `(tactic| k_inst) => `(tactic| first | (refine' InstAt.of_news ?N ?h1 ?h2; (case N => k_asm); (case h1 => k_mem); (case h2 => k_mem)) | (refine' InstAt.of_K ?X ?h1 ?h2; (case X => first | assumption | exact Frag.In.keeps (by k_asm) (Fr.keep (by k_asm))); (case h1 => k_is); (case h2 => k_is)))
local macro_rules | `(tactic| walk_at "callWith ref") => `(tactic| (k_here; k_dflt (refine' Mine.callWith_MKW1 ?k1 ?k2 ?k3 ?k4 ?k5 ?_; (case k1 => k_asm); (case k2 => k_asm); (case k3 => k_mem); (case k4 => k_is); (case k5 => exact rfl); k_whole)))
local macro_rules | `(tactic| walk_at "getMethod ref") => `(tactic| (k_here; k_dflt (refine' method_inst ?k1 ?k2 ?k3 ?k4 ?k5 ?k6 ?k7 ?_; (case k1 => k_asm); (case k2 => k_asm); (case k3 => k_inst); (case k4 => k_is); (case k5 => k_is); (case k6 => k_is); (case k7 => k_get); k_whole)))
local macro_rules | `(tactic| walk_at "getMethod ref") => `(tactic| (k_here; k_dflt (first
  | (refine' method_inst ?k1 ?k2 ?k3 ?k4 ?k5 ?k6 ?k7 ?_; (case k1 => k_asm); (case k2 => k_asm); (case k3 => k_inst); (case k4 => k_is); (case k5 => k_is); (case k6 => k_is); (case k7 => k_get); k_whole)
  | (refine' kmu_own ?k1 ?k2 ?k3 ?k4 ?k5 ?_; (case k1 => k_asm); (case k2 => k_asm); (case k3 => k_inst); (case k4 => k_is); (case k5 => k_is); k_whole))))
local macro_rules | `(tactic| walk_at "getAttr ref") => `(tactic| (k_here; k_dflt (first
  | (refine' get_own ?k1 ?k2 ?k3 ?k4 ?k5 ?k6 ?k7 ?k8 ?k9 ?_; (case k1 => k_asm); (case k2 => k_asm); (case k3 => k_inst); (case k4 => k_is); (case k5 => k_is); (case k6 => k_is); (case k7 => k_is); (case k8 => k_get); (case k9 => k_handed); k_whole)
  | (refine' get_slot ?k1 ?k2 ?k3 ?k4 ?k5 ?k6 ?k7 ?k8 ?k9 ?k10 ?k11 ?_; (case k1 => k_asm); (case k2 => k_asm); (case k3 => k_inst); (case k4 => k_is); (case k5 => k_is); (case k6 => k_is); (case k7 => k_is); (case k8 => k_is); (case k9 => k_is); (case k10 => k_slotget); (case k11 => k_handed); k_whole))))
local macro_rules | `(tactic| walk_at "call ref") => `(tactic| (k_here; k_dflt (refine wpAny_call ?_; (refine' code_def ?k1 ?k2 ?k3 ?k4 ?k5 ?kA ?kF ?kK ?k6 ?k7 ?k8 ?k9 ?kB ?_ ?c2 ?c3 ?c4 ?c5; (case k3 => k_asm); (case k6 => k_is); (case kA => exact rfl); (case kF => exact rfl); (case kK => first | assumption | exact rfl); (case k2 => k_asm); (case k1 => k_asm); (case k4 => k_asm); (case k5 => k_asm); (case k7 => k_is); (case k8 => k_room); (case k9 => first | exact BindsTo.of_eq rfl | exact binds_K (by k_in) rfl (by k_is) rfl rfl rfl); (case c5 => decide); (case kB => exact locs rfl); (case c2 => exact rfl); (case c3 => exact rfl); (case c4 => exact rfl); k_whole; intro g' L' h' FG' F' N' B' X' T'; (conv at F' => enter [4, y, 2]; whnf); (try dsimp only); (try k_lift B'); (try k_fold)))))
namespace Mine
open PySem PySem.W PyProof.Rows PySem.Calls
set_option maxHeartbeats 8000000
section
variable {M : Model} {A : Around} {E : Value → Shared → Prop} {s : Shared} {K : Frag} {env : Env} {pos : Pos} {p : Addr} {first : List Value} {Q : Value → Shared → Prop} {h₀ : Heap} {L : Addr} {m : Str → Option Value} {e : PySem.Expr} {rest : List PySem.Expr} {kws : List Keyword}
theorem cwK (_b : Nat.ble p 100000 = true) (_X : K.In h₀) (hk : keepIn K (.ref p) = true) (h : wpAny M A (spliced (backTo pos (starEach (e :: rest) env))) (fun vs s₁ => K.In s₁.heap ∧ wpAny M A (call (.ref p) (first ++ vs)) Q E s₁) E s)
    (he : starEach (e :: rest) env = (false, eval e env) :: starEach rest env := by rfl) (hplain : (backTo pos (starEach rest env)).any (·.1) = false := by rfl) :
    wpAny M A (callWith pos (.ref p) first (backTo pos (starEach (e :: rest) env)) []) Q E s := callWith_K _X hk h he hplain
theorem cwK0 (_b : Nat.ble p 100000 = true) (F : Fr h₀ L s.heap m) (X : K.In h₀) (hk : keepIn K (.ref p) = true) (h : wpAny M A (call (.ref p) (first ++ [])) Q E s) : wpAny M A (callWith pos (.ref p) first (backTo pos (starEach [] env)) []) Q E s :=
  callWith_K0' F X hk h
theorem cwKW (_b : Nat.ble p 100000 = true) (_X : K.In h₀) (hk : keepIn K (.ref p) = true) (hall : (backToKw pos (keywordEach kws env)).all (·.1.isSome) = true)
    (h : wpAny M A (spliced (backTo pos (starEach (e :: rest) env))) (fun vs s₁ => wpAny M A (evalAll ((backToKw pos (keywordEach kws env)).map (·.2)))
      (fun ks s₂ => K.In s₂.heap ∧ wpAny M A (call (.ref p) (first ++ vs) (((backToKw pos (keywordEach kws env)).filterMap (·.1)).zip ks)) Q E s₂) E s₁) E s)
    (hplain : ((backTo pos (starEach (e :: rest) env)).any (·.1) || (backToKw pos (keywordEach kws env)).any (·.1.isNone)) = false := by rfl) (he : starEach (e :: rest) env = (false, eval e env) :: starEach rest env := by rfl) :
    wpAny M A (callWith pos (.ref p) first (backTo pos (starEach (e :: rest) env)) (backToKw pos (keywordEach kws env))) Q E s := callWith_KW _X hk hall h hplain he
theorem cwKW0 (_b : Nat.ble p 100000 = true) (_X : K.In h₀) (hk : keepIn K (.ref p) = true) (hall : (backToKw pos (keywordEach kws env)).all (·.1.isSome) = true)
    (h : wpAny M A (evalAll ((backToKw pos (keywordEach kws env)).map (·.2))) (fun ks s₂ => K.In s₂.heap ∧ wpAny M A (call (.ref p) (first ++ []) (((backToKw pos (keywordEach kws env)).filterMap (·.1)).zip ks)) Q E s₂) E s)
    (hplain : ((backTo pos (starEach [] env)).any (·.1) || (backToKw pos (keywordEach kws env)).any (·.1.isNone)) = false := by rfl) :
    wpAny M A (callWith pos (.ref p) first (backTo pos (starEach [] env)) (backToKw pos (keywordEach kws env))) Q E s := callWith_KW0 _X hk hall h hplain
end
end Mine
local macro_rules | `(tactic| walk_at "callWith ref") => `(tactic| (k_here; (with_reducible show wpAny _ _ (callWith _ (Value.ref _) _ (backTo _ (starEach [] _)) []) _ _ _); k_dflt (first
  | (refine' Mine.cwK0 ?b ?k1 ?k3 ?k2 ?_; (case b => decide); (case k1 => k_asm); (case k3 => k_asm); (case k2 => k_is); k_whole; (try dsimp only [List.nil_append, List.append_nil]))
  | (refine' callWith_M0 ?k1 ?k2 ?_; (case k1 => k_meth); (case k2 => k_is); k_whole; try dsimp only [List.nil_append, List.cons_append]))))
local macro_rules | `(tactic| walk_at "callWith ref") => `(tactic| (k_here; (with_reducible show wpAny _ _ (callWith _ (Value.ref _) _ (backTo _ (starEach (_ :: _) _)) []) _ _ _); k_dflt (first
  | (refine' Mine.cwK ?b ?k1 ?k2 ?_; (case b => decide); (case k1 => k_asm); (case k2 => k_is); k_whole)
  | (refine' callWith_M ?k1 ?k2 ?k3 ?k4 ?_; (case k1 => k_asm); (case k2 => k_asm); (case k3 => k_mem); (case k4 => k_is); k_whole))))
local macro_rules | `(tactic| walk_at "callWith ref") => `(tactic| (k_here; (with_reducible show wpAny _ _ (callWith _ (Value.ref _) _ (backTo _ (starEach [] _)) (backToKw _ (keywordEach (_ :: _) _))) _ _ _); k_dflt (refine' Mine.cwKW0 ?b ?k1 ?k2 ?k3 ?_; (case b => decide); (case k1 => k_asm); (case k2 => k_is); (case k3 => exact rfl); k_whole)))
local macro_rules | `(tactic| walk_at "callWith ref") => `(tactic| (k_here; (with_reducible show wpAny _ _ (callWith _ (Value.ref _) _ (backTo _ (starEach (_ :: _) _)) (backToKw _ (keywordEach (_ :: _) _))) _ _ _); k_dflt (refine' Mine.cwKW ?b ?k1 ?k2 ?k3 ?_; (case b => decide); (case k1 => k_asm); (case k2 => k_is); (case k3 => exact rfl); k_whole)))
local macro_rules | `(tactic| walk_at "callWith ref cons nil") => `(tactic| (k_here; (with_reducible show wpAny _ _ (callWith _ (Value.ref _) _ (backTo _ (starEach [] _)) []) _ _ _); k_dflt (refine' Mine.cwK0 ?b ?k1 ?k3 ?k2 ?_; (case b => decide); (case k1 => k_asm); (case k3 => k_asm); (case k2 => k_is); k_whole; (try dsimp only [List.nil_append, List.append_nil]))))
local macro_rules | `(tactic| walk_at "call ref") => `(tactic| (k_here; k_dflt (refine' call_cls ?k1 ?k2 ?k3 ?k4 ?k5 ?k6 ?_; (case k1 => k_asm); (case k2 => k_asm); (case k3 => k_asm); (case k4 => k_is); (case k5 => k_is); (case k6 => k_is); k_whole; intro x' d' h' F' N' l1 l2; (try k_lt l1); (try k_lt2 l2); (try k_sweep); (refine' code_def ?k1 ?k2 ?k3 ?k4 ?k5 ?kA ?kF ?kK ?k6 ?k7 ?k8 ?k9 ?kB ?_ ?c2 ?c3 ?c4 ?c5; (case k3 => k_asm); (case k6 => k_is); (case kA => exact rfl); (case kF => exact rfl); (case kK => first | assumption | exact rfl); (case k2 => k_asm); (case k1 => k_asm); (case k4 => k_asm); (case k5 => k_asm); (case k7 => k_is); (case k8 => k_room); (case k9 => first | exact BindsTo.of_eq rfl | exact binds_K (by k_in) rfl (by k_is) rfl rfl rfl); (case c5 => decide); (case kB => exact locs rfl); (case c2 => exact rfl); (case c3 => exact rfl); (case c4 => exact rfl); k_whole; intro g' L' h' FG' F' N' B' X' T'; (conv at F' => enter [4, y, 2]; whnf); (try dsimp only); (try k_lift B'); (try k_fold)))))
namespace Mine
open PySem PySem.W PyProof.Rows PySem.Calls
set_option maxHeartbeats 8000000
noncomputable abbrev LO : List Str := looseW Mine.hd.view_39 [Str.ofString "find_structure_handler", Str.ofString "BaseConverter", Str.ofString "Converter"] ++ List.map (fun x => x.name) (recsOf Mine.hd.view_39) ++ List.map (fun x => x.fst) (litsOf Mine.hd.view_39) ++ List.map (fun x => x.name) (clssOf Mine.hd.view_39 (looseW Mine.hd.view_39 [Str.ofString "find_structure_handler", Str.ofString "BaseConverter", Str.ofString "Converter"]))
abbrev fdObj (fdx : Addr) : Obj := ⟨.ref 169, some fdx, .plain, #[]⟩
abbrev fdDict (i1 i2 : Int) (t1 t2 : Nat) (c lst : Addr) : Obj := dictOf [⟨i1, .str "_converter" t1, .ref c⟩, ⟨i2, .str "_handler_pairs" t2, .ref lst⟩] 2
abbrev tupObj (vs : Array Value) (n : Nat) : Obj := { cls := .type "tuple", data := .seq vs n }
/-- the one Lambda that the n-th statement's body returns -/
def lamOf (n : Nat) : Option (Arguments × Expr × Scope) := match PySem.Challenge.pw_fq0010_01.main.body[n]? with
  | some (.FunctionDef _ _ (.Return (some (.Lambda a b sc _)) _ :: _) _ _ _ _ _ _ _) => some (a, b, sc)
  | _ => none
def lamIs : Arguments × Expr × Scope := match lamOf 27 with | some x => x | none => default
abbrev isFn (kc : Addr) (pm : Value) (c' : Addr) (ctv : Value) : Obj := kla_obj "<lambda>" "_law_is.<locals>.<lambda>" lamIs.1 lamIs.2.1 lamIs.2.2 [("kind", kc)] pm c' ctv
end Mine
namespace Mine
open PySem PySem.W PyProof.Rows PySem.Calls
set_option maxHeartbeats 8000000
def Tell (w : World) (mean : ExcName → Option Value) (mg mb : Str → Option Value) (d : Nat) (f : Value) (pos : List Value) (kw : List (Str × Value)) (need : List (Addr × Obj)) (Ret : Value → List (Addr × Obj) → Prop) : Prop :=
  ∀ (dp un : Nat) (gd : Option (List Code)) (cn : Str) (cs : Scope) (a : Addr) (ccd : Value) (cl : List (Str × Addr)) (outer : List Env) (A₀ : Around) (base h₀ : Heap) (L : Addr) (m : Str → Option Value) (news : List (Addr × Obj)) (s : Shared) (R : Result → Shared → Prop),
    Below A₀ base outer h₀ → Fr h₀ L s.heap m → (Mine.hd.heap_39 w.params).In h₀ → News h₀ L s.heap news → Top topProg LO mean mg mb h₀ → cs.kind = .function → dp + d < recursionLimit → un + 10 * d < cLine → (∀ p ∈ need, p ∈ news) →
    (∀ v tl h' tk', Fr h₀ L h' m → News h₀ L h' (tl ++ news) → Ret v tl → R (.ok (.ret v)) { s with heap := h', toks := tk' }) →
    codeAny (model PySem.Challenge.rw_fq0010_01.row.prog w) (ktrTop dp un gd cn cs L a ccd cl outer) (.call f ⟨pos, kw⟩) R s
theorem Tell.use {w : World} {mean : ExcName → Option Value} {mg mb : Str → Option Value} {d : Nat} {f : Value} {pos : List Value} {kw : List (Str × Value)} {need : List (Addr × Obj)} {Ret : Value → List (Addr × Obj) → Prop}
  (C : Tell w mean mg mb d f pos kw need Ret)
  {dp un : Nat} {gd : Option (List Code)} {cn : Str} {cs : Scope} {a : Addr} {ccd : Value} {cl : List (Str × Addr)} {outer : List Env} {A₀ : Around} {base h₀ : Heap} {L : Addr} {m : Str → Option Value} {news : List (Addr × Obj)} {s : Shared} {Q E : Value → Shared → Prop}
  (B : Below A₀ base outer h₀) (F : Fr h₀ L s.heap m) (X : (Mine.hd.heap_39 w.params).In h₀) (N : News h₀ L s.heap news) (T : Top topProg LO mean mg mb h₀) (hk : cs.kind = .function) (hdp : dp + d < recursionLimit) (hun : un + 10 * d < cLine) (hn : ∀ p ∈ need, p ∈ news)
  (hret : ∀ v tl h' tk', Fr h₀ L h' m → News h₀ L h' (tl ++ news) → Ret v tl → Q v { s with heap := h', toks := tk' }) :
  wpAny (model PySem.Challenge.rw_fq0010_01.row.prog w) (ktrTop dp un gd cn cs L a ccd cl outer) (call f pos kw) Q E s :=
  wpAny_call (C dp un gd cn cs a ccd cl outer A₀ base h₀ L m news s _ B F X N T hk hdp hun hn hret)
structure PairD where
  p : Addr
  pf : Addr
  hd : Value
  gen : Bool
  tk : Bool
  n : Nat
  b : Bool
  need : List (Addr × Obj)
structure PairOk (w : World) (mean : ExcName → Option Value) (mg mb : Str → Option Value) (news : List (Addr × Obj)) (v : Value) (x : PairD) : Prop where
  tup : (x.p, tupObj #[.ref x.pf, x.hd, .bool x.gen, .bool x.tk] x.n) ∈ news
  fn : ∃ oc od fd sl, (x.pf, (⟨oc, od, .func fd, sl⟩ : Obj)) ∈ news
  tell : Tell w mean mg mb 4 (.ref x.pf) [v] [] x.need (fun r tl => r = .bool x.b ∧ tl = [])
  sub : ∀ p ∈ x.need, p ∈ news
theorem PairOk.mono {w : World} {mean : ExcName → Option Value} {mg mb : Str → Option Value} {nd news : List (Addr × Obj)} {v : Value} {x : PairD} (h : PairOk w mean mg mb nd v x) (hs : ∀ p ∈ nd, p ∈ news) : PairOk w mean mg mb news v x :=
  ⟨hs _ h.tup, let ⟨oc, od, fd, sl, e⟩ := h.fn; ⟨oc, od, fd, sl, hs _ e⟩, h.tell, fun p hp => hs _ (h.sub p hp)⟩
section
variable {prog : Program} {w : World} {A : Around} {E : Value → Shared → Prop} {h₀ : Heap} {env : Env} {target : PySem.Expr} {body : List Stmt} {Q : Flow → Shared → Prop} {s : Shared} {ws : List (Addr × String)} {keep : List (Addr × Obj)} {news : List (Addr × Obj)}
theorem items_skip {γ : Type} (f : γ → Value) (ok : γ → Prop) (C : (Str → Option Value) → Prop) (post : List γ)
    (step : ∀ (y : γ) (r : List γ) m, ok y → C m → (∀ m', C m' → ItemsRest prog w A E h₀ env target body Q s ws keep ((r.map f).map .val) m' news) → ItemsRest prog w A E h₀ env target body Q s ws keep (.val (f y) :: (r.map f).map .val) m news)
    (fin : ∀ m, C m → ItemsRest prog w A E h₀ env target body Q s ws keep ((post.map f).map .val) m news) :
    ∀ (pre : List γ), (∀ y ∈ pre, ok y) → ∀ all, all = pre ++ post → ∀ m, C m → ItemsRest prog w A E h₀ env target body Q s ws keep ((all.map f).map .val) m news
  | [], _, _, rfl, m, hm => fin m hm
  | y :: r, hy, _, rfl, m, hm => step y (r ++ post) m (hy y (.head _)) hm (items_skip f ok C post step fin r (fun z hz => hy z (.tail _ hz)) _ rfl)
end
theorem disp_none {w : World} {mean : ExcName → Option Value} {mg mb : Str → Option Value} {nd : List (Addr × Obj)} {fd fdx c lst : Addr} {i1 i2 : Int} {t1 t2 n tq : Nat} {k : Str} {xs : List PairD}
  (hfd : (fd, fdObj fdx) ∈ nd) (hfdx : (fdx, fdDict i1 i2 t1 t2 c lst) ∈ nd) (hl : (lst, listOf (xs.map fun y => Value.ref y.p).toArray n) ∈ nd)
  (hx : ∀ x ∈ xs, PairOk w mean mg mb nd (.str k tq) x ∧ x.b = false) :
  Tell w mean mg mb 8 (.ref 151) [.ref fd, .str k tq] [] nd (fun r tl => r = .none ∧ tl = []) := by
  intro dp un gd cn cs a ccd cl outer A₀ base h₀ L m news s R B F X N T hk hdp hun hn hret
  replace hfd := hn _ hfd
  replace hfdx := hn _ hfdx
  replace hl := hn _ hl
  replace hx : ∀ x ∈ xs, PairOk w mean mg mb news (.str k tq) x ∧ x.b = false := fun x h => ⟨(hx x h).1.mono hn, (hx x h).2⟩
  (try refine wpAny_call ?_)
  k_dflt ktr_enter
  k_steps
  rename Fr _ _ _ _ => F1
  rename News _ _ _ _ => N1
  refine iter_listTurns rfl F1 N1 hl rfl rfl fun I l1 => ?_
  refine items_skip (fun y : PairD => Value.ref y.p) (fun y => PairOk w mean mg mb news (.str k tq) y ∧ y.b = false) (fun m => m "typ" = some (.str k tq) ∧ m "self" = some (.ref fd)) [] ?_ ?_ xs hx xs (List.append_nil xs).symm _ ⟨rfl, rfl⟩
  · intro y r m' hy hm ih
    obtain ⟨⟨ytup, ⟨yoc, yod, yfd, ysl, yfn⟩, ytell, ysub⟩, yb⟩ := hy
    obtain ⟨hm1, hm2⟩ := hm
    refine ItemsRest.val (fun h' tk' F' => ?_)
    refine AllObj.cons (fun o' hc' => AllObj.nil (fun N' => ?_))
    dsimp only [List.cons_append, List.nil_append] at N'
    (try dsimp only)
    refine' unpackN_ ?F ?N ?T ?k1 ?k2 ?k3 ?_
    case F => k_asm
    case N => k_asm
    case T => exact News.isTup N' (List.Mem.tail _ ytup)
    case k1 => exact rfl
    case k2 => exact rfl
    case k3 => exact rfl
    intro h' F' N'; (try k_sweep)
    k_steps
    refine ytell.use (by assumption) (by assumption) (by assumption) (by assumption) (by assumption) rfl ?_ ?_ (fun p hp => List.mem_cons_of_mem _ (ysub p hp)) ?_
    · ktr_room
    · ktr_units
    rintro v tl h' tk' F' N' ⟨rfl, rfl⟩
    rw [yb]
    (try dsimp only [List.nil_append] at N')
    k_steps
    (with_reducible rename Fr _ _ _ _ => F9)
    exact ⟨_, _, _, news, rfl, F9, by assumption, (fun p hp q hq => by rw [List.mem_singleton.mp hq]; exact Nat.ne_of_lt (l1 p hp)), ⟨⟨hl, trivial⟩, ih _ ⟨by (repeat rw [if_neg (by decide)]); exact hm1, by (repeat rw [if_neg (by decide)]); exact hm2⟩⟩⟩
  · rintro m' ⟨hm1, hm2⟩
    refine ItemsRest.zero (fun h' tk' F' N' => ?_)
    k_steps
    exact hret _ [] _ _ (by assumption) (by assumption) ⟨rfl, rfl⟩
end Mine
namespace Mine
open PySem PySem.W PyProof.Rows PySem.Calls
set_option maxHeartbeats 8000000
/-- the lambdas of BaseConverter.__init__: its i-th statement registers a list of one pair -/
def stmtAt (n : Nat) : Option Stmt := PySem.Challenge.pw_fq0010_01.main.body[n]?
def initBody : List Stmt := match stmtAt 18 with
  | some (.ClassDef _ _ _ (_ :: .FunctionDef _ _ b _ _ _ _ _ _ _ :: _) _ _ _ _ _ _ _) => b
  | _ => []
def pairLam (i : Nat) : Arguments × Expr × Scope := match (initBody[i]? : Option Stmt) with
  | some (.Expr (.Call _ [.List [.Tuple (.Lambda a b s _ :: _) _ _] _] _ _) _) => (a, b, s)
  | _ => default
abbrev initQ : Str := "BaseConverter.__init__.<locals>.<lambda>"
abbrev initFn (i : Nat) (pm : Value) (c' : Addr) (ctv : Value) : Obj := kla_obj "<lambda>" initQ (pairLam i).1 (pairLam i).2.1 (pairLam i).2.2 [] pm c' ctv
/-- the six names of kinds -/
def K6 : List Str := ["hooked", "refusing", "made", "falling", "unknown", "later"]
theorem called6 : ∀ k' ∈ K6, ([Value.str (Str.ofString "str") 198, Value.str (Str.ofString "bytes") 199, Value.str (Str.ofString "int") 200, Value.str (Str.ofString "float") 201] : List Value).any (isStrOf k') = false := by decide
theorem anies6 : ∀ k' ∈ K6, ([Value.str (Str.ofString "Any") 196] : List Value).any (isStrOf k') = false := by decide
local macro_rules | `(tactic| walk_at "eval Name") => `(tactic| (k_here; k_dflt (refine' nameX_F ?N ?c ?m ?d ?_ ?a ?b; (case b => rfl); (case a => first | rfl | assumption); (case N => k_asm); (case c => rfl); (case m => k_mem); (case d => assumption); k_whole)))
theorem tell_is {w : World} {mean : ExcName → Option Value} {mg mb : Str → Option Value} {pf kc c' : Addr} {pm ctv : Value} {oc ok : Obj} {vs : Array Value} {k k' : Str} {t tk tk' : Nat}
  (hd : oc.data = .fields vs) (hv : vs[1]? = some (.str "_law_is.<locals>.<lambda>" t)) (hok : ok.data = .cell (some (.str k tk))) :
  Tell w mean mg mb 4 (.ref pf) [.str k' tk'] [] [(pf, isFn kc pm c' ctv), (c', oc), (kc, ok)] (fun r tl => r = .bool (k' == k) ∧ tl = []) := by
  intro dp un gd cn cs a ccd cl outer A₀ base h₀ L m news s R B F X N T hk hdp hun hn hret
  have hp := hn _ (.head _)
  have hoc := hn _ (.tail _ (.head _))
  have hc := hn _ (.tail _ (.tail _ (.head _)))
  unfold isFn at hp
  have hb1 : (lamIs).1 = (lamIs).1 := rfl
  conv at hb1 => rhs; whnf
  have hb2 : (lamIs).2.1 = (lamIs).2.1 := rfl
  conv at hb2 => rhs; whnf
  have hb3 : (lamIs).2.2 = (lamIs).2.2 := rfl
  conv at hb3 => rhs; whnf
  rw [hb1, hb2, hb3] at hp
  clear hb1 hb2 hb3
  (try refine wpAny_call ?_)
  k_dflt (refine' kla_code ?k1 ?k2 ?k3 ?k4 ?k5 ?kA ?kF ?kK ?k6 ?k7 ?k8 ?k9 ?kB ?_ ?c2 ?c3 ?c4 ?c5)
  case kA => exact rfl
  case kF => exact rfl
  case kK => first | assumption | exact rfl
  case k1 => assumption
  case k2 => assumption
  case k3 => assumption
  case k4 => assumption
  case k5 => assumption
  case k6 => assumption
  case k7 => exact codeRec_news (by assumption) (by assumption) (by assumption) (by assumption)
  case k8 => ktr_room
  case k9 => exact rfl
  case c5 => decide
  case kB => exact locs rfl
  case c2 => exact rfl
  case c3 => exact rfl
  case c4 => exact rfl
  intro g' L' h' FG' F' N' B' X' T'
  (conv at F' => enter [4, y, 2]; whnf)
  (try dsimp only)
  (try k_fold)
  k_steps
  exact hret _ [] _ _ (by assumption) (by assumption) ⟨rfl, rfl⟩
theorem tell_called {w : World} {mean : ExcName → Option Value} {mg mb : Str → Option Value} {pf c' : Addr} {pm ctv : Value} {oc : Obj} {vs : Array Value} {k' : Str} {t tk' : Nat}
  (hd : oc.data = .fields vs) (hv : vs[1]? = some (.str initQ t)) (hk' : k' ∈ K6) :
  Tell w mean mg mb 4 (.ref pf) [.str k' tk'] [] [(pf, initFn 6 pm c' ctv), (c', oc)] (fun r tl => r = .bool false ∧ tl = []) := by
  intro dp un gd cn cs a ccd cl outer A₀ base h₀ L m news s R B F X N T hk hdp hun hn hret
  have hp := hn _ (.head _)
  have hoc := hn _ (.tail _ (.head _))
  unfold initFn at hp
  have hb1 : ((pairLam 6)).1 = ((pairLam 6)).1 := rfl
  conv at hb1 => rhs; whnf
  have hb2 : ((pairLam 6)).2.1 = ((pairLam 6)).2.1 := rfl
  conv at hb2 => rhs; whnf
  have hb3 : ((pairLam 6)).2.2 = ((pairLam 6)).2.2 := rfl
  conv at hb3 => rhs; whnf
  rw [hb1, hb2, hb3] at hp
  clear hb1 hb2 hb3
  (try refine wpAny_call ?_)
  k_dflt (refine' kla_code ?k1 ?k2 ?k3 ?k4 ?k5 ?kA ?kF ?kK ?k6 ?k7 ?k8 ?k9 ?kB ?_ ?c2 ?c3 ?c4 ?c5)
  case kA => exact rfl
  case kF => exact rfl
  case kK => first | assumption | exact rfl
  case k1 => assumption
  case k2 => assumption
  case k3 => assumption
  case k4 => assumption
  case k5 => assumption
  case k6 => assumption
  case k7 => exact codeRec_news (by assumption) (by assumption) (by assumption) (by assumption)
  case k8 => ktr_room
  case k9 => exact rfl
  case c5 => decide
  case kB => exact locs rfl
  case c2 => exact rfl
  case c3 => exact rfl
  case c4 => exact rfl
  intro g' L' h' FG' F' N' B' X' T'
  (conv at F' => enter [4, y, 2]; whnf)
  (try dsimp only)
  (try k_fold)
  k_steps
  rw [called6 _ hk']
  exact hret _ [] _ _ (by assumption) (by assumption) ⟨rfl, rfl⟩
theorem tell_anies {w : World} {mean : ExcName → Option Value} {mg mb : Str → Option Value} {pf c' : Addr} {pm ctv : Value} {oc : Obj} {vs : Array Value} {k' : Str} {t tk' : Nat}
  (hd : oc.data = .fields vs) (hv : vs[1]? = some (.str initQ t)) (hk' : k' ∈ K6) :
  Tell w mean mg mb 4 (.ref pf) [.str k' tk'] [] [(pf, initFn 5 pm c' ctv), (c', oc)] (fun r tl => r = .bool false ∧ tl = []) := by
  intro dp un gd cn cs a ccd cl outer A₀ base h₀ L m news s R B F X N T hk hdp hun hn hret
  have hp := hn _ (.head _)
  have hoc := hn _ (.tail _ (.head _))
  unfold initFn at hp
  have hb1 : ((pairLam 5)).1 = ((pairLam 5)).1 := rfl
  conv at hb1 => rhs; whnf
  have hb2 : ((pairLam 5)).2.1 = ((pairLam 5)).2.1 := rfl
  conv at hb2 => rhs; whnf
  have hb3 : ((pairLam 5)).2.2 = ((pairLam 5)).2.2 := rfl
  conv at hb3 => rhs; whnf
  rw [hb1, hb2, hb3] at hp
  clear hb1 hb2 hb3
  (try refine wpAny_call ?_)
  k_dflt (refine' kla_code ?k1 ?k2 ?k3 ?k4 ?k5 ?kA ?kF ?kK ?k6 ?k7 ?k8 ?k9 ?kB ?_ ?c2 ?c3 ?c4 ?c5)
  case kA => exact rfl
  case kF => exact rfl
  case kK => first | assumption | exact rfl
  case k1 => assumption
  case k2 => assumption
  case k3 => assumption
  case k4 => assumption
  case k5 => assumption
  case k6 => assumption
  case k7 => exact codeRec_news (by assumption) (by assumption) (by assumption) (by assumption)
  case k8 => ktr_room
  case k9 => exact rfl
  case c5 => decide
  case kB => exact locs rfl
  case c2 => exact rfl
  case c3 => exact rfl
  case c4 => exact rfl
  intro g' L' h' FG' F' N' B' X' T'
  (conv at F' => enter [4, y, 2]; whnf)
  (try dsimp only)
  (try k_fold)
  k_steps
  all_goals ((try rw [anies6 _ hk']); exact hret _ [] _ _ (by assumption) (by assumption) ⟨rfl, rfl⟩)
end Mine
namespace Mine
open PySem PySem.W PyProof.Rows PySem.Calls
set_option maxHeartbeats 8000000
theorem news_tl {h₀ h : Heap} {L : Addr} {p : Addr × Obj} {news : List (Addr × Obj)} (N : News h₀ L h (p :: news)) : News h₀ L h news := fun q hq => N q (List.mem_cons_of_mem _ hq)
/-- the call raises an exception of the class cls: it flies, as the frame below finds it -/
def FallN (w : World) (mean : ExcName → Option Value) (mg mb : Str → Option Value) (d : Nat) (f : Value) (pos : List Value) (kw : List (Str × Value)) (need : List (Addr × Obj)) (cls : Value) : Prop :=
  ∀ (dp un : Nat) (gd : Option (List Code)) (cn : Str) (cs : Scope) (a : Addr) (ccd : Value) (outer : List Env) (A₀ : Around) (base h₀ : Heap) (L : Addr) (m : Str → Option Value) (news : List (Addr × Obj)) (s : Shared) (R : Result → Shared → Prop),
    Below A₀ base outer h₀ → Fr h₀ L s.heap m → (Mine.hd.heap_39 w.params).In h₀ → News h₀ L s.heap news → Top topProg LO mean mg mb h₀ → cs.kind = .function → dp + d < recursionLimit → un + 10 * d < cLine → (∀ p ∈ need, p ∈ news) →
    (∀ G e h' tk', Fr h₀ L G m → RaisedSN base G (envX cn cs L a ccd [] :: outer) e cls news h' → G.UpToSlots h' → R (.error (.ref e)) { s with heap := h', toks := tk' }) →
    codeAny (model PySem.Challenge.rw_fq0010_01.row.prog w) (ktrTop dp un gd cn cs L a ccd [] outer) (.call f ⟨pos, kw⟩) R s
theorem RaisedSN.sub {base G : Heap} {l : List Env} {e : Addr} {cls : Value} {news news' : List (Addr × Obj)} {h : Heap} (R : RaisedSN base G l e cls news' h) (hs : ∀ p ∈ news, p ∈ news') : RaisedSN base G l e cls news h :=
  let ⟨B, a0, x1, x2, x3, x4⟩ := R
  ⟨B, a0, x1, x2, fun q hq => x3 q (hs q hq), x4⟩
theorem disp_hit {w : World} {mean : ExcName → Option Value} {mg mb : Str → Option Value} {nd : List (Addr × Obj)} {fd fdx c lst : Addr} {i1 i2 : Int} {t1 t2 n tq : Nat} {k : Str} {pre post : List PairD} {x : PairD}
  (hfd : (fd, fdObj fdx) ∈ nd) (hfdx : (fdx, fdDict i1 i2 t1 t2 c lst) ∈ nd) (hl : (lst, listOf ((pre ++ x :: post).map fun y => Value.ref y.p).toArray n) ∈ nd)
  (hpre : ∀ x ∈ pre, PairOk w mean mg mb nd (.str k tq) x ∧ x.b = false) (hx : PairOk w mean mg mb nd (.str k tq) x) (yb : x.b = true) (hgen : x.gen = false) :
  Tell w mean mg mb 8 (.ref 151) [.ref fd, .str k tq] [] nd (fun r tl => r = x.hd ∧ tl = []) := by
  intro dp un gd cn cs a ccd cl outer A₀ base h₀ L m news s R B F X N T hk hdp hun hn hret
  replace hfd := hn _ hfd
  replace hfdx := hn _ hfdx
  replace hl := hn _ hl
  replace hpre : ∀ x ∈ pre, PairOk w mean mg mb news (.str k tq) x ∧ x.b = false := fun x h => ⟨(hpre x h).1.mono hn, (hpre x h).2⟩
  replace hx := hx.mono hn
  (try refine wpAny_call ?_)
  k_dflt ktr_enter
  k_steps
  rename Fr _ _ _ _ => F1
  rename News _ _ _ _ => N1
  refine iter_listTurns rfl F1 N1 hl rfl rfl fun I l1 => ?_
  refine items_skip (fun y : PairD => Value.ref y.p) (fun y => PairOk w mean mg mb news (.str k tq) y ∧ y.b = false) (fun m => m "typ" = some (.str k tq) ∧ m "self" = some (.ref fd)) (x :: post) ?_ ?_ pre hpre (pre ++ x :: post) rfl _ ⟨rfl, rfl⟩
  · intro y r m' hy hm ih
    obtain ⟨⟨ytup, ⟨yoc, yod, yfd, ysl, yfn⟩, ytell, ysub⟩, yb⟩ := hy
    obtain ⟨hm1, hm2⟩ := hm
    refine ItemsRest.val (fun h' tk' F' => ?_)
    refine AllObj.cons (fun o' hc' => AllObj.nil (fun N' => ?_))
    dsimp only [List.cons_append, List.nil_append] at N'
    (try dsimp only)
    refine' unpackN_ ?F ?N ?T ?k1 ?k2 ?k3 ?_
    case F => k_asm
    case N => k_asm
    case T => exact News.isTup N' (List.Mem.tail _ ytup)
    case k1 => exact rfl
    case k2 => exact rfl
    case k3 => exact rfl
    intro h' F' N'; (try k_sweep)
    k_steps
    refine ytell.use (by assumption) (by assumption) (by assumption) (by assumption) (by assumption) rfl ?_ ?_ (fun p hp => List.mem_cons_of_mem _ (ysub p hp)) ?_
    · ktr_room
    · ktr_units
    rintro v tl h' tk' F' N' ⟨rfl, rfl⟩
    rw [yb]
    (try dsimp only [List.nil_append] at N')
    k_steps
    (with_reducible rename Fr _ _ _ _ => F9)
    exact ⟨_, _, _, news, rfl, F9, by assumption, (fun p hp q hq => by rw [List.mem_singleton.mp hq]; exact Nat.ne_of_lt (l1 p hp)), ⟨⟨hl, trivial⟩, ih _ ⟨by (repeat rw [if_neg (by decide)]); exact hm1, by (repeat rw [if_neg (by decide)]); exact hm2⟩⟩⟩
  · rintro m' ⟨hm1, hm2⟩
    obtain ⟨ytup, ⟨yoc, yod, yfd, ysl, yfn⟩, ytell, ysub⟩ := hx
    refine ItemsRest.val (fun h' tk' F' => ?_)
    refine AllObj.cons (fun o' hc' => AllObj.nil (fun N' => ?_))
    dsimp only [List.cons_append, List.nil_append] at N'
    (try dsimp only)
    refine' unpackN_ ?F ?N ?T ?k1 ?k2 ?k3 ?_
    case F => k_asm
    case N => k_asm
    case T => exact News.isTup N' (List.Mem.tail _ ytup)
    case k1 => exact rfl
    case k2 => exact rfl
    case k3 => exact rfl
    intro h' F' N'; (try k_sweep)
    k_steps
    refine ytell.use (by assumption) (by assumption) (by assumption) (by assumption) (by assumption) rfl ?_ ?_ (fun p hp => List.mem_cons_of_mem _ (ysub p hp)) ?_
    · ktr_room
    · ktr_units
    rintro v tl h' tk' F' N' ⟨rfl, rfl⟩
    rw [yb]
    (try dsimp only [List.nil_append] at N')
    rw [hgen] at *
    k_steps
    exact hret _ [] _ _ (by assumption) (news_tl (by assumption)) ⟨rfl, rfl⟩
theorem disp_made {w : World} {mean : ExcName → Option Value} {mg mb : Str → Option Value} {nd : List (Addr × Obj)} {fd fdx c lst : Addr} {i1 i2 : Int} {t1 t2 n tq : Nat} {k : Str} {pre post : List PairD} {x : PairD}
  (hfd : (fd, fdObj fdx) ∈ nd) (hfdx : (fdx, fdDict i1 i2 t1 t2 c lst) ∈ nd) (hl : (lst, listOf ((pre ++ x :: post).map fun y => Value.ref y.p).toArray n) ∈ nd)
  (hpre : ∀ x ∈ pre, PairOk w mean mg mb nd (.str k tq) x ∧ x.b = false) (hx : PairOk w mean mg mb nd (.str k tq) x) (yb : x.b = true) (hgen : x.gen = true) (htk : x.tk = false) (hhd : x.hd = .ref 516) :
  Tell w mean mg mb 8 (.ref 151) [.ref fd, .str k tq] [] nd (fun r tl => r = .ref 488 ∧ tl = []) := by
  intro dp un gd cn cs a ccd cl outer A₀ base h₀ L m news s R B F X N T hk hdp hun hn hret
  replace hfd := hn _ hfd
  replace hfdx := hn _ hfdx
  replace hl := hn _ hl
  replace hpre : ∀ x ∈ pre, PairOk w mean mg mb news (.str k tq) x ∧ x.b = false := fun x h => ⟨(hpre x h).1.mono hn, (hpre x h).2⟩
  replace hx := hx.mono hn
  (try refine wpAny_call ?_)
  k_dflt ktr_enter
  k_steps
  rename Fr _ _ _ _ => F1
  rename News _ _ _ _ => N1
  refine iter_listTurns rfl F1 N1 hl rfl rfl fun I l1 => ?_
  refine items_skip (fun y : PairD => Value.ref y.p) (fun y => PairOk w mean mg mb news (.str k tq) y ∧ y.b = false) (fun m => m "typ" = some (.str k tq) ∧ m "self" = some (.ref fd)) (x :: post) ?_ ?_ pre hpre (pre ++ x :: post) rfl _ ⟨rfl, rfl⟩
  · intro y r m' hy hm ih
    obtain ⟨⟨ytup, ⟨yoc, yod, yfd, ysl, yfn⟩, ytell, ysub⟩, yb⟩ := hy
    obtain ⟨hm1, hm2⟩ := hm
    refine ItemsRest.val (fun h' tk' F' => ?_)
    refine AllObj.cons (fun o' hc' => AllObj.nil (fun N' => ?_))
    dsimp only [List.cons_append, List.nil_append] at N'
    (try dsimp only)
    refine' unpackN_ ?F ?N ?T ?k1 ?k2 ?k3 ?_
    case F => k_asm
    case N => k_asm
    case T => exact News.isTup N' (List.Mem.tail _ ytup)
    case k1 => exact rfl
    case k2 => exact rfl
    case k3 => exact rfl
    intro h' F' N'; (try k_sweep)
    k_steps
    refine ytell.use (by assumption) (by assumption) (by assumption) (by assumption) (by assumption) rfl ?_ ?_ (fun p hp => List.mem_cons_of_mem _ (ysub p hp)) ?_
    · ktr_room
    · ktr_units
    rintro v tl h' tk' F' N' ⟨rfl, rfl⟩
    rw [yb]
    (try dsimp only [List.nil_append] at N')
    k_steps
    (with_reducible rename Fr _ _ _ _ => F9)
    exact ⟨_, _, _, news, rfl, F9, by assumption, (fun p hp q hq => by rw [List.mem_singleton.mp hq]; exact Nat.ne_of_lt (l1 p hp)), ⟨⟨hl, trivial⟩, ih _ ⟨by (repeat rw [if_neg (by decide)]); exact hm1, by (repeat rw [if_neg (by decide)]); exact hm2⟩⟩⟩
  · rintro m' ⟨hm1, hm2⟩
    obtain ⟨ytup, ⟨yoc, yod, yfd, ysl, yfn⟩, ytell, ysub⟩ := hx
    refine ItemsRest.val (fun h' tk' F' => ?_)
    refine AllObj.cons (fun o' hc' => AllObj.nil (fun N' => ?_))
    dsimp only [List.cons_append, List.nil_append] at N'
    (try dsimp only)
    refine' unpackN_ ?F ?N ?T ?k1 ?k2 ?k3 ?_
    case F => k_asm
    case N => k_asm
    case T => exact News.isTup N' (List.Mem.tail _ ytup)
    case k1 => exact rfl
    case k2 => exact rfl
    case k3 => exact rfl
    intro h' F' N'; (try k_sweep)
    k_steps
    refine ytell.use (by assumption) (by assumption) (by assumption) (by assumption) (by assumption) rfl ?_ ?_ (fun p hp => List.mem_cons_of_mem _ (ysub p hp)) ?_
    · ktr_room
    · ktr_units
    rintro v tl h' tk' F' N' ⟨rfl, rfl⟩
    rw [yb]
    (try dsimp only [List.nil_append] at N')
    rw [hgen, htk, hhd] at *
    k_steps
    exact hret _ [] _ _ (by assumption) (news_tl (by assumption)) ⟨rfl, rfl⟩
theorem disp_falls {w : World} {mean : ExcName → Option Value} {mg mb : Str → Option Value} {nd : List (Addr × Obj)} {fd fdx c lst : Addr} {i1 i2 : Int} {t1 t2 n tq : Nat} {k : Str} {pre post : List PairD} {x : PairD}
  (hfd : (fd, fdObj fdx) ∈ nd) (hfdx : (fdx, fdDict i1 i2 t1 t2 c lst) ∈ nd) (hl : (lst, listOf ((pre ++ x :: post).map fun y => Value.ref y.p).toArray n) ∈ nd)
  (hpre : ∀ x ∈ pre, PairOk w mean mg mb nd (.str k tq) x ∧ x.b = false) (hx : PairOk w mean mg mb nd (.str k tq) x) (yb : x.b = true) (hgen : x.gen = true) (htk : x.tk = false) (hhd : x.hd = .ref 523) :
  FallN w mean mg mb 12 (.ref 151) [.ref fd, .str k tq] [] nd (.type "RecursionError") := by
  intro dp un gd cn cs a ccd outer A₀ base h₀ L m news s R B F X N T hk hdp hun hn hexc
  have D := @ktsDicts_nil h₀
  replace hfd := hn _ hfd
  replace hfdx := hn _ hfdx
  replace hl := hn _ hl
  replace hpre : ∀ x ∈ pre, PairOk w mean mg mb news (.str k tq) x ∧ x.b = false := fun x h => ⟨(hpre x h).1.mono hn, (hpre x h).2⟩
  replace hx := hx.mono hn
  (try refine wpAny_call ?_)
  k_dflt ktr_enter
  k_steps
  rename Fr _ _ _ _ => F1
  rename News _ _ _ _ => N1
  refine iter_listTurns rfl F1 N1 hl rfl rfl fun I l1 => ?_
  refine items_skip (fun y : PairD => Value.ref y.p) (fun y => PairOk w mean mg mb news (.str k tq) y ∧ y.b = false) (fun m => m "typ" = some (.str k tq) ∧ m "self" = some (.ref fd)) (x :: post) ?_ ?_ pre hpre (pre ++ x :: post) rfl _ ⟨rfl, rfl⟩
  · intro y r m' hy hm ih
    obtain ⟨⟨ytup, ⟨yoc, yod, yfd, ysl, yfn⟩, ytell, ysub⟩, yb⟩ := hy
    obtain ⟨hm1, hm2⟩ := hm
    refine ItemsRest.val (fun h' tk' F' => ?_)
    refine AllObj.cons (fun o' hc' => AllObj.nil (fun N' => ?_))
    dsimp only [List.cons_append, List.nil_append] at N'
    (try dsimp only)
    refine' unpackN_ ?F ?N ?T ?k1 ?k2 ?k3 ?_
    case F => k_asm
    case N => k_asm
    case T => exact News.isTup N' (List.Mem.tail _ ytup)
    case k1 => exact rfl
    case k2 => exact rfl
    case k3 => exact rfl
    intro h' F' N'; (try k_sweep)
    k_steps
    refine ytell.use (by assumption) (by assumption) (by assumption) (by assumption) (by assumption) rfl ?_ ?_ (fun p hp => List.mem_cons_of_mem _ (ysub p hp)) ?_
    · ktr_room
    · ktr_units
    rintro v tl h' tk' F' N' ⟨rfl, rfl⟩
    rw [yb]
    (try dsimp only [List.nil_append] at N')
    k_steps
    (with_reducible rename Fr _ _ _ _ => F9)
    exact ⟨_, _, _, news, rfl, F9, by assumption, (fun p hp q hq => by rw [List.mem_singleton.mp hq]; exact Nat.ne_of_lt (l1 p hp)), ⟨⟨hl, trivial⟩, ih _ ⟨by (repeat rw [if_neg (by decide)]); exact hm1, by (repeat rw [if_neg (by decide)]); exact hm2⟩⟩⟩
  · rintro m' ⟨hm1, hm2⟩
    obtain ⟨ytup, ⟨yoc, yod, yfd, ysl, yfn⟩, ytell, ysub⟩ := hx
    refine ItemsRest.val (fun h' tk' F' => ?_)
    refine AllObj.cons (fun o' hc' => AllObj.nil (fun N' => ?_))
    dsimp only [List.cons_append, List.nil_append] at N'
    (try dsimp only)
    refine' unpackN_ ?F ?N ?T ?k1 ?k2 ?k3 ?_
    case F => k_asm
    case N => k_asm
    case T => exact News.isTup N' (List.Mem.tail _ ytup)
    case k1 => exact rfl
    case k2 => exact rfl
    case k3 => exact rfl
    intro h' F' N'; (try k_sweep)
    k_steps
    refine ytell.use (by assumption) (by assumption) (by assumption) (by assumption) (by assumption) rfl ?_ ?_ (fun p hp => List.mem_cons_of_mem _ (ysub p hp)) ?_
    · ktr_room
    · ktr_units
    rintro v tl h' tk' F' N' ⟨rfl, rfl⟩
    rw [yb]
    (try dsimp only [List.nil_append] at N')
    rw [hgen, htk, hhd] at *
    k_steps
    exact hexc _ _ _ _ (by assumption) (RaisedSN.sub (by assumption) fun p hp => List.mem_cons_of_mem _ hp) (by assumption)
end Mine
namespace Mine
open PySem PySem.W PyProof.Rows PySem.Calls
set_option maxHeartbeats 8000000
end Mine
local macro_rules | `(tactic| walk_at "getMethod ref") => `(tactic| ((with_reducible show wpAny _ _ (getMethod (Value.ref _) (Str.ofString "get") _) _ _ _); (refine kdg_method (knd := PySem.strKind _ _) (by assumption) (by k_mem) (by assumption) ?_)))
namespace Mine
open PySem PySem.W PyProof.Rows PySem.Calls
set_option maxHeartbeats 8000000
local macro_rules | `(tactic| walk_at "getMethod ref") => `(tactic| ((with_reducible show wpAny _ _ (getMethod (Value.ref _) (Str.ofString "get") _) _ _ _); (refine kdg_method (knd := PySem.strKind _ _) (by assumption) (by k_mem) (by assumption) ?_)))
end Mine
local macro_rules | `(tactic| walk_at "call builtin:dict.get") => `(tactic| ((refine kdg_get1 (knd := PySem.strKind _ _) (by assumption) (by k_mem) (by assumption) (by assumption) (strKind_is _ _ _ _) none (by rfl) ?_); (try dsimp only [Option.getD])))
namespace Mine
open PySem PySem.W PyProof.Rows PySem.Calls
set_option maxHeartbeats 8000000
local macro_rules | `(tactic| walk_at "getMethod ref") => `(tactic| ((with_reducible show wpAny _ _ (getMethod (Value.ref _) (Str.ofString "get") _) _ _ _); (refine kdg_method (knd := PySem.strKind _ _) (by assumption) (by k_mem) (by assumption) ?_)))
local macro_rules | `(tactic| walk_at "call builtin:dict.get") => `(tactic| ((refine kdg_get1 (knd := PySem.strKind _ _) (by assumption) (by k_mem) (by assumption) (by assumption) (strKind_is _ _ _ _) none (by rfl) ?_); (try dsimp only [Option.getD])))
end Mine
local macro_rules | `(tactic| walk_at "call ref") => `(tactic| (k_dflt ((refine' Tell.use ?C ?k1 ?k2 ?k3 ?k4 ?k5 ?k6 ?k7 ?k8 ?k9 ?_); (case C => assumption); (case k1 => assumption); (case k2 => assumption); (case k3 => assumption); (case k4 => assumption); (case k5 => assumption); (case k6 => first | rfl | assumption); (case k7 => ktr_room); (case k8 => ktr_units); (case k9 => (intro p hp; (repeat first | (with_reducible refine List.mem_cons_of_mem _ ?_) | (with_reducible refine List.mem_append_right _ ?_)); (first | exact hp | ((rename ∀ p ∈ _, p ∈ _ => hz); exact hz _ hp)))); (intro v tl h' tk' F' N' hv); (have e1 := hv.1); (have e2 := hv.2); (clear hv); (subst e1); (subst e2); (try dsimp only [List.nil_append] at N'))))
namespace Mine
open PySem PySem.W PyProof.Rows PySem.Calls
set_option maxHeartbeats 8000000
local macro_rules | `(tactic| walk_at "getMethod ref") => `(tactic| ((with_reducible show wpAny _ _ (getMethod (Value.ref _) (Str.ofString "get") _) _ _ _); (refine kdg_method (knd := PySem.strKind _ _) (by assumption) (by k_mem) (by assumption) ?_)))
local macro_rules | `(tactic| walk_at "call builtin:dict.get") => `(tactic| ((refine kdg_get1 (knd := PySem.strKind _ _) (by assumption) (by k_mem) (by assumption) (by assumption) (strKind_is _ _ _ _) none (by rfl) ?_); (try dsimp only [Option.getD])))
local macro_rules | `(tactic| walk_at "call ref") => `(tactic| (k_dflt ((refine' Tell.use ?C ?k1 ?k2 ?k3 ?k4 ?k5 ?k6 ?k7 ?k8 ?k9 ?_); (case C => assumption); (case k1 => assumption); (case k2 => assumption); (case k3 => assumption); (case k4 => assumption); (case k5 => assumption); (case k6 => first | rfl | assumption); (case k7 => ktr_room); (case k8 => ktr_units); (case k9 => (intro p hp; (repeat first | (with_reducible refine List.mem_cons_of_mem _ ?_) | (with_reducible refine List.mem_append_right _ ?_)); (first | exact hp | ((rename ∀ p ∈ _, p ∈ _ => hz); exact hz _ hp)))); (intro v tl h' tk' F' N' hv); (have e1 := hv.1); (have e2 := hv.2); (clear hv); (subst e1); (subst e2); (try dsimp only [List.nil_append] at N'))))
abbrev msObj (mdx : Addr) : Obj := ⟨.ref 241, some mdx, .plain, #[]⟩
abbrev msDict (i1 i2 i3 i4 : Int) (t1 t2 t3 t4 : Nat) (fb : Value) (dd fd bm : Addr) : Obj := dictOf [⟨i1, .str "_fallback_factory" t1, fb⟩, ⟨i2, .str "_direct_dispatch" t2, .ref dd⟩, ⟨i3, .str "_function_dispatch" t3, .ref fd⟩, ⟨i4, .str "dispatch" t4, .ref bm⟩] 4
theorem dwc_val {w : World} {mean : ExcName → Option Value} {mg mb : Str → Option Value} {nd : List (Addr × Obj)} {ms mdx dd fd bm fdx c lst : Addr} {od : Obj} {i1 i2 i3 i4 j1 j2 : Int} {t1 t2 t3 t4 u1 u2 tq : Nat} {k : Str} {fb : Value} {r : Addr}
  (hms : (ms, msObj mdx) ∈ nd) (hmdx : (mdx, msDict i1 i2 i3 i4 t1 t2 t3 t4 fb dd fd bm) ∈ nd) (hdd : (dd, od) ∈ nd) (hod : od.IsDictOf (PySem.strKind PySem.Challenge.rw_fq0010_01.row.prog w) []) (lod : (dd == sysModules) = false)
  (hfd : (fd, fdObj fdx) ∈ nd) (hfdx : (fdx, fdDict j1 j2 u1 u2 c lst) ∈ nd) 
  (hdisp : Tell w mean mg mb 8 (.ref 151) [.ref fd, .str k tq] [] nd (fun v tl => v = .ref r ∧ tl = [])) :
  Tell w mean mg mb 12 (.ref 194) [.ref ms, .str k tq] [] nd (fun v tl => v = .ref r ∧ tl = []) := by
  intro dp un gd cn cs a ccd cl outer A₀ base h₀ L m news s R B F X N T hk hdp hun hn hret
  replace hms := hn _ hms
  replace hmdx := hn _ hmdx
  replace hdd := hn _ hdd
  replace hfd := hn _ hfd
  replace hfdx := hn _ hfdx
  (try refine wpAny_call ?_)
  k_dflt ktr_enter
  k_steps
  exact hret _ [] _ _ (by assumption) (by assumption) ⟨rfl, rfl⟩
end Mine
namespace Mine
open PySem PySem.W PyProof.Rows PySem.Calls
set_option maxHeartbeats 8000000
theorem Tell.bound {w : World} {mean : ExcName → Option Value} {mg mb : Str → Option Value} {d : Nat} {f self : Value} {pos : List Value} {kw : List (Str × Value)} {nd : List (Addr × Obj)} {Ret : Value → List (Addr × Obj) → Prop} {bm : Addr}
  (C : Tell w mean mg mb d f (self :: pos) kw nd Ret) (hb : (bm, methodObj f self) ∈ nd) : Tell w mean mg mb d (.ref bm) pos kw nd Ret := by
  intro dp un gd cn cs a ccd cl outer A₀ base h₀ L m news s R B F X N T hk hdp hun hn hret
  exact method_call (N _ (hn _ hb)).1 (C dp un gd cn cs a ccd cl outer A₀ base h₀ L m news s R B F X N T hk hdp hun hn hret)
/-- a converter: the structure side is ms, the other mu -/
abbrev convObj (cdx ms mu to : Addr) (v1 v2 v3 v4 v5 v6 v7 : Option Value) : Obj := ⟨.ref 453, some cdx, .plain, #[none, v1, v2, some (.ref to), v3, none, v4, v5, none, some (.ref ms), none, v6, none, some (.ref mu), v7]⟩
theorem gsh_val {w : World} {mean : ExcName → Option Value} {mg mb : Str → Option Value} {nd : List (Addr × Obj)} {cv cdx to mu ms mdx dd fd : Addr} {i1 i2 i3 i4 : Int} {t1 t2 t3 t4 tq : Nat} {k : Str} {fb : Value} {r bm : Addr} {v1 v2 v3 v4 v5 v6 v7 : Option Value} {cr : Value}
  (hcd : (cdx, dictOf [] 0) ∈ nd) (hcv : (cv, convObj cdx ms mu to v1 v2 v3 v4 v5 v6 v7) ∈ nd)
  (hms : (ms, msObj mdx) ∈ nd) (hmdx : (mdx, msDict i1 i2 i3 i4 t1 t2 t3 t4 fb dd fd bm) ∈ nd) (hbm : (bm, methodObj (.ref 194) (.ref ms)) ∈ nd)
  (hdwc : Tell w mean mg mb 12 (.ref 194) [.ref ms, .str k tq] [] nd (fun v tl => v = .ref r ∧ tl = [])) :
  Tell w mean mg mb 16 (.ref 336) [.ref cv, .str k tq] [(Str.ofString "cache_result", .bool false)] nd (fun v tl => v = .ref r ∧ tl = []) := by
  have hb := hdwc.bound hbm
  intro dp un gd cn cs a ccd cl outer A₀ base h₀ L m news s R B F X N T hk hdp hun hn hret
  replace hcd := hn _ hcd
  replace hcv := hn _ hcv
  replace hms := hn _ hms
  replace hmdx := hn _ hmdx
  replace hbm := hn _ hbm
  (try refine wpAny_call ?_)
  k_dflt (refine' code_def ?k1 ?k2 ?k3 ?k4 ?k5 ?kA ?kF ?kK ?k6 ?k7 ?k8 ?k9 ?kB ?_ ?c2 ?c3 ?c4 ?c5; (case kA => exact rfl); (case kF => exact rfl); (case kK => assumption); (case k1 => k_asm); (case k2 => k_asm); (case k3 => k_asm); (case k4 => k_asm); (case k5 => k_asm); (case k6 => k_is); (case k7 => k_is); (case k8 => ktr_room); (case k9 => first | exact BindsTo.of_eq rfl | exact binds_K (by k_in) rfl (by k_is) rfl rfl rfl); (case c5 => decide); (case kB => exact locs rfl); (case c2 => exact rfl); (case c3 => exact rfl); (case c4 => exact rfl); k_whole; intro g' L' h' FG' F' N' B' X' T'; (conv at F' => enter [4, y, 2]; whnf); (try dsimp only); (try k_fold))
  k_steps
  exact hret _ [] _ _ (by assumption) (by assumption) ⟨rfl, rfl⟩
theorem gsh_val0 {w : World} {mean : ExcName → Option Value} {mg mb : Str → Option Value} {nd : List (Addr × Obj)} {cv cdx to mu ms mdx dd fd : Addr} {i1 i2 i3 i4 : Int} {t1 t2 t3 t4 tq : Nat} {k : Str} {fb : Value} {r bm : Addr} {v1 v2 v3 v4 v5 v6 v7 : Option Value} {cr : Value}
  (hcd : (cdx, dictOf [] 0) ∈ nd) (hcv : (cv, convObj cdx ms mu to v1 v2 v3 v4 v5 v6 v7) ∈ nd)
  (hms : (ms, msObj mdx) ∈ nd) (hmdx : (mdx, msDict i1 i2 i3 i4 t1 t2 t3 t4 fb dd fd bm) ∈ nd) (hbm : (bm, methodObj (.ref 194) (.ref ms)) ∈ nd)
  (hdwc : Tell w mean mg mb 12 (.ref 194) [.ref ms, .str k tq] [] nd (fun v tl => v = .ref r ∧ tl = [])) :
  Tell w mean mg mb 16 (.ref 336) [.ref cv, .str k tq] [] nd (fun v tl => v = .ref r ∧ tl = []) := by
  have hb := hdwc.bound hbm
  intro dp un gd cn cs a ccd cl outer A₀ base h₀ L m news s R B F X N T hk hdp hun hn hret
  replace hcd := hn _ hcd
  replace hcv := hn _ hcv
  replace hms := hn _ hms
  replace hmdx := hn _ hmdx
  replace hbm := hn _ hbm
  (try refine wpAny_call ?_)
  k_dflt (refine' code_def ?k1 ?k2 ?k3 ?k4 ?k5 ?kA ?kF ?kK ?k6 ?k7 ?k8 ?k9 ?kB ?_ ?c2 ?c3 ?c4 ?c5; (case kA => exact rfl); (case kF => exact rfl); (case kK => assumption); (case k1 => k_asm); (case k2 => k_asm); (case k3 => k_asm); (case k4 => k_asm); (case k5 => k_asm); (case k6 => k_is); (case k7 => k_is); (case k8 => ktr_room); (case k9 => first | exact BindsTo.of_eq rfl | exact binds_K (by k_in) rfl (by k_is) rfl rfl rfl); (case c5 => decide); (case kB => exact locs rfl); (case c2 => exact rfl); (case c3 => exact rfl); (case c4 => exact rfl); k_whole; intro g' L' h' FG' F' N' B' X' T'; (conv at F' => enter [4, y, 2]; whnf); (try dsimp only); (try k_fold))
  k_steps
  exact hret _ [] _ _ (by assumption) (by assumption) ⟨rfl, rfl⟩
theorem FallN.use {w : World} {mean : ExcName → Option Value} {mg mb : Str → Option Value} {d : Nat} {f : Value} {pos : List Value} {kw : List (Str × Value)} {need : List (Addr × Obj)} {cls : Value}
  (C : FallN w mean mg mb d f pos kw need cls)
  {dp un : Nat} {gd : Option (List Code)} {cn : Str} {cs : Scope} {a : Addr} {ccd : Value} {outer : List Env} {A₀ : Around} {base h₀ : Heap} {L : Addr} {m : Str → Option Value} {news : List (Addr × Obj)} {s : Shared} {Q E : Value → Shared → Prop}
  (B : Below A₀ base outer h₀) (F : Fr h₀ L s.heap m) (X : (Mine.hd.heap_39 w.params).In h₀) (N : News h₀ L s.heap news) (T : Top topProg LO mean mg mb h₀) (hk : cs.kind = .function) (hdp : dp + d < recursionLimit) (hun : un + 10 * d < cLine) (hn : ∀ p ∈ need, p ∈ news)
  (hexc : ∀ G e h' tk', Fr h₀ L G m → RaisedSN base G (envX cn cs L a ccd [] :: outer) e cls news h' → G.UpToSlots h' → E (.ref e) { s with heap := h', toks := tk' }) :
  wpAny (model PySem.Challenge.rw_fq0010_01.row.prog w) (ktrTop dp un gd cn cs L a ccd [] outer) (call f pos kw) Q E s :=
  wpAny_call (C dp un gd cn cs a ccd outer A₀ base h₀ L m news s _ B F X N T hk hdp hun hn hexc)
end Mine
local macro_rules | `(tactic| walk_at "call ref") => `(tactic| (k_dflt ((refine' FallN.use ?C ?k1 ?k2 ?k3 ?k4 ?k5 ?k6 ?k7 ?k8 ?k9 ?_); (case C => assumption); (case k1 => assumption); (case k2 => assumption); (case k3 => assumption); (case k4 => assumption); (case k5 => assumption); (case k6 => first | rfl | assumption); (case k7 => ktr_room); (case k8 => ktr_units); (case k9 => (intro p hp; (repeat first | (with_reducible refine List.mem_cons_of_mem _ ?_) | (with_reducible refine List.mem_append_right _ ?_)); (first | exact hp | ((rename ∀ p ∈ _, p ∈ _ => hz); exact hz _ hp)))); (intro G e h' tk' F' R' U'); (try dsimp only))))
namespace Mine
open PySem PySem.W PyProof.Rows PySem.Calls
set_option maxHeartbeats 8000000
local macro_rules | `(tactic| walk_at "call ref") => `(tactic| (k_dflt ((refine' FallN.use ?C ?k1 ?k2 ?k3 ?k4 ?k5 ?k6 ?k7 ?k8 ?k9 ?_); (case C => assumption); (case k1 => assumption); (case k2 => assumption); (case k3 => assumption); (case k4 => assumption); (case k5 => assumption); (case k6 => first | rfl | assumption); (case k7 => ktr_room); (case k8 => ktr_units); (case k9 => (intro p hp; (repeat first | (with_reducible refine List.mem_cons_of_mem _ ?_) | (with_reducible refine List.mem_append_right _ ?_)); (first | exact hp | ((rename ∀ p ∈ _, p ∈ _ => hz); exact hz _ hp)))); (intro G e h' tk' F' R' U'); (try dsimp only))))
theorem FallN.bound {w : World} {mean : ExcName → Option Value} {mg mb : Str → Option Value} {d : Nat} {f self : Value} {pos : List Value} {kw : List (Str × Value)} {nd : List (Addr × Obj)} {cls : Value} {bm : Addr}
  (C : FallN w mean mg mb d f (self :: pos) kw nd cls) (hb : (bm, methodObj f self) ∈ nd) : FallN w mean mg mb d (.ref bm) pos kw nd cls := by
  intro dp un gd cn cs a ccd outer A₀ base h₀ L m news s R B F X N T hk hdp hun hn hexc
  exact method_call (N _ (hn _ hb)).1 (C dp un gd cn cs a ccd outer A₀ base h₀ L m news s R B F X N T hk hdp hun hn hexc)
theorem dwc_falls {w : World} {mean : ExcName → Option Value} {mg mb : Str → Option Value} {nd : List (Addr × Obj)} {ms mdx dd fd bm fdx c lst : Addr} {od : Obj} {i1 i2 i3 i4 j1 j2 : Int} {t1 t2 t3 t4 u1 u2 tq : Nat} {k : Str} {fb : Value}
  (hms : (ms, msObj mdx) ∈ nd) (hmdx : (mdx, msDict i1 i2 i3 i4 t1 t2 t3 t4 fb dd fd bm) ∈ nd) (hdd : (dd, od) ∈ nd) (hod : od.IsDictOf (PySem.strKind PySem.Challenge.rw_fq0010_01.row.prog w) []) (lod : (dd == sysModules) = false)
  (hfd : (fd, fdObj fdx) ∈ nd) (hfdx : (fdx, fdDict j1 j2 u1 u2 c lst) ∈ nd) 
  (hdisp : FallN w mean mg mb 12 (.ref 151) [.ref fd, .str k tq] [] nd (.type "RecursionError")) :
  FallN w mean mg mb 16 (.ref 194) [.ref ms, .str k tq] [] nd (.type "RecursionError") := by
  intro dp un gd cn cs a ccd outer A₀ base h₀ L m news s R B F X N T hk hdp hun hn hexc
  have D := @ktsDicts_nil h₀
  replace hms := hn _ hms
  replace hmdx := hn _ hmdx
  replace hdd := hn _ hdd
  replace hfd := hn _ hfd
  replace hfdx := hn _ hfdx
  (try refine wpAny_call ?_)
  k_dflt (refine' code_def ?k1 ?k2 ?k3 ?k4 ?k5 ?kA ?kF ?kK ?k6 ?k7 ?k8 ?k9 ?kB ?_ ?c2 ?c3 ?c4 ?c5; (case kA => exact rfl); (case kF => exact rfl); (case kK => assumption); (case k1 => k_asm); (case k2 => k_asm); (case k3 => k_asm); (case k4 => k_asm); (case k5 => k_asm); (case k6 => k_is); (case k7 => k_is); (case k8 => ktr_room); (case k9 => first | exact BindsTo.of_eq rfl | exact binds_K (by k_in) rfl (by k_is) rfl rfl rfl); (case c5 => decide); (case kB => exact locs rfl); (case c2 => exact rfl); (case c3 => exact rfl); (case c4 => exact rfl); k_whole; intro g' L' h' FG' F' N' B' X' T'; (conv at F' => enter [4, y, 2]; whnf); (try dsimp only); (try k_fold))
  k_steps
  exact hexc _ _ _ _ (by assumption) (by assumption) (by assumption)
theorem gsh_falls {w : World} {mean : ExcName → Option Value} {mg mb : Str → Option Value} {nd : List (Addr × Obj)} {cv cdx to mu ms mdx dd fd : Addr} {i1 i2 i3 i4 : Int} {t1 t2 t3 t4 tq : Nat} {k : Str} {fb : Value} {bm : Addr} {v1 v2 v3 v4 v5 v6 v7 : Option Value} {cr : Value}
  (hcd : (cdx, dictOf [] 0) ∈ nd) (hcv : (cv, convObj cdx ms mu to v1 v2 v3 v4 v5 v6 v7) ∈ nd)
  (hms : (ms, msObj mdx) ∈ nd) (hmdx : (mdx, msDict i1 i2 i3 i4 t1 t2 t3 t4 fb dd fd bm) ∈ nd) (hbm : (bm, methodObj (.ref 194) (.ref ms)) ∈ nd)
  (hdwc : FallN w mean mg mb 16 (.ref 194) [.ref ms, .str k tq] [] nd (.type "RecursionError")) :
  FallN w mean mg mb 20 (.ref 336) [.ref cv, .str k tq] [(Str.ofString "cache_result", .bool false)] nd (.type "RecursionError") := by
  have hb := hdwc.bound hbm
  intro dp un gd cn cs a ccd outer A₀ base h₀ L m news s R B F X N T hk hdp hun hn hexc
  have D := @ktsDicts_nil h₀
  replace hcd := hn _ hcd
  replace hcv := hn _ hcv
  replace hms := hn _ hms
  replace hmdx := hn _ hmdx
  replace hbm := hn _ hbm
  (try refine wpAny_call ?_)
  k_dflt (refine' code_def ?k1 ?k2 ?k3 ?k4 ?k5 ?kA ?kF ?kK ?k6 ?k7 ?k8 ?k9 ?kB ?_ ?c2 ?c3 ?c4 ?c5; (case kA => exact rfl); (case kF => exact rfl); (case kK => assumption); (case k1 => k_asm); (case k2 => k_asm); (case k3 => k_asm); (case k4 => k_asm); (case k5 => k_asm); (case k6 => k_is); (case k7 => k_is); (case k8 => ktr_room); (case k9 => first | exact BindsTo.of_eq rfl | exact binds_K (by k_in) rfl (by k_is) rfl rfl rfl); (case c5 => decide); (case kB => exact locs rfl); (case c2 => exact rfl); (case c3 => exact rfl); (case c4 => exact rfl); k_whole; intro g' L' h' FG' F' N' B' X' T'; (conv at F' => enter [4, y, 2]; whnf); (try dsimp only); (try k_fold))
  k_steps
  exact hexc _ _ _ _ (by assumption) (by assumption) (by assumption)
end Mine
namespace Mine
open PySem PySem.W PyProof.Rows PySem.Calls
set_option maxHeartbeats 4000000
/-- a value contract of a call below which exceptions may be caught: the frames below may have turned -/
def TellS (w : World) (mean : ExcName → Option Value) (mg mb : Str → Option Value) (d : Nat) (f : Value) (pos : List Value) (kw : List (Str × Value)) (need : List (Addr × Obj)) (Ret : Value → List (Addr × Obj) → Prop) : Prop :=
  ∀ (dp un : Nat) (gd : Option (List Code)) (cn : Str) (cs : Scope) (a : Addr) (ccd : Value) (outer : List Env) (A₀ : Around) (base h₀ g₀ : Heap) (L : Addr) (m : Str → Option Value) (news : List (Addr × Obj)) (s : Shared) (R : Result → Shared → Prop),
    Below A₀ base outer h₀ → Fr h₀ L s.heap m → (Mine.hd.heap_39 w.params).In h₀ → News h₀ L s.heap news → Top topProg LO mean mg mb h₀ →
    (Mine.hd.heap_39 w.params).In base → Top topProg LO mean mg mb base → KtsDicts (outer.filterMap (·.frame)) h₀ → KtsTurn (outer.filterMap (·.frame)) g₀ h₀ → cs.kind = .function → dp + d < recursionLimit → un + 10 * d < cLine → (∀ p ∈ need, p ∈ news) →
    (∀ v tl h₁ h' tk', KtsTurn (outer.filterMap (·.frame)) g₀ h₁ → Fr h₁ L h' m → News h₁ L h' (tl ++ news) → Below A₀ base outer h₁ → (Mine.hd.heap_39 w.params).In h₁ → Top topProg LO mean mg mb h₁ → KtsDicts (outer.filterMap (·.frame)) h₁ → Ret v tl → R (.ok (.ret v)) { s with heap := h', toks := tk' }) →
    codeAny (model PySem.Challenge.rw_fq0010_01.row.prog w) (ktrTop dp un gd cn cs L a ccd [] outer) (.call f ⟨pos, kw⟩) R s
abbrev atObj (adx : Addr) : Obj := ⟨.ref 55, some adx, .plain, #[]⟩
abbrev atDict (i1 i2 i3 i4 i5 i6 i7 : Int) (t1 t2 t3 t4 t5 t6 t7 : Nat) (v1 v2 kd v4 v5 al cvt : Value) : Obj := dictOf [⟨i1, .str "name" t1, v1⟩, ⟨i2, .str "default" t2, v2⟩, ⟨i3, .str "type" t3, kd⟩, ⟨i4, .str "init" t4, v4⟩, ⟨i5, .str "kw_only" t5, v5⟩, ⟨i6, .str "alias" t6, al⟩, ⟨i7, .str "converter" t7, cvt⟩] 7
theorem find_plain {w : World} {mean : ExcName → Option Value} {mg mb : Str → Option Value} {nd : List (Addr × Obj)} {at_ adx cv : Addr} {i1 i2 i3 i4 i5 i6 i7 : Int} {t1 t2 t3 t4 t5 t6 t7 tq : Nat} {k : Str} {v1 v2 kd v4 v5 al : Value} {r : Addr} {b : Bool} {cdx ms mu to : Addr} {w1 w2 w3 w4 w5 w6 w7 : Option Value}
  (ha : (at_, atObj adx) ∈ nd) (hadx : (adx, atDict i1 i2 i3 i4 i5 i6 i7 t1 t2 t3 t4 t5 t6 t7 v1 v2 kd v4 v5 al .none) ∈ nd)
  (hcd : (cdx, dictOf [] 0) ∈ nd) (hcv : (cv, convObj cdx ms mu to w1 w2 w3 w4 w5 w6 w7) ∈ nd)
  (hg : Tell w mean mg mb 16 (.ref 336) [.ref cv, .str k tq] [(Str.ofString "cache_result", .bool false)] nd (fun v tl => v = .ref r ∧ tl = [])) :
  TellS w mean mg mb 24 (.ref 122) [.ref at_, .str k tq, .ref cv, .bool b] [] nd (fun v tl => v = .ref r ∧ tl = []) := by
  intro dp un gd cn cs a ccd outer A₀ base h₀ g₀ L m news s R B F X N T XB TB D T0 hk hdp hun hn hret
  replace ha := hn _ ha
  replace hadx := hn _ hadx
  replace hcd := hn _ hcd
  replace hcv := hn _ hcv
  k_dflt (refine' code_defS ?k1 ?k2 ?k3 ?k4 ?k5 ?XB ?TB ?D ?T0 ?kA ?k6 ?k7 ?k8 ?k9 ?kB ?_ ?cK ?c2 ?c3 ?c4 ?c5)
  case kA => exact rfl
  case k1 => assumption
  case k2 => assumption
  case k3 => assumption
  case k4 => assumption
  case k5 => assumption
  case XB => assumption
  case TB => assumption
  case D => assumption
  case T0 => assumption
  case k6 => k_is
  case k7 => k_is
  case k8 => ktr_room
  case k9 => first | exact BindsTo.of_eq rfl | exact binds_K (Frag.In.keeps X F.keep) rfl (by k_is) rfl rfl rfl
  case cK => assumption
  case kB => exact locs rfl
  case c2 => exact rfl
  case c3 => exact rfl
  case c4 => exact rfl
  case c5 => decide
  intro g' L' h' FG' F' N' B' X' T' D'
  (conv at F' => enter [4, y, 2]; whnf)
  (try dsimp only)
  (try k_fold)
  k_steps
  exact hret _ [] _ _ _ T0 (by assumption) (by assumption) B X T D ⟨rfl, rfl⟩
end Mine
namespace Mine
open PySem PySem.W PyProof.Rows PySem.Calls
set_option maxHeartbeats 4000000
theorem find_prefers_s {w : World} {mean : ExcName → Option Value} {mg mb : Str → Option Value} {nd : List (Addr × Obj)} {at_ adx cv : Addr} {i1 i2 i3 i4 i5 i6 i7 : Int} {t1 t2 t3 t4 t5 t6 t7 tq : Nat} {k : Str} {v1 v2 kd v4 v5 al : Value} {cdx ms mu to : Addr} {w1 w2 w3 w4 w5 w6 w7 : Option Value}
  (ha : (at_, atObj adx) ∈ nd) (hadx : (adx, atDict i1 i2 i3 i4 i5 i6 i7 t1 t2 t3 t4 t5 t6 t7 v1 v2 kd v4 v5 al (.ref 502)) ∈ nd)
  (hcd : (cdx, dictOf [] 0) ∈ nd) (hcv : (cv, convObj cdx ms mu to w1 w2 w3 w4 w5 w6 w7) ∈ nd) :
  TellS w mean mg mb 24 (.ref 122) [.ref at_, .str k tq, .ref cv, .bool true] [] nd (fun v tl => v = .none ∧ tl = []) := by
  intro dp un gd cn cs a ccd outer A₀ base h₀ g₀ L m news s R B F X N T XB TB D T0 hk hdp hun hn hret
  replace ha := hn _ ha
  replace hadx := hn _ hadx
  replace hcd := hn _ hcd
  replace hcv := hn _ hcv
  k_dflt (refine' code_defS ?k1 ?k2 ?k3 ?k4 ?k5 ?XB ?TB ?D ?T0 ?kA ?k6 ?k7 ?k8 ?k9 ?kB ?_ ?cK ?c2 ?c3 ?c4 ?c5)
  case kA => exact rfl
  case k1 => assumption
  case k2 => assumption
  case k3 => assumption
  case k4 => assumption
  case k5 => assumption
  case XB => assumption
  case TB => assumption
  case D => assumption
  case T0 => assumption
  case k6 => k_is
  case k7 => k_is
  case k8 => ktr_room
  case k9 => first | exact BindsTo.of_eq rfl | exact binds_K (Frag.In.keeps X F.keep) rfl (by k_is) rfl rfl rfl
  case cK => assumption
  case kB => exact locs rfl
  case c2 => exact rfl
  case c3 => exact rfl
  case c4 => exact rfl
  case c5 => decide
  intro g' L' h' FG' F' N' B' X' T' D'
  (conv at F' => enter [4, y, 2]; whnf)
  (try dsimp only)
  (try k_fold)
  k_steps
  exact hret _ [] _ _ _ T0 (by assumption) (by assumption) B X T D ⟨rfl, rfl⟩
theorem find_prefers_n {w : World} {mean : ExcName → Option Value} {mg mb : Str → Option Value} {nd : List (Addr × Obj)} {at_ adx cv : Addr} {i1 i2 i3 i4 i5 i6 i7 : Int} {t1 t2 t3 t4 t5 t6 t7 tq : Nat} {k : Str} {v1 v2 kd v4 v5 al : Value} {cdx ms mu to : Addr} {w1 w2 w3 w4 w5 w6 w7 : Option Value}
  (ha : (at_, atObj adx) ∈ nd) (hadx : (adx, atDict i1 i2 i3 i4 i5 i6 i7 t1 t2 t3 t4 t5 t6 t7 v1 v2 kd v4 v5 al (.ref 502)) ∈ nd)
  (hcd : (cdx, dictOf [] 0) ∈ nd) (hcv : (cv, convObj cdx ms mu to w1 w2 w3 w4 w5 w6 w7) ∈ nd) :
  TellS w mean mg mb 24 (.ref 122) [.ref at_, .none, .ref cv, .bool true] [] nd (fun v tl => v = .none ∧ tl = []) := by
  intro dp un gd cn cs a ccd outer A₀ base h₀ g₀ L m news s R B F X N T XB TB D T0 hk hdp hun hn hret
  replace ha := hn _ ha
  replace hadx := hn _ hadx
  replace hcd := hn _ hcd
  replace hcv := hn _ hcv
  k_dflt (refine' code_defS ?k1 ?k2 ?k3 ?k4 ?k5 ?XB ?TB ?D ?T0 ?kA ?k6 ?k7 ?k8 ?k9 ?kB ?_ ?cK ?c2 ?c3 ?c4 ?c5)
  case kA => exact rfl
  case k1 => assumption
  case k2 => assumption
  case k3 => assumption
  case k4 => assumption
  case k5 => assumption
  case XB => assumption
  case TB => assumption
  case D => assumption
  case T0 => assumption
  case k6 => k_is
  case k7 => k_is
  case k8 => ktr_room
  case k9 => first | exact BindsTo.of_eq rfl | exact binds_K (Frag.In.keeps X F.keep) rfl (by k_is) rfl rfl rfl
  case cK => assumption
  case kB => exact locs rfl
  case c2 => exact rfl
  case c3 => exact rfl
  case c4 => exact rfl
  case c5 => decide
  intro g' L' h' FG' F' N' B' X' T' D'
  (conv at F' => enter [4, y, 2]; whnf)
  (try dsimp only)
  (try k_fold)
  k_steps
  exact hret _ [] _ _ _ T0 (by assumption) (by assumption) B X T D ⟨rfl, rfl⟩
theorem find_plain3 {w : World} {mean : ExcName → Option Value} {mg mb : Str → Option Value} {nd : List (Addr × Obj)} {at_ adx cv : Addr} {i1 i2 i3 i4 i5 i6 i7 : Int} {t1 t2 t3 t4 t5 t6 t7 tq : Nat} {k : Str} {v1 v2 kd v4 v5 al : Value} {cdx ms mu to : Addr} {w1 w2 w3 w4 w5 w6 w7 : Option Value}
  (ha : (at_, atObj adx) ∈ nd) (hadx : (adx, atDict i1 i2 i3 i4 i5 i6 i7 t1 t2 t3 t4 t5 t6 t7 v1 v2 kd v4 v5 al .none) ∈ nd)
  (hcd : (cdx, dictOf [] 0) ∈ nd) (hcv : (cv, convObj cdx ms mu to w1 w2 w3 w4 w5 w6 w7) ∈ nd) {r : Addr}
  (hg : Tell w mean mg mb 16 (.ref 336) [.ref cv, .str k tq] [(Str.ofString "cache_result", .bool false)] nd (fun v tl => v = .ref r ∧ tl = [])) :
  TellS w mean mg mb 24 (.ref 122) [.ref at_, .str k tq, .ref cv] [] nd (fun v tl => v = .ref r ∧ tl = []) := by
  intro dp un gd cn cs a ccd outer A₀ base h₀ g₀ L m news s R B F X N T XB TB D T0 hk hdp hun hn hret
  replace ha := hn _ ha
  replace hadx := hn _ hadx
  replace hcd := hn _ hcd
  replace hcv := hn _ hcv
  k_dflt (refine' code_defS ?k1 ?k2 ?k3 ?k4 ?k5 ?XB ?TB ?D ?T0 ?kA ?k6 ?k7 ?k8 ?k9 ?kB ?_ ?cK ?c2 ?c3 ?c4 ?c5)
  case kA => exact rfl
  case k1 => assumption
  case k2 => assumption
  case k3 => assumption
  case k4 => assumption
  case k5 => assumption
  case XB => assumption
  case TB => assumption
  case D => assumption
  case T0 => assumption
  case k6 => k_is
  case k7 => k_is
  case k8 => ktr_room
  case k9 => first | exact BindsTo.of_eq rfl | exact binds_K (Frag.In.keeps X F.keep) rfl (by k_is) rfl rfl rfl
  case cK => assumption
  case kB => exact locs rfl
  case c2 => exact rfl
  case c3 => exact rfl
  case c4 => exact rfl
  case c5 => decide
  intro g' L' h' FG' F' N' B' X' T' D'
  (conv at F' => enter [4, y, 2]; whnf)
  (try dsimp only)
  (try k_fold)
  k_steps
  exact hret _ [] _ _ _ T0 (by assumption) (by assumption) B X T D ⟨rfl, rfl⟩
end Mine
namespace Mine
open PySem PySem.W PyProof.Rows PySem.Calls
set_option maxHeartbeats 1000000
theorem fn_slot : Slot "function" "__eq__" "object.__eq__" :=
  .of (owner := "object") (n := "__eq__") (by rw [typeLookup_type, builtinLookup_eq_fast]; kernel_rfl) (by decide +kernel) (by decide +kernel) (by decide +kernel)
    (by first | exact .inl (by decide +kernel) | exact .inr (by decide +kernel)) (by rw [isSubtype_type]; kernel_rfl)
section
variable {prog : Program} {w : World} {A : Around} {E : Value → Shared → Prop} {h : Heap} {g : Array GenState} {d : Drawn} {t : Nat} {os : OsState} {x y : Addr} {ox oy : Obj}
theorem tryEq_fn_other (hx : h.get? x = some ox) (cx : ox.cls = .type "function") (hy : h.get? y = some oy) (hxy : x ≠ y) {Q : Option Value → Shared → Prop} (hq : Q none ⟨h, g, d, t, os⟩) :
    wpAny (model prog w) A (tryCompare (.ref x) "__eq__" (.ref y)) Q E ⟨h, g, d, t, os⟩ := by
  simp only [tryCompare]
  refine wpAny_bind (wpAny_callSpecialIfBound?_slot ⟨_, hx, cx⟩ fn_slot (wpAny_call_entry fn_slot ⟨_, hx, cx⟩ F.cmpEntry_eq (objEq_entry_other hxy hx hy (by rw [cx]; simp) ⟨_, rfl, ?_⟩) (F.cmpArgs_eq _ _)))
  exact wpAny_pure hq
theorem tryEq_fn_same (hx : h.get? x = some ox) (cx : ox.cls = .type "function") {Q : Option Value → Shared → Prop} (hq : Q (some (.bool true)) ⟨h, g, d, t, os⟩) :
    wpAny (model prog w) A (tryCompare (.ref x) "__eq__" (.ref x)) Q E ⟨h, g, d, t, os⟩ := by
  simp only [tryCompare]
  refine wpAny_bind (wpAny_callSpecialIfBound?_slot ⟨_, hx, cx⟩ fn_slot (wpAny_call_entry fn_slot ⟨_, hx, cx⟩ F.cmpEntry_eq (objEq_entry_same ⟨_, rfl, ?_⟩) (F.cmpArgs_eq _ _)))
  exact wpAny_pure hq
theorem eq_fn_other (hx : h.get? x = some ox) (cx : ox.cls = .type "function") (hy : h.get? y = some oy) (cy : oy.cls = .type "function") (hxy : x ≠ y) (hu : A.units < cLine) {Q : Value → Shared → Prop} (hq : Q (.bool false) ⟨h, g, d, t, os⟩) :
    wpAny (model prog w) A (compareOp .Eq (.ref x) (.ref y)) Q E ⟨h, g, d, t, os⟩ := by
  show wpAny _ _ (richCompare .Eq _ _) _ _ _
  simp only [richCompare, cmpInfo_Eq, oneThing_ref]
  have hnt : ox.cls ≠ .type "tuple" := by rw [cx]; simp
  repeat (first | with_reducible refine wpAny_cRoomFor hu ?_ | (with_reducible refine wpAny_loadPart_at hx ?_; rw [cx]) | (with_reducible refine wpAny_loadPart_at hy ?_; rw [cy]) | with_reducible refine tryEq_fn_other hx cx hy hxy ?_ | with_reducible refine tryEq_fn_other hy cy hx (Ne.symm hxy) ?_ | with_reducible refine wpAny_isSame_ref_other hxy hx hy hnt ?_ | wp_step | (simp only [bne_self_eq_false, Bool.false_eq_true, if_false]))
  exact hq
theorem eq_fn_same (hx : h.get? x = some ox) (cx : ox.cls = .type "function") (hu : A.units < cLine) {Q : Value → Shared → Prop} (hq : Q (.bool true) ⟨h, g, d, t, os⟩) :
    wpAny (model prog w) A (compareOp .Eq (.ref x) (.ref x)) Q E ⟨h, g, d, t, os⟩ := by
  show wpAny _ _ (richCompare .Eq _ _) _ _ _
  simp only [richCompare, cmpInfo_Eq, oneThing_ref]
  repeat (first | with_reducible refine wpAny_cRoomFor hu ?_ | (with_reducible refine wpAny_loadPart_at hx ?_; rw [cx]) | with_reducible refine tryEq_fn_same hx cx ?_ | wp_step | (simp only [bne_self_eq_false, Bool.false_eq_true, if_false]))
  exact hq
end
end Mine
namespace Mine
open PySem PySem.W PyProof.Rows PySem.Calls
set_option maxHeartbeats 4000000
section
variable {prog : Program} {w : World} {A : Around} {E : Value → Shared → Prop} {s : Shared} {K : Frag} {h₀ : Heap} {L x y : Addr} {m : Str → Option Value} {ox oy : Obj}
theorem eq_fnK (F : Fr h₀ L s.heap m) (X : K.In h₀) (lx : K.lookup x = some ox) (cx : ox.cls = .type "function") (ly : K.lookup y = some oy) (cy : oy.cls = .type "function") (hxy : x ≠ y) (hu : A.units < cLine) {Q : Value → Shared → Prop} (hq : Q (.bool false) s) :
    wpAny (model prog w) A (compareOp .Eq (.ref x) (.ref y)) Q E s := by
  obtain ⟨h, g, d, t, os⟩ := s
  exact eq_fn_other (F.keep _ _ (X _ _ lx)) cx (F.keep _ _ (X _ _ ly)) cy hxy hu hq
theorem eq_fnK0 (F : Fr h₀ L s.heap m) (X : K.In h₀) (lx : K.lookup x = some ox) (cx : ox.cls = .type "function") (hu : A.units < cLine) {Q : Value → Shared → Prop} (hq : Q (.bool true) s) :
    wpAny (model prog w) A (compareOp .Eq (.ref x) (.ref x)) Q E s := by
  obtain ⟨h, g, d, t, os⟩ := s
  exact eq_fn_same (F.keep _ _ (X _ _ lx)) cx hu hq
end
end Mine
local macro_rules | `(tactic| walk_at "compareOp Eq ref ref") => `(tactic| (k_here; k_dflt (first
  | (refine' Mine.eq_fnK0 ?F ?X ?lx ?cx ?hu ?_; (case F => k_asm); (case X => assumption); (case lx => k_is); (case cx => exact rfl); (case hu => k_units); k_whole)
  | (refine' Mine.eq_fnK ?F ?X ?lx ?cx ?ly ?cy ?hxy ?hu ?_; (case F => k_asm); (case X => assumption); (case lx => k_is); (case cx => exact rfl); (case ly => k_is); (case cy => exact rfl); (case hxy => decide); (case hu => k_units); k_whole))))
namespace Mine
open PySem PySem.W PyProof.Rows PySem.Calls
set_option maxHeartbeats 4000000
local macro_rules | `(tactic| walk_at "compareOp Eq ref ref") => `(tactic| (k_here; k_dflt (first
  | (refine' Mine.eq_fnK0 ?F ?X ?lx ?cx ?hu ?_; (case F => k_asm); (case X => assumption); (case lx => k_is); (case cx => exact rfl); (case hu => k_units); k_whole)
  | (refine' Mine.eq_fnK ?F ?X ?lx ?cx ?ly ?cy ?hxy ?hu ?_; (case F => k_asm); (case X => assumption); (case lx => k_is); (case cx => exact rfl); (case ly => k_is); (case cy => exact rfl); (case hxy => decide); (case hu => k_units); k_whole))))
theorem eq_fnB {prog : Program} {w : World} {A : Around} {E : Value → Shared → Prop} {s : Shared} {K : Frag} {h₀ : Heap} {L x y : Addr} {m : Str → Option Value} {ox oy : Obj} (F : Fr h₀ L s.heap m) (X : K.In h₀) (lx : K.lookup x = some ox) (cx : ox.cls = .type "function") (ly : K.lookup y = some oy) (cy : oy.cls = .type "function") (hu : A.units < cLine) {Q : Value → Shared → Prop} (h1 : x = y → Q (.bool true) s) (h2 : x ≠ y → Q (.bool false) s) :
    wpAny (model prog w) A (compareOp .Eq (.ref x) (.ref y)) Q E s := by
  by_cases e : x = y
  · have q := h1 e
    subst e
    exact eq_fnK0 F X lx cx hu q
  · exact eq_fnK F X lx cx ly cy e hu (h2 e)
local macro_rules | `(tactic| walk_at "compareOp Eq ref ref") => `(tactic| (k_here; k_dflt (refine' Mine.eq_fnB ?F ?X ?lx ?cx ?ly ?cy ?hu ?_ ?_; (case F => k_asm); (case X => assumption); (case lx => assumption); (case cx => assumption); (case ly => k_is); (case cy => exact rfl); (case hu => k_units); k_whole); intro))
theorem find_own {w : World} {mean : ExcName → Option Value} {mg mb : Str → Option Value} {nd : List (Addr × Obj)} {at_ adx cv : Addr} {i1 i2 i3 i4 i5 i6 i7 : Int} {t1 t2 t3 t4 t5 t6 t7 tq : Nat} {k : Str} {v1 v2 kd v4 v5 al : Value} {cdx ms mu to r : Addr} {w1 w2 w3 w4 w5 w6 w7 : Option Value}
  (ha : (at_, atObj adx) ∈ nd) (hadx : (adx, atDict i1 i2 i3 i4 i5 i6 i7 t1 t2 t3 t4 t5 t6 t7 v1 v2 kd v4 v5 al (.ref 502)) ∈ nd)
  (hcd : (cdx, dictOf [] 0) ∈ nd) (hcv : (cv, convObj cdx ms mu to w1 w2 w3 w4 w5 w6 w7) ∈ nd) (hr : ∃ ox, (Mine.hd.heap_39 w.params).lookup r = some ox ∧ ox.cls = .type "function")
  (hg : Tell w mean mg mb 16 (.ref 336) [.ref cv, .str k tq] [(Str.ofString "cache_result", .bool false)] nd (fun v tl => v = .ref r ∧ tl = [])) :
  TellS w mean mg mb 24 (.ref 122) [.ref at_, .str k tq, .ref cv, .bool false] [] nd (fun v tl => v = (if r = 114 then .none else .ref r) ∧ tl = []) := by
  obtain ⟨oR, lR, cR⟩ := hr
  intro dp un gd cn cs a ccd outer A₀ base h₀ g₀ L m news s R B F X N T XB TB D T0 hk hdp hun hn hret
  replace ha := hn _ ha
  replace hadx := hn _ hadx
  replace hcd := hn _ hcd
  replace hcv := hn _ hcv
  k_dflt (refine' code_defS ?k1 ?k2 ?k3 ?k4 ?k5 ?XB ?TB ?D ?T0 ?kA ?k6 ?k7 ?k8 ?k9 ?kB ?_ ?cK ?c2 ?c3 ?c4 ?c5)
  case kA => exact rfl
  case k1 => assumption
  case k2 => assumption
  case k3 => assumption
  case k4 => assumption
  case k5 => assumption
  case XB => assumption
  case TB => assumption
  case D => assumption
  case T0 => assumption
  case k6 => k_is
  case k7 => k_is
  case k8 => ktr_room
  case k9 => first | exact BindsTo.of_eq rfl | exact binds_K (Frag.In.keeps X F.keep) rfl (by k_is) rfl rfl rfl
  case cK => assumption
  case kB => exact locs rfl
  case c2 => exact rfl
  case c3 => exact rfl
  case c4 => exact rfl
  case c5 => decide
  intro g' L' h' FG' F' N' B' X' T' D'
  (conv at F' => enter [4, y, 2]; whnf)
  (try dsimp only)
  (try k_fold)
  k_steps
  · (rename r = 114 => hq)
    exact hret _ [] _ _ _ T0 (by assumption) (by assumption) B X T D ⟨by rw [if_pos hq], rfl⟩
  · (rename r ≠ 114 => hq)
    exact hret _ [] _ _ _ T0 (by assumption) (by assumption) B X T D ⟨by rw [if_neg hq], rfl⟩
theorem find_own3 {w : World} {mean : ExcName → Option Value} {mg mb : Str → Option Value} {nd : List (Addr × Obj)} {at_ adx cv : Addr} {i1 i2 i3 i4 i5 i6 i7 : Int} {t1 t2 t3 t4 t5 t6 t7 tq : Nat} {k : Str} {v1 v2 kd v4 v5 al : Value} {cdx ms mu to r : Addr} {w1 w2 w3 w4 w5 w6 w7 : Option Value}
  (ha : (at_, atObj adx) ∈ nd) (hadx : (adx, atDict i1 i2 i3 i4 i5 i6 i7 t1 t2 t3 t4 t5 t6 t7 v1 v2 kd v4 v5 al (.ref 502)) ∈ nd)
  (hcd : (cdx, dictOf [] 0) ∈ nd) (hcv : (cv, convObj cdx ms mu to w1 w2 w3 w4 w5 w6 w7) ∈ nd) (hr : ∃ ox, (Mine.hd.heap_39 w.params).lookup r = some ox ∧ ox.cls = .type "function")
  (hg : Tell w mean mg mb 16 (.ref 336) [.ref cv, .str k tq] [(Str.ofString "cache_result", .bool false)] nd (fun v tl => v = .ref r ∧ tl = [])) :
  TellS w mean mg mb 24 (.ref 122) [.ref at_, .str k tq, .ref cv] [] nd (fun v tl => v = (if r = 114 then .none else .ref r) ∧ tl = []) := by
  obtain ⟨oR, lR, cR⟩ := hr
  intro dp un gd cn cs a ccd outer A₀ base h₀ g₀ L m news s R B F X N T XB TB D T0 hk hdp hun hn hret
  replace ha := hn _ ha
  replace hadx := hn _ hadx
  replace hcd := hn _ hcd
  replace hcv := hn _ hcv
  k_dflt (refine' code_defS ?k1 ?k2 ?k3 ?k4 ?k5 ?XB ?TB ?D ?T0 ?kA ?k6 ?k7 ?k8 ?k9 ?kB ?_ ?cK ?c2 ?c3 ?c4 ?c5)
  case kA => exact rfl
  case k1 => assumption
  case k2 => assumption
  case k3 => assumption
  case k4 => assumption
  case k5 => assumption
  case XB => assumption
  case TB => assumption
  case D => assumption
  case T0 => assumption
  case k6 => k_is
  case k7 => k_is
  case k8 => ktr_room
  case k9 => first | exact BindsTo.of_eq rfl | exact binds_K (Frag.In.keeps X F.keep) rfl (by k_is) rfl rfl rfl
  case cK => assumption
  case kB => exact locs rfl
  case c2 => exact rfl
  case c3 => exact rfl
  case c4 => exact rfl
  case c5 => decide
  intro g' L' h' FG' F' N' B' X' T' D'
  (conv at F' => enter [4, y, 2]; whnf)
  (try dsimp only)
  (try k_fold)
  k_steps
  · (rename r = 114 => hq)
    exact hret _ [] _ _ _ T0 (by assumption) (by assumption) B X T D ⟨by rw [if_pos hq], rfl⟩
  · (rename r ≠ 114 => hq)
    exact hret _ [] _ _ _ T0 (by assumption) (by assumption) B X T D ⟨by rw [if_neg hq], rfl⟩
end Mine
namespace Mine
open PySem PySem.W PyProof.Rows PySem.Calls
set_option maxHeartbeats 4000000
section
variable {prog : Program} {w : World} {A : Around} {E : Value → Shared → Prop} {s : Shared} {K : Frag} {h₀ : Heap} {L x C f : Addr} {m : Str → Option Value} {news : List (Addr × Obj)} {ox od : Obj} {name : Str} {expr : Bool} {Q : Value → Shared → Prop}
def noDictIn (K : Frag) (C : Addr) : Bool := (clsIn K C).any (fun cd => !cd.hasDict)
theorem findObj_fn0 {g : Value} (hh : noDictIn K C = true) (ha : findIn K (.ref C) name = some (some (.ref f))) (hg : specialIn K (.ref f) "__get__" = some (some g)) (ht : takesIn K (.ref f) = some false) (hc : copiedNames.contains name = false) :
    findObj K C (some od) name = some (.bind g (.ref f)) := by
  obtain ⟨cd, hc', hd⟩ := any_some hh
  unfold findObj
  have ho : PySem.W.ownOf cd (some od) name = some none := by unfold PySem.W.ownOf; rw [if_neg (by intro z; rw [z] at hd; cases hd)]
  rw [hc', Option.bind_some, ha, Option.bind_some]
  simp only [hg, ht, Option.bind_some, ho, hc, Bool.false_and, Bool.false_eq_true, if_false]
theorem get_bound0 (F : Fr h₀ L s.heap m) (X₀ : K.In h₀) (N : News h₀ L s.heap news) (I : InstAt s.heap x ox C (some od)) (hg : plainGet K C name = true) (hh : noDictIn K C = true) (ha : findIn K (.ref C) name = some (some (.ref f))) (hf : PySem.W.isFn K (.ref f) = true)
    (hgf : specialIn K (.ref f) "__get__" = some (some (.builtin "function.__get__"))) (ht : takesIn K (.ref f) = some false) (hc : copiedNames.contains name = false)
    (h : ∀ q h', Fr h₀ L h' m → News h₀ L h' ((q, methodObj (.ref f) (.ref x)) :: news) → (∀ p ∈ news, p.1 < q) → Q (.ref q) { s with heap := h', toks := s.toks + 1 }) : wpAny (model prog w) A (getAttr (.ref x) name expr) Q E s :=
  get_bind (X₀.keeps F.keep) I (plainGet_of hg).1 (findObj_fn0 hh ha hgf ht hc) (plainGet_of hg).2
    (wpAny_call (fn_get (s := { s with toks := s.toks + 1 }) (X₀.keeps F.keep) (beq_iff_eq.mp hf) (handed_on rfl (h s.heap.objs.size _ (F.push _) (N.push F _) fun p hp => Heap.lt_size (N p hp).1))))
end
end Mine
local macro_rules | `(tactic| walk_at "getAttr ref") => `(tactic| (k_here; k_dflt (refine' Mine.get_bound0 ?k1 ?k2 ?k3 ?k4 ?k5 ?k6 ?k7 ?k8 ?k9 ?k10 ?k11 ?_; (case k4 => k_inst); (case k1 => k_asm); (case k2 => k_asm); (case k7 => k_is); (case k3 => k_asm); (case k5 => k_is); (case k6 => first | k_is | exact rfl); (case k8 => k_is); (case k9 => k_is); (case k10 => k_is); (case k11 => decide +kernel); k_whole); intro q' h' F' N' l1; (try k_lt l1); (try k_sweep)))
namespace Mine
open PySem PySem.W PyProof.Rows PySem.Calls
set_option maxHeartbeats 4000000
local macro_rules | `(tactic| walk_at "getAttr ref") => `(tactic| (k_here; k_dflt (refine' Mine.get_bound0 ?k1 ?k2 ?k3 ?k4 ?k5 ?k6 ?k7 ?k8 ?k9 ?k10 ?k11 ?_; (case k4 => k_inst); (case k1 => k_asm); (case k2 => k_asm); (case k7 => k_is); (case k3 => k_asm); (case k5 => k_is); (case k6 => first | k_is | exact rfl); (case k8 => k_is); (case k9 => k_is); (case k10 => k_is); (case k11 => decide +kernel); k_whole); intro q' h' F' N' l1; (try k_lt l1); (try k_sweep)))
local macro_rules | `(tactic| walk_at "zz pad") => `(tactic| skip)
theorem find_nokind_o {w : World} {mean : ExcName → Option Value} {mg mb : Str → Option Value} {nd : List (Addr × Obj)} {at_ adx cv : Addr} {i1 i2 i3 i4 i5 i6 i7 : Int} {t1 t2 t3 t4 t5 t6 t7 tq : Nat} {k : Str} {v1 v2 kd v4 v5 al : Value} {cdx ms mu to : Addr} {w1 w2 w3 w4 w5 w6 w7 : Option Value}
  (ha : (at_, atObj adx) ∈ nd) (hadx : (adx, atDict i1 i2 i3 i4 i5 i6 i7 t1 t2 t3 t4 t5 t6 t7 v1 v2 kd v4 v5 al (.ref 502)) ∈ nd)
  (hcd : (cdx, dictOf [] 0) ∈ nd) (hcv : (cv, convObj cdx ms mu to w1 w2 w3 w4 w5 w6 w7) ∈ nd) :
  TellS w mean mg mb 24 (.ref 122) [.ref at_, .none, .ref cv, .bool false] [] nd (fun v tl => ∃ q, v = .ref q ∧ tl = [(q, methodObj (.ref 328) (.ref cv))]) := by
  intro dp un gd cn cs a ccd outer A₀ base h₀ g₀ L m news s R B F X N T XB TB D T0 hk hdp hun hn hret
  replace ha := hn _ ha
  replace hadx := hn _ hadx
  replace hcd := hn _ hcd
  replace hcv := hn _ hcv
  k_dflt (refine' code_defS ?k1 ?k2 ?k3 ?k4 ?k5 ?XB ?TB ?D ?T0 ?kA ?k6 ?k7 ?k8 ?k9 ?kB ?_ ?cK ?c2 ?c3 ?c4 ?c5)
  case kA => exact rfl
  case k1 => assumption
  case k2 => assumption
  case k3 => assumption
  case k4 => assumption
  case k5 => assumption
  case XB => assumption
  case TB => assumption
  case D => assumption
  case T0 => assumption
  case k6 => k_is
  case k7 => k_is
  case k8 => ktr_room
  case k9 => first | exact BindsTo.of_eq rfl | exact binds_K (Frag.In.keeps X F.keep) rfl (by k_is) rfl rfl rfl
  case cK => assumption
  case kB => exact locs rfl
  case c2 => exact rfl
  case c3 => exact rfl
  case c4 => exact rfl
  case c5 => decide
  intro g' L' h' FG' F' N' B' X' T' D'
  (conv at F' => enter [4, y, 2]; whnf)
  (try dsimp only)
  (try k_fold)
  k_steps
  exact hret _ [_] _ _ _ T0 (by assumption) (by assumption) B X T D ⟨_, rfl, rfl⟩
theorem find_nokind_o3 {w : World} {mean : ExcName → Option Value} {mg mb : Str → Option Value} {nd : List (Addr × Obj)} {at_ adx cv : Addr} {i1 i2 i3 i4 i5 i6 i7 : Int} {t1 t2 t3 t4 t5 t6 t7 tq : Nat} {k : Str} {v1 v2 kd v4 v5 al : Value} {cdx ms mu to : Addr} {w1 w2 w3 w4 w5 w6 w7 : Option Value}
  (ha : (at_, atObj adx) ∈ nd) (hadx : (adx, atDict i1 i2 i3 i4 i5 i6 i7 t1 t2 t3 t4 t5 t6 t7 v1 v2 kd v4 v5 al (.ref 502)) ∈ nd)
  (hcd : (cdx, dictOf [] 0) ∈ nd) (hcv : (cv, convObj cdx ms mu to w1 w2 w3 w4 w5 w6 w7) ∈ nd) :
  TellS w mean mg mb 24 (.ref 122) [.ref at_, .none, .ref cv] [] nd (fun v tl => ∃ q, v = .ref q ∧ tl = [(q, methodObj (.ref 328) (.ref cv))]) := by
  intro dp un gd cn cs a ccd outer A₀ base h₀ g₀ L m news s R B F X N T XB TB D T0 hk hdp hun hn hret
  replace ha := hn _ ha
  replace hadx := hn _ hadx
  replace hcd := hn _ hcd
  replace hcv := hn _ hcv
  k_dflt (refine' code_defS ?k1 ?k2 ?k3 ?k4 ?k5 ?XB ?TB ?D ?T0 ?kA ?k6 ?k7 ?k8 ?k9 ?kB ?_ ?cK ?c2 ?c3 ?c4 ?c5)
  case kA => exact rfl
  case k1 => assumption
  case k2 => assumption
  case k3 => assumption
  case k4 => assumption
  case k5 => assumption
  case XB => assumption
  case TB => assumption
  case D => assumption
  case T0 => assumption
  case k6 => k_is
  case k7 => k_is
  case k8 => ktr_room
  case k9 => first | exact BindsTo.of_eq rfl | exact binds_K (Frag.In.keeps X F.keep) rfl (by k_is) rfl rfl rfl
  case cK => assumption
  case kB => exact locs rfl
  case c2 => exact rfl
  case c3 => exact rfl
  case c4 => exact rfl
  case c5 => decide
  intro g' L' h' FG' F' N' B' X' T' D'
  (conv at F' => enter [4, y, 2]; whnf)
  (try dsimp only)
  (try k_fold)
  k_steps
  exact hret _ [_] _ _ _ T0 (by assumption) (by assumption) B X T D ⟨_, rfl, rfl⟩
theorem find_nokind_n {w : World} {mean : ExcName → Option Value} {mg mb : Str → Option Value} {nd : List (Addr × Obj)} {at_ adx cv : Addr} {i1 i2 i3 i4 i5 i6 i7 : Int} {t1 t2 t3 t4 t5 t6 t7 tq : Nat} {k : Str} {v1 v2 kd v4 v5 al : Value} {cdx ms mu to : Addr} {w1 w2 w3 w4 w5 w6 w7 : Option Value}
  (ha : (at_, atObj adx) ∈ nd) (hadx : (adx, atDict i1 i2 i3 i4 i5 i6 i7 t1 t2 t3 t4 t5 t6 t7 v1 v2 kd v4 v5 al .none) ∈ nd)
  (hcd : (cdx, dictOf [] 0) ∈ nd) (hcv : (cv, convObj cdx ms mu to w1 w2 w3 w4 w5 w6 w7) ∈ nd) :
  TellS w mean mg mb 24 (.ref 122) [.ref at_, .none, .ref cv, .bool false] [] nd (fun v tl => ∃ q, v = .ref q ∧ tl = [(q, methodObj (.ref 328) (.ref cv))]) := by
  intro dp un gd cn cs a ccd outer A₀ base h₀ g₀ L m news s R B F X N T XB TB D T0 hk hdp hun hn hret
  replace ha := hn _ ha
  replace hadx := hn _ hadx
  replace hcd := hn _ hcd
  replace hcv := hn _ hcv
  k_dflt (refine' code_defS ?k1 ?k2 ?k3 ?k4 ?k5 ?XB ?TB ?D ?T0 ?kA ?k6 ?k7 ?k8 ?k9 ?kB ?_ ?cK ?c2 ?c3 ?c4 ?c5)
  case kA => exact rfl
  case k1 => assumption
  case k2 => assumption
  case k3 => assumption
  case k4 => assumption
  case k5 => assumption
  case XB => assumption
  case TB => assumption
  case D => assumption
  case T0 => assumption
  case k6 => k_is
  case k7 => k_is
  case k8 => ktr_room
  case k9 => first | exact BindsTo.of_eq rfl | exact binds_K (Frag.In.keeps X F.keep) rfl (by k_is) rfl rfl rfl
  case cK => assumption
  case kB => exact locs rfl
  case c2 => exact rfl
  case c3 => exact rfl
  case c4 => exact rfl
  case c5 => decide
  intro g' L' h' FG' F' N' B' X' T' D'
  (conv at F' => enter [4, y, 2]; whnf)
  (try dsimp only)
  (try k_fold)
  k_steps
  exact hret _ [_] _ _ _ T0 (by assumption) (by assumption) B X T D ⟨_, rfl, rfl⟩
theorem find_nokind_nt {w : World} {mean : ExcName → Option Value} {mg mb : Str → Option Value} {nd : List (Addr × Obj)} {at_ adx cv : Addr} {i1 i2 i3 i4 i5 i6 i7 : Int} {t1 t2 t3 t4 t5 t6 t7 tq : Nat} {k : Str} {v1 v2 kd v4 v5 al : Value} {cdx ms mu to : Addr} {w1 w2 w3 w4 w5 w6 w7 : Option Value}
  (ha : (at_, atObj adx) ∈ nd) (hadx : (adx, atDict i1 i2 i3 i4 i5 i6 i7 t1 t2 t3 t4 t5 t6 t7 v1 v2 kd v4 v5 al .none) ∈ nd)
  (hcd : (cdx, dictOf [] 0) ∈ nd) (hcv : (cv, convObj cdx ms mu to w1 w2 w3 w4 w5 w6 w7) ∈ nd) :
  TellS w mean mg mb 24 (.ref 122) [.ref at_, .none, .ref cv, .bool true] [] nd (fun v tl => ∃ q, v = .ref q ∧ tl = [(q, methodObj (.ref 328) (.ref cv))]) := by
  intro dp un gd cn cs a ccd outer A₀ base h₀ g₀ L m news s R B F X N T XB TB D T0 hk hdp hun hn hret
  replace ha := hn _ ha
  replace hadx := hn _ hadx
  replace hcd := hn _ hcd
  replace hcv := hn _ hcv
  k_dflt (refine' code_defS ?k1 ?k2 ?k3 ?k4 ?k5 ?XB ?TB ?D ?T0 ?kA ?k6 ?k7 ?k8 ?k9 ?kB ?_ ?cK ?c2 ?c3 ?c4 ?c5)
  case kA => exact rfl
  case k1 => assumption
  case k2 => assumption
  case k3 => assumption
  case k4 => assumption
  case k5 => assumption
  case XB => assumption
  case TB => assumption
  case D => assumption
  case T0 => assumption
  case k6 => k_is
  case k7 => k_is
  case k8 => ktr_room
  case k9 => first | exact BindsTo.of_eq rfl | exact binds_K (Frag.In.keeps X F.keep) rfl (by k_is) rfl rfl rfl
  case cK => assumption
  case kB => exact locs rfl
  case c2 => exact rfl
  case c3 => exact rfl
  case c4 => exact rfl
  case c5 => decide
  intro g' L' h' FG' F' N' B' X' T' D'
  (conv at F' => enter [4, y, 2]; whnf)
  (try dsimp only)
  (try k_fold)
  k_steps
  exact hret _ [_] _ _ _ T0 (by assumption) (by assumption) B X T D ⟨_, rfl, rfl⟩
theorem find_nokind_n3 {w : World} {mean : ExcName → Option Value} {mg mb : Str → Option Value} {nd : List (Addr × Obj)} {at_ adx cv : Addr} {i1 i2 i3 i4 i5 i6 i7 : Int} {t1 t2 t3 t4 t5 t6 t7 tq : Nat} {k : Str} {v1 v2 kd v4 v5 al : Value} {cdx ms mu to : Addr} {w1 w2 w3 w4 w5 w6 w7 : Option Value}
  (ha : (at_, atObj adx) ∈ nd) (hadx : (adx, atDict i1 i2 i3 i4 i5 i6 i7 t1 t2 t3 t4 t5 t6 t7 v1 v2 kd v4 v5 al .none) ∈ nd)
  (hcd : (cdx, dictOf [] 0) ∈ nd) (hcv : (cv, convObj cdx ms mu to w1 w2 w3 w4 w5 w6 w7) ∈ nd) :
  TellS w mean mg mb 24 (.ref 122) [.ref at_, .none, .ref cv] [] nd (fun v tl => ∃ q, v = .ref q ∧ tl = [(q, methodObj (.ref 328) (.ref cv))]) := by
  intro dp un gd cn cs a ccd outer A₀ base h₀ g₀ L m news s R B F X N T XB TB D T0 hk hdp hun hn hret
  replace ha := hn _ ha
  replace hadx := hn _ hadx
  replace hcd := hn _ hcd
  replace hcv := hn _ hcv
  k_dflt (refine' code_defS ?k1 ?k2 ?k3 ?k4 ?k5 ?XB ?TB ?D ?T0 ?kA ?k6 ?k7 ?k8 ?k9 ?kB ?_ ?cK ?c2 ?c3 ?c4 ?c5)
  case kA => exact rfl
  case k1 => assumption
  case k2 => assumption
  case k3 => assumption
  case k4 => assumption
  case k5 => assumption
  case XB => assumption
  case TB => assumption
  case D => assumption
  case T0 => assumption
  case k6 => k_is
  case k7 => k_is
  case k8 => ktr_room
  case k9 => first | exact BindsTo.of_eq rfl | exact binds_K (Frag.In.keeps X F.keep) rfl (by k_is) rfl rfl rfl
  case cK => assumption
  case kB => exact locs rfl
  case c2 => exact rfl
  case c3 => exact rfl
  case c4 => exact rfl
  case c5 => decide
  intro g' L' h' FG' F' N' B' X' T' D'
  (conv at F' => enter [4, y, 2]; whnf)
  (try dsimp only)
  (try k_fold)
  k_steps
  exact hret _ [_] _ _ _ T0 (by assumption) (by assumption) B X T D ⟨_, rfl, rfl⟩
end Mine
namespace Mine
open PySem PySem.W PyProof.Rows PySem.Calls
set_option maxHeartbeats 4000000
theorem find_falls3 {w : World} {mean : ExcName → Option Value} {mg mb : Str → Option Value} {nd : List (Addr × Obj)} {at_ adx cv : Addr} {i1 i2 i3 i4 i5 i6 i7 : Int} {t1 t2 t3 t4 t5 t6 t7 tq : Nat} {k : Str} {v1 v2 kd v4 v5 al : Value} {cdx ms mu to : Addr} {w1 w2 w3 w4 w5 w6 w7 : Option Value}
  (ha : (at_, atObj adx) ∈ nd) (hadx : (adx, atDict i1 i2 i3 i4 i5 i6 i7 t1 t2 t3 t4 t5 t6 t7 v1 v2 kd v4 v5 al .none) ∈ nd)
  (hcd : (cdx, dictOf [] 0) ∈ nd) (hcv : (cv, convObj cdx ms mu to w1 w2 w3 w4 w5 w6 w7) ∈ nd) 
  (hg : FallN w mean mg mb 20 (.ref 336) [.ref cv, .str k tq] [(Str.ofString "cache_result", .bool false)] nd (.type "RecursionError")) :
  TellS w mean mg mb 24 (.ref 122) [.ref at_, .str k tq, .ref cv] [] nd (fun v tl => ∃ q, v = .ref q ∧ tl = [(q, methodObj (.ref 328) (.ref cv))]) := by
  intro dp un gd cn cs a ccd outer A₀ base h₀ g₀ L m news s R B F X N T XB TB D T0 hk hdp hun hn hret
  replace ha := hn _ ha
  replace hadx := hn _ hadx
  replace hcd := hn _ hcd
  replace hcv := hn _ hcv
  k_dflt (refine' code_defS ?k1 ?k2 ?k3 ?k4 ?k5 ?XB ?TB ?D ?T0 ?kA ?k6 ?k7 ?k8 ?k9 ?kB ?_ ?cK ?c2 ?c3 ?c4 ?c5)
  case kA => exact rfl
  case k1 => assumption
  case k2 => assumption
  case k3 => assumption
  case k4 => assumption
  case k5 => assumption
  case XB => assumption
  case TB => assumption
  case D => assumption
  case T0 => assumption
  case k6 => k_is
  case k7 => k_is
  case k8 => ktr_room
  case k9 => first | exact BindsTo.of_eq rfl | exact binds_K (Frag.In.keeps X F.keep) rfl (by k_is) rfl rfl rfl
  case cK => assumption
  case kB => exact locs rfl
  case c2 => exact rfl
  case c3 => exact rfl
  case c4 => exact rfl
  case c5 => decide
  intro g' L' h' FG' F' N' B' X' T' D'
  (conv at F' => enter [4, y, 2]; whnf)
  (try dsimp only)
  (try k_fold)
  k_steps
  exact hret _ [_] _ _ _ (by assumption) (by assumption) (by assumption) (by assumption) (by assumption) (by assumption) (by assumption) ⟨_, rfl, rfl⟩
theorem find_falls_f {w : World} {mean : ExcName → Option Value} {mg mb : Str → Option Value} {nd : List (Addr × Obj)} {at_ adx cv : Addr} {i1 i2 i3 i4 i5 i6 i7 : Int} {t1 t2 t3 t4 t5 t6 t7 tq : Nat} {k : Str} {v1 v2 kd v4 v5 al : Value} {cdx ms mu to : Addr} {w1 w2 w3 w4 w5 w6 w7 : Option Value}
  (ha : (at_, atObj adx) ∈ nd) (hadx : (adx, atDict i1 i2 i3 i4 i5 i6 i7 t1 t2 t3 t4 t5 t6 t7 v1 v2 kd v4 v5 al .none) ∈ nd)
  (hcd : (cdx, dictOf [] 0) ∈ nd) (hcv : (cv, convObj cdx ms mu to w1 w2 w3 w4 w5 w6 w7) ∈ nd) 
  (hg : FallN w mean mg mb 20 (.ref 336) [.ref cv, .str k tq] [(Str.ofString "cache_result", .bool false)] nd (.type "RecursionError")) :
  TellS w mean mg mb 24 (.ref 122) [.ref at_, .str k tq, .ref cv, .bool false] [] nd (fun v tl => ∃ q, v = .ref q ∧ tl = [(q, methodObj (.ref 328) (.ref cv))]) := by
  intro dp un gd cn cs a ccd outer A₀ base h₀ g₀ L m news s R B F X N T XB TB D T0 hk hdp hun hn hret
  replace ha := hn _ ha
  replace hadx := hn _ hadx
  replace hcd := hn _ hcd
  replace hcv := hn _ hcv
  k_dflt (refine' code_defS ?k1 ?k2 ?k3 ?k4 ?k5 ?XB ?TB ?D ?T0 ?kA ?k6 ?k7 ?k8 ?k9 ?kB ?_ ?cK ?c2 ?c3 ?c4 ?c5)
  case kA => exact rfl
  case k1 => assumption
  case k2 => assumption
  case k3 => assumption
  case k4 => assumption
  case k5 => assumption
  case XB => assumption
  case TB => assumption
  case D => assumption
  case T0 => assumption
  case k6 => k_is
  case k7 => k_is
  case k8 => ktr_room
  case k9 => first | exact BindsTo.of_eq rfl | exact binds_K (Frag.In.keeps X F.keep) rfl (by k_is) rfl rfl rfl
  case cK => assumption
  case kB => exact locs rfl
  case c2 => exact rfl
  case c3 => exact rfl
  case c4 => exact rfl
  case c5 => decide
  intro g' L' h' FG' F' N' B' X' T' D'
  (conv at F' => enter [4, y, 2]; whnf)
  (try dsimp only)
  (try k_fold)
  k_steps
  exact hret _ [_] _ _ _ (by assumption) (by assumption) (by assumption) (by assumption) (by assumption) (by assumption) (by assumption) ⟨_, rfl, rfl⟩
theorem find_falls_t {w : World} {mean : ExcName → Option Value} {mg mb : Str → Option Value} {nd : List (Addr × Obj)} {at_ adx cv : Addr} {i1 i2 i3 i4 i5 i6 i7 : Int} {t1 t2 t3 t4 t5 t6 t7 tq : Nat} {k : Str} {v1 v2 kd v4 v5 al : Value} {cdx ms mu to : Addr} {w1 w2 w3 w4 w5 w6 w7 : Option Value}
  (ha : (at_, atObj adx) ∈ nd) (hadx : (adx, atDict i1 i2 i3 i4 i5 i6 i7 t1 t2 t3 t4 t5 t6 t7 v1 v2 kd v4 v5 al .none) ∈ nd)
  (hcd : (cdx, dictOf [] 0) ∈ nd) (hcv : (cv, convObj cdx ms mu to w1 w2 w3 w4 w5 w6 w7) ∈ nd) 
  (hg : FallN w mean mg mb 20 (.ref 336) [.ref cv, .str k tq] [(Str.ofString "cache_result", .bool false)] nd (.type "RecursionError")) :
  TellS w mean mg mb 24 (.ref 122) [.ref at_, .str k tq, .ref cv, .bool true] [] nd (fun v tl => ∃ q, v = .ref q ∧ tl = [(q, methodObj (.ref 328) (.ref cv))]) := by
  intro dp un gd cn cs a ccd outer A₀ base h₀ g₀ L m news s R B F X N T XB TB D T0 hk hdp hun hn hret
  replace ha := hn _ ha
  replace hadx := hn _ hadx
  replace hcd := hn _ hcd
  replace hcv := hn _ hcv
  k_dflt (refine' code_defS ?k1 ?k2 ?k3 ?k4 ?k5 ?XB ?TB ?D ?T0 ?kA ?k6 ?k7 ?k8 ?k9 ?kB ?_ ?cK ?c2 ?c3 ?c4 ?c5)
  case kA => exact rfl
  case k1 => assumption
  case k2 => assumption
  case k3 => assumption
  case k4 => assumption
  case k5 => assumption
  case XB => assumption
  case TB => assumption
  case D => assumption
  case T0 => assumption
  case k6 => k_is
  case k7 => k_is
  case k8 => ktr_room
  case k9 => first | exact BindsTo.of_eq rfl | exact binds_K (Frag.In.keeps X F.keep) rfl (by k_is) rfl rfl rfl
  case cK => assumption
  case kB => exact locs rfl
  case c2 => exact rfl
  case c3 => exact rfl
  case c4 => exact rfl
  case c5 => decide
  intro g' L' h' FG' F' N' B' X' T' D'
  (conv at F' => enter [4, y, 2]; whnf)
  (try dsimp only)
  (try k_fold)
  k_steps
  exact hret _ [_] _ _ _ (by assumption) (by assumption) (by assumption) (by assumption) (by assumption) (by assumption) (by assumption) ⟨_, rfl, rfl⟩
end Mine
namespace Mine
open PySem PySem.W PyProof.Rows PySem.Calls
set_option maxHeartbeats 1000000
abbrev shMro : List Value := [.ref 69, .type "Exception", .type "BaseException", .type "object"]
abbrev shExc (t : Addr) : Obj := { cls := .ref 98, data := .fields #[.ref t, .none, .none, .none, .bool false, .none] }
section
variable {w : World} {A : Around} {E : Value → Shared → Prop} {h : Heap} {g : Array GenState} {d : Drawn} {t : Nat} {os : OsState}
theorem sh_cls (X : (Mine.hd.heap_39 w.params).In h) : ∃ nm q N bs sn sub ab col dd k0 k1 k2 k3 k5, h.get? 98 = some (excClassObj nm q 98 N bs shMro true sn sub ab col dd k0 k1 k2 k3 k5 "Exception.__new__") :=
  ⟨_, _, _, _, _, _, _, _, _, _, _, _, _, _, X _ _ rfl⟩
theorem sh_hasE : ([Value.ref 98] ++ shMro).contains (.type "Exception") = true := by decide
section
variable {nm q : Str} {N : Addr} {bs : List Value} {sn : List Str} {sub : List Value} {ab : Bool} {col : Option Bool} {dd : Option Addr} {k0 k1 k2 k3 k5 : Option Value}
theorem sh_check_new {M : Model} {rest : List Value} {kw : List (Str × Value)} {Q : Unit → Shared → Prop} (hC : h.get? 98 = some (excClassObj nm q 98 N bs shMro true sn sub ab col dd k0 k1 k2 k3 k5 "Exception.__new__"))
    (hq : Q () ⟨h, g, d, t, os⟩) : wpAny M A (checkBuiltinCall "Exception.__new__" ⟨.ref 98 :: rest, kw⟩) Q E ⟨h, g, d, t, os⟩ := by
  have F := PySem.F.excBase_Exception
  have hcont : (Value.ref 98 :: shMro).contains (.type "Exception") = true := sh_hasE
  have hstar := F.noStar
  simp only [checkBuiltinCall, F.newKind, F.newSplit, F.newRow]
  repeat (first | refine wpAny_loadPart_at hC ?_ | (refine wpAny_isSubtype_exc hC ?_; rw [hcont]) | refine wpAny_staticBase_exc hC ?_ | refine wpAny_madeBy_exc hC ?_ | simp only [bne_self_eq_false, Bool.false_eq_true, if_false] | wp_step)
  exact hq
theorem sh_new {R : Result → Shared → Prop} {rest : List Value} {kw : List (Str × Value)} (hC : h.get? 98 = some (excClassObj nm q 98 N bs shMro true sn sub ab col dd k0 k1 k2 k3 k5 "Exception.__new__"))
    (hq : R (.ok (.ret (.ref (h.objs.size + 1)))) ⟨(h.push { cls := .type "tuple", data := .seq rest.toArray }).push (shExc h.objs.size), g, d, t, os⟩) (hrest : rest.length ≤ sizeLine) :
    codeAny (model PySem.Challenge.rw_fq0010_01.row.prog w) A (.builtin "Exception.__new__" ⟨.ref 98 :: rest, kw⟩) R ⟨h, g, d, t, os⟩ := by
  have F := PySem.F.excBase_Exception
  have hends := F.ends
  have hcB : (Value.ref 98 :: shMro).contains (.type "Exception") = true := sh_hasE
  have hcA : (Value.ref 98 :: shMro).contains (.type "AttributeError") = false := by decide
  have hcN : (Value.ref 98 :: shMro).contains (.type "NameError") = false := by decide
  refine codeAny_builtinAt F.entry ?_
  unfold Builtin.«BaseException.__new__»
  refine PySem.wpAt_bind ?_
  show PySem.wpAt _ _ _ (stack >>= _) _ _ _
  refine PySem.wpAt_bind (PySem.wpAt_stack fun p below => PySem.wpAt_of_wpAny ?_)
  wp_walk
  refine PySem.wpAt_of_wpAny ?_
  rw [F.owner]
  repeat (first | with_reducible refine wpAny_madeHere_exc F.canon hC ?_ | with_reducible refine wpAny_loadPart_at hC ?_ | (with_reducible refine wpAny_isSubtype_exc hC ?_; first | rw [hcB] | rw [hcA] | rw [hcN]) | wp_step)
  show R _ _
  rw [Heap.size_push]
  exact hq
theorem sh_type_call {K : Frag} {rest : List Value} {kw : List (Str × Value)} {Q : Fin → Shared → Prop} (X : K.In h) (hC : h.get? 98 = some (excClassObj nm q 98 N bs shMro true sn sub ab col dd k0 k1 k2 k3 k5 "Exception.__new__"))
    (hi : findIn K (.ref 98) "__init__" = some (some (.ref 88))) (hf : typeIn K (.ref 88) = some (.type "function"))
    (hq : wpAny (model PySem.Challenge.rw_fq0010_01.row.prog w) A (call (.ref 88) (.ref (h.objs.size + 1) :: rest) kw) (fun r s' => r = .none ∧ Q (.done (.ret (.ref (h.objs.size + 1)))) s') E ⟨(h.push { cls := .type "tuple", data := .seq rest.toArray }).push (shExc h.objs.size), g, d, t, os⟩) (hrest : rest.length ≤ sizeLine) :
    wpAny (model PySem.Challenge.rw_fq0010_01.row.prog w) A (Builtin.«type.__call__» ⟨.ref 98 :: rest, kw⟩) Q E ⟨h, g, d, t, os⟩ := by
  have F := PySem.F.excBase_Exception
  repeat (first | with_reducible refine wpAny_loadPart_at hC ?_ | with_reducible refine wpAny_madeBy_exc hC ?_ | wp_step)
  refine codeAny_call_builtin_code (Code.quiet_builtin _ F.quiet) (sh_check_new hC ?_)
  refine sh_new hC ?_ hrest
  show wpAny _ _ _ _ _ _
  have k1 : ∀ b o, h.get? b = some o → ((h.push { cls := .type "tuple", data := .seq rest.toArray }).push (shExc h.objs.size)).get? b = some o := fun b o e => Heap.get?_push_of_some _ (Heap.get?_push_of_some _ e)
  have hC₁ := k1 _ _ hC
  have X₁ : K.In ((h.push { cls := .type "tuple", data := .seq rest.toArray }).push (shExc h.objs.size)) := X.keeps k1
  have hget : ((h.push { cls := .type "tuple", data := .seq rest.toArray }).push (shExc h.objs.size)).get? (h.objs.size + 1) = some (shExc h.objs.size) := by heap_get
  have hcC : (Value.ref 98 :: shMro).contains (.ref 98) = true := by simp
  unfold isInstance
  repeat (first | with_reducible refine wpAny_loadPart_at hget ?_ | (with_reducible refine wpAny_isSubtype_exc hC₁ ?_; rw [hcC]) | wp_step)
  show wpAny _ _ (typeLookup (.ref 98) _) _ _ _
  refine (looks_findIn (M := (model PySem.Challenge.rw_fq0010_01.row.prog w)) X₁ hi).at ?_
  refine wpAny_holding (wpAny_bind ((bind_fn X₁ _ hf).at ?_))
  refine wpAny_bind (wpAny_mono hq (fun r s' hr => ?_) fun _ _ x => x)
  obtain ⟨rfl, hQ⟩ := hr
  wp_walk
  exact hQ
end
end
end Mine
namespace Mine
open PySem PySem.W PyProof.Rows PySem.Calls
set_option maxHeartbeats 1000000
theorem wd_slot : Slot "wrapper_descriptor" "__get__" "wrapper_descriptor.__get__" := .of (owner := "wrapper_descriptor") (n := "__get__") (by rw [typeLookup_type, builtinLookup_eq_fast]; kernel_rfl) (by decide +kernel) (by decide +kernel) (by decide +kernel)
  (by first | exact .inl (by decide +kernel) | exact .inr (by decide +kernel)) (by rw [isSubtype_type]; kernel_rfl)
theorem wd_entry : entryFor table "wrapper_descriptor.__get__" = some Builtin.«wrapper_descriptor.__get__» := entryFor_of_tree (by kernel_rfl)
theorem wd_args (a b c : Value) : argsOk "wrapper_descriptor.__get__" ⟨[a, b, c], []⟩ := by unfold argsOk; kernel_rfl
theorem ei_type : typeOf (.builtin "Exception.__init__") = pure (.type "wrapper_descriptor") := by kernel_rfl
abbrev mwObj (e : Addr) : Obj := { cls := .type "method-wrapper", data := .fields #[.builtin "Exception.__init__", .ref e] }
section
variable {w : World} {A : Around} {E : Value → Shared → Prop} {h : Heap} {g : Array GenState} {d : Drawn} {t : Nat} {os : OsState}
theorem wd_get {x : Addr} {ox : Obj} {Q : Fin → Shared → Prop} (hx : h.get? x = some ox) (hc : ox.cls = .ref 98) (X : (Mine.hd.heap_39 w.params).In h)
    (hq : Q (.done (.ret (.ref h.objs.size))) ⟨h.push (mwObj x), g, d, t, os⟩) :
    wpAny (model PySem.Challenge.rw_fq0010_01.row.prog w) A (Builtin.«wrapper_descriptor.__get__» ⟨[.builtin "Exception.__init__", .ref x, .ref 98], []⟩) Q E ⟨h, g, d, t, os⟩ := by
  obtain ⟨_, _, _, _, _, _, _, _, _, _, _, _, _, _, hC⟩ := sh_cls (w := w) X
  unfold Builtin.«wrapper_descriptor.__get__»
  k_delta "getArgs"
  k_delta "bindBuiltin"
  k_delta "checkInstance"
  k_delta "nameAndClass"
  k_delta "ownerAndName"
  have e1 : (".".intercalate (("Exception.__init__" : String).cutAt '.').dropLast) = "Exception" := by decide +kernel
  have hcont : (Value.ref 98 :: shMro).contains (.type "Exception") = true := sh_hasE
  unfold newFields
  repeat (first | (with_reducible refine wpAny_loadPart_at hx ?_; rw [hc]) | (refine wpAny_isSubtype_exc hC ?_; rw [e1, hcont]) | (with_reducible refine wpAny_newObj_type ?_ (by size_fits)) | wp_step)
  all_goals exact hq
theorem sup_ga {K : Frag} {so D x : Addr} {ox : Obj} {l₀ l : List Value} {name : Str} {tk : Tok} {Q : Fin → Shared → Prop}
    (hso : h.get? so = some { cls := .type "super", dict := none, data := .fields #[.ref D, .ref x, .ref 98], slots := #[] }) (hno : Looks (model PySem.Challenge.rw_fq0010_01.row.prog w) h (opaqueClassAbove (.ref 98)) none)
    (hC : Looks (model PySem.Challenge.rw_fq0010_01.row.prog w) h (mroOf (.ref 98)) l₀) (hl : (l₀.dropWhile (· != .ref D)).drop 1 = l) (X : K.In h) (X' : (Mine.hd.heap_39 w.params).In h)
    (hf : alongIn K name l = some (some (.builtin "Exception.__init__"))) (hx : h.get? x = some ox) (hc : ox.cls = .ref 98) (hxC : x ≠ 98) (hn : (name == ("__class__" : Str)) = false)
    (hq : Q (.done (.ret (.ref h.objs.size))) ⟨h.push (mwObj x), g, d, t, os⟩) :
    wpAny (model PySem.Challenge.rw_fq0010_01.row.prog w) A (Builtin.«super.__getattribute__» ⟨[.ref so, .str name tk], []⟩) Q E ⟨h, g, d, t, os⟩ := by
  have hlk := wd_slot.lookup
  have hne : (Value.ref x == Value.ref 98) = false := by simp [hxC]
  have hTf : (⟨h, g, d, t, os⟩ : Shared).TypeIs (.builtin "Exception.__init__") "wrapper_descriptor" := ei_type
  have hdt : ({ cls := .type "super", dict := none, data := .fields #[.ref D, .ref x, .ref 98], slots := #[] } : Obj).data = .fields #[.ref D, .ref x, .ref 98] := rfl
  have f0 : (#[.ref D, .ref x, .ref 98] : Array Value)[0]? = some (.ref D) := rfl
  have f1 : (#[.ref D, .ref x, .ref 98] : Array Value)[1]? = some (.ref x) := rfl
  have f2 : (#[.ref D, .ref x, .ref 98] : Array Value)[2]? = some (.ref 98) := rfl
  unfold Builtin.«super.__getattribute__»
  repeat (first
    | (with_reducible refine wpAny_field hso hdt f0 ?_) | (with_reducible refine wpAny_field hso hdt f1 ?_) | (with_reducible refine wpAny_field hso hdt f2 ?_)
    | (with_reducible refine ks_wpAny_notOpaque hno ?_)
    | (with_reducible refine Looks.at hC ?_; rw [hl])
    | (refine ks_forIn_along X (fun _ _ => rfl) rfl ?_ hf)
    | (with_reducible refine wpAny_typeOf hTf ?_)
    | (with_reducible refine wpAny_call_entry wd_slot hTf wd_entry ?_ (wd_args _ _ _))
    | (refine wd_get hx hc X' ?_)
    | (with_reducible refine ⟨_, rfl, ?_⟩)
    | (simp only [hn, hne, Bool.or_false, Bool.false_eq_true, if_false])
    | wp_step
    | dsimp only)
  all_goals exact hq
theorem bexc_init {x t0 : Addr} {a b : Value} {Q : Fin → Shared → Prop} (hx : h.get? x = some (shExc t0))
    (hq : Q (.done (.ret .none)) ⟨(h.push { cls := .type "tuple", data := .seq #[a, b] }).update x (Obj.mapFields (·.setIfInBounds 0 (.ref h.objs.size))), g, d, t, os⟩) :
    wpAny (model PySem.Challenge.rw_fq0010_01.row.prog w) A (Builtin.«BaseException.__init__» ⟨[.ref x, a, b], []⟩) Q E ⟨h, g, d, t, os⟩ := by
  wp_walk
  exact hq
theorem mw_check {M : Model} {x : Addr} {ox : Obj} (a₀ b₀ : Value) {Q : Unit → Shared → Prop} (hx : h.get? x = some ox) (hc : ox.cls = .ref 98) (X : (Mine.hd.heap_39 w.params).In h)
    (hq : Q () ⟨h, g, d, t, os⟩) : wpAny M A (checkBoundCall "Exception.__init__" ⟨[.ref x, a₀, b₀], []⟩) Q E ⟨h, g, d, t, os⟩ := by
  obtain ⟨_, _, _, _, _, _, _, _, _, _, _, _, _, _, hC⟩ := sh_cls (w := w) X
  have F := PySem.F.excBase_Exception
  have hcB : (Value.ref 98 :: shMro).contains (.type "Exception") = true := sh_hasE
  have hshort := F.noStar
  simp only [checkBoundCall, F.initKind, F.initRow]
  repeat (first | (with_reducible refine wpAny_loadPart_at hx ?_; rw [hc]) | with_reducible refine wpAny_loadPart_at hC ?_ | (with_reducible refine wpAny_isSubtype_exc hC ?_; rw [hcB]) | wp_step)
  exact hq
theorem mw_call {q x t0 : Addr} {a b : Value} {Q : Value → Shared → Prop} (X : (Mine.hd.heap_39 w.params).In h) (hm : h.get? q = some (mwObj x)) (hx : h.get? x = some (shExc t0))
    (hq : Q .none ⟨(h.push { cls := .type "tuple", data := .seq #[a, b] }).update x (Obj.mapFields (·.setIfInBounds 0 (.ref h.objs.size))), g, d, t, os⟩) :
    wpAny (model PySem.Challenge.rw_fq0010_01.row.prog w) A (call (.ref q) [a, b]) Q E ⟨h, g, d, t, os⟩ := by
  refine wpAny_call (codeAny_of_tree ?_)
  show wpAny _ A.in1 (callAny (.ref q) ⟨[a, b], []⟩) _ _ _
  unfold callAny
  refine wpAny_bind (wpAny_load hm ?_)
  dsimp only
  rw [if_pos (by decide)]
  show wpAny _ A.in1 (checkBoundCall "Exception.__init__" ⟨[.ref x, a, b], []⟩ >>= fun _ => again (.builtin "Exception.__init__" ⟨[.ref x, a, b], []⟩)) _ _ _
  refine wpAny_bind (mw_check (w := w) a b hx rfl X ?_)
  refine wpAny_pure ⟨Code.quiet_builtin _ (by decide +kernel), codeAny_builtin PySem.F.excCall_Exception.initEntry ?_⟩
  refine bexc_init hx ?_
  exact hq
theorem sup_getMethod {K : Frag} {so D x : Addr} {ox : Obj} {l₀ l : List Value} {name : Str} {pl : Sem Bool} {Q : Value × List Value → Shared → Prop}
    (hso : h.get? so = some { cls := .type "super", dict := none, data := .fields #[.ref D, .ref x, .ref 98], slots := #[] }) (hno : Looks (model PySem.Challenge.rw_fq0010_01.row.prog w) h (opaqueClassAbove (.ref 98)) none)
    (hC : Looks (model PySem.Challenge.rw_fq0010_01.row.prog w) h (mroOf (.ref 98)) l₀) (hl : (l₀.dropWhile (· != .ref D)).drop 1 = l) (X : K.In h) (X' : (Mine.hd.heap_39 w.params).In h)
    (hf : alongIn K name l = some (some (.builtin "Exception.__init__"))) (hx : h.get? x = some ox) (hc : ox.cls = .ref 98) (hxC : x ≠ 98) (hn : (name == ("__class__" : Str)) = false)
    (hq : Q (.ref h.objs.size, []) ⟨h.push (mwObj x), g, d, t + 1, os⟩) :
    wpAny (model PySem.Challenge.rw_fq0010_01.row.prog w) A (getMethod (.ref so) name pl) Q E ⟨h, g, d, t, os⟩ := by
  have hlk := PySem.F.ks_slot_super_ga.lookup
  have hcan := PySem.F.ks_canon_super_ga
  have hT : ∀ t', (⟨h, g, d, t', os⟩ : Shared).TypeIs (.ref so) "super" := fun _ => ⟨_, hso, rfl⟩
  unfold getMethod
  refine wpAny_bind (wpAny_specialOf (hT _) hlk ?_)
  show wpAny _ _ (if (Manifest.canonical "super.__getattribute__" != "object.__getattribute__") = true then _ else _) _ _ _
  rw [if_pos hcan]
  unfold getAttr getAttrBy
  refine wpAny_bind (wpAny_bind (wpAny_mkText (wpAny_holding (wpAny_bind (wpAny_typeOf (hT _) (wpAny_bind (wpAny_of_eq hlk ?_)))))))
  show wpAny _ _ (getAttrByItsOwn (.ref so) (.str name t) (.type "super") (.builtin "super.__getattribute__") true false) _ _ _
  unfold getAttrByItsOwn hookBefore callGetattribute boundAndCalled
  refine wpAny_bind (wpAny_of_eq (show (if onTheHeap (.type "super") then typeLookup (.type "super") "__getattr__" else pure none) = pure none from rfl) ?_)
  refine wpAny_bind (wpAny_attempt (wpAny_holding ?_))
  show wpAny _ _ (bindSpecial (.builtin "super.__getattribute__") (.ref so) >>= _) _ _ _
  refine wpAny_bind (wpAny_of_eq (PySem.F.ks_slot_super_ga.bind _) ?_)
  refine wpAny_mono (Q := fun v s' => v = .ref h.objs.size ∧ s' = ⟨h.push (mwObj x), g, d, t + 1, os⟩) (E := fun _ _ => False)
    (wpAny_call_entry PySem.F.ks_slot_super_ga (hT _) PySem.F.ks_entry_super_ga (sup_ga hso hno hC hl X X' hf hx hc hxC hn ⟨_, rfl, rfl, rfl⟩) (PySem.F.ks_gaArgs_super _ _)) (fun v s' hv => ?_) fun _ _ z => z.elim
  obtain ⟨rfl, rfl⟩ := hv
  exact wpAny_pure (wpAny_pure hq)
end
end Mine
namespace Mine
open PySem PySem.W PyProof.Rows PySem.Calls PySem.Builtin PySem.Builtin.ObjectAttr
set_option maxHeartbeats 1000000
abbrev shExcD (t dx : Addr) : Obj := { cls := .ref 98, dict := some dx, data := .fields #[.ref t, .none, .none, .none, .bool false, .none] }
abbrev tup2 (a b : Value) : Obj := { cls := .type "tuple", data := .seq #[a, b] }
theorem refuse_sh (self : Value) : refuseLoop self "__setattr__" (.ref 98 :: shMro) = pure () := by
  rw [refuseLoop_ref, refuseLoop_ref]
  kernel_rfl
section
variable {w : World} {A : Around} {E : Value → Shared → Prop} {s : Shared} {h₀ : Heap} {L x : Addr} {m : Str → Option Value} {post : List (Addr × Obj)} {t0 : Addr} {name : Str} {v : Value}
theorem mwK_call {q : Addr} {a b : Value} {Q : Value → Shared → Prop} (F : Fr h₀ L s.heap m) (X₀ : (Mine.hd.heap_39 w.params).In h₀) (N : News h₀ L s.heap ((x, shExc t0) :: post)) (hm : s.heap.get? q = some (mwObj x)) (h2 : ∀ p ∈ post, p.1 ≠ x)
    (h : ∀ t2 h', Fr h₀ L h' m → News h₀ L h' ((x, shExc t2) :: (t2, tup2 a b) :: post) → (∀ p ∈ (t2, tup2 a b) :: post, p.1 ≠ x) → Q .none {s with heap := h'}) :
    wpAny (model PySem.Challenge.rw_fq0010_01.row.prog w) A (call (.ref q) [a, b]) Q E s := by
  obtain ⟨hh, g, d, t, os⟩ := s
  refine mw_call (X₀.keeps F.keep) hm (N _ (.head _)).1 ?_
  have N1 := N.push F (tup2 a b)
  have F1 := F.push (tup2 a b)
  have ne : hh.objs.size ≠ x := Nat.ne_of_gt (Heap.lt_size (N _ (.head _)).1)
  have hne : ∀ p ∈ (hh.objs.size, tup2 a b) :: post, p.1 ≠ x := fun p hp => by
    rcases List.mem_cons.mp hp with rfl | hp
    · exact ne
    · exact h2 p hp
  obtain ⟨F2, N2⟩ := news_upd (pre := []) (post := (hh.objs.size, tup2 a b) :: post) (d := x) (o := shExc t0) (o' := shExc hh.objs.size) (f := Obj.mapFields (·.setIfInBounds 0 (.ref hh.objs.size))) F1
    (fun p hp => by
      rcases List.mem_cons.mp hp with rfl | hp
      · exact N1 _ (.tail _ (.head _))
      · rcases List.mem_cons.mp hp with rfl | hp
        · exact N1 _ (.head _)
        · exact N1 _ (.tail _ (.tail _ hp))) (fun _ h => nomatch h) hne rfl rfl
  exact h _ _ F2 N2 hne
theorem sh_osa_open {R : Result → Shared → Prop} {ox : Obj} {od : Option Obj} {tk : Tok} (X : (Mine.hd.heap_39 w.params).In s.heap) (I : InstAt s.heap x ox 98 od) (ht : takerIn (Mine.hd.heap_39 w.params) 98 name = some none)
    (h : ∀ b, wpAny (model PySem.Challenge.rw_fq0010_01.row.prog w) A.in1 (storeInOwnDict (.ref x) (.ref 98) (.str name tk) name v b)
      (fun fin s' => match fin with | .done f => R (.ok f) s' | .again c' => c'.quiet = true ∧ codeAny (model PySem.Challenge.rw_fq0010_01.row.prog w) A c' R s') (fun e s' => R (.error e) s') s) :
    codeAny (model PySem.Challenge.rw_fq0010_01.row.prog w) A (.call (.builtin "object.__setattr__") ⟨[.ref x, .str name tk, v], []⟩) R s := by
  have SF := PySem.F.store_object
  obtain ⟨cd, hc, hm⟩ : ∃ cd, clsIn (Mine.hd.heap_39 w.params) 98 = some cd ∧ cd.mro = .ref 98 :: shMro := ⟨_, rfl, rfl⟩
  have sub : Looks (model PySem.Challenge.rw_fq0010_01.row.prog w) s.heap (isInstance (.ref x) (.type "object")) true := I.type.andThen (looks_mroIn X (by unfold mroIn; rw [hc, Option.bind_some, hm]; rfl))
  refine codeAny_call_builtin SF.slot.plain SF.entry (@check_slot (model PySem.Challenge.rw_fq0010_01.row.prog w) _ _ s "object.__setattr__" "object" "__setattr__" (.ref x) [.str name tk, v] [] _ SF.kind SF.split sub (SF.args (.ref x) (.str name tk) v) ?_)
  obtain ⟨attr, ha, hr⟩ := Option.bind_eq_some_iff.mp ht
  have hmm : Looks (model PySem.Challenge.rw_fq0010_01.row.prog w) s.heap (mroOf (.ref 98)) (.ref 98 :: shMro) := hm ▸ (looks_clsIn X hc).andThen .now
  have L3 : Looks (model PySem.Challenge.rw_fq0010_01.row.prog w) s.heap (storeTaker? attr) none := by
    cases attr with
    | none => cases hr; exact .now
    | some a =>
      obtain ⟨b, hb, hr⟩ := Option.map_eq_some_iff.mp hr
      refine (looks_takesIn X hb).andThen ?_
      cases b <;> first | exact .now | cases hr
  rw [osa_eq, refuse_eq]
  refine wpAny_bind (wpAny_bind (I.type.here (wpAny_bind (hmm.here ?_))))
  rw [refuse_sh]
  refine wpAny_pure (wpAny_bind (I.type.here (wpAny_bind ((looks_findIn X ha).here (wpAny_bind (L3.here ?_))))))
  exact h _
theorem sh_set0 {Q : Unit → Shared → Prop} (F : Fr h₀ L s.heap m) (X₀ : (Mine.hd.heap_39 w.params).In h₀) (N : News h₀ L s.heap ((x, shExc t0) :: post)) (h2 : ∀ p ∈ post, p.1 ≠ x)
    (ht : takerIn (Mine.hd.heap_39 w.params) 98 name = some none) (hs : findIn (Mine.hd.heap_39 w.params) (.ref 98) "__setattr__" = some (some (.builtin "object.__setattr__")))
    (h : ∀ dx h', Fr h₀ L h' m → News h₀ L h' ((x, shExcD t0 dx) :: (dx, dictOf [⟨PyData.keyHash w.params name, .str name (s.toks + 1), v⟩] 1) :: post) →
      (∀ p ∈ post, p.1 ≠ dx) → dx ≠ x → Q () {s with heap := h', toks := s.toks + 2}) :
    wpAny (model PySem.Challenge.rw_fq0010_01.row.prog w) A (setAttr (.ref x) name v) Q E s := by
  have X := X₀.keeps F.keep
  obtain ⟨cd, hc, hd⟩ : ∃ cd, clsIn (Mine.hd.heap_39 w.params) 98 = some cd ∧ cd.hasDict = true := ⟨_, rfl, rfl⟩
  have hx := (N _ (.head _)).1
  have I : InstAt s.heap x (shExc t0) 98 none := ⟨hx, rfl, rfl, trivial⟩
  refine set_plain X I hs ?_
  obtain ⟨hh, g, d, t, os⟩ := s
  refine sh_osa_open (s := ⟨hh, g, d, t + 1, os⟩) X I ht fun b => ?_
  have N1 := N.push F (dictOf [] 0)
  have F1 := F.push (dictOf [] 0)
  have ne : hh.objs.size ≠ x := Nat.ne_of_gt (Heap.lt_size hx)
  have hpost : ∀ p ∈ post, p.1 ≠ hh.objs.size := fun p hp => Nat.ne_of_lt (Heap.lt_size (N p (.tail _ hp)).1)
  obtain ⟨F2, N2⟩ := news_upd (pre := [(hh.objs.size, dictOf [] 0)]) (post := post) (d := x) (o := shExc t0) (o' := shExcD t0 hh.objs.size) (f := fun o => { o with dict := some hh.objs.size }) F1 N1
    (fun p hp => by rw [List.mem_singleton.mp hp]; exact ne) h2 rfl rfl
  obtain ⟨F3, N3⟩ := news_upd (pre := []) (post := (x, shExcD t0 hh.objs.size) :: post) (d := hh.objs.size) (o := dictOf [] 0) (o' := dictOf [⟨PyData.keyHash w.params name, .str name (t + 1), v⟩] 1)
    (f := Obj.putName name (PyData.keyHash w.params name) (.str name (t + 1)) v) F2 N2 (fun _ h => nomatch h)
    (fun p hp => by
      rcases List.mem_cons.mp hp with rfl | hp
      · exact ne.symm
      · exact hpost p hp) (by rw [putName_dict]; rfl) rfl
  have D0 := (N2 (hh.objs.size, dictOf [] 0) (.head _)).1
  have D1 := (N3 (hh.objs.size, _) (.head _)).1
  refine wpAny_bind (wpAny_pure (wpAny_bind (wpAny_bind (wpAny_loadPart hx (wpAny_bind ((looks_clsIn X hc).at ?_))))))
  rw [hd, if_neg (by decide)]
  dsimp only
  rw [if_neg (by simp [typeHasDict])]
  refine wpAny_bind (wpAny_alloc' (wpAny_bind (wpAny_update' (N1 _ (.tail _ (.head _))).1 (wpAny_pure ?_))))
  refine wpAny_bind (wpAny_pure (wpAny_bind ?_))
  unfold nsSet
  refine wpAny_bind (wpAny_bind (wpAny_askSetting (wpAny_pure (wpAny_bind (wpAny_mkText (wpAny_bind (wpAny_loadPart D0 ?_)))))))
  dsimp only
  have c : (!(#[] : Array DictEntry).any (·.key.isStr name) && (#[] : Array DictEntry).any (·.refKey)) = false := by simp
  rw [aRefKeyMayBeTheName_at, c]
  refine wpAny_updatePart D0 ?_
  refine wpAny_bind (wpAny_lookBehind D1 (pastItsLine_dict (by rw [List.size_toArray, sizeLine_eq]; show 1 ≤ _; omega)) ?_)
  exact wpAny_pure (h _ _ F3 (fun p hp => by
      rcases List.mem_cons.mp hp with rfl | hp
      · exact N3 _ (.tail _ (.head _))
      · rcases List.mem_cons.mp hp with rfl | hp
        · exact N3 _ (.head _)
        · exact N3 _ (.tail _ (.tail _ hp))) hpost ne)
theorem sh_set1 {dx : Addr} {es : List DictEntry} {n : Nat} {Q : Unit → Shared → Prop} (F : Fr h₀ L s.heap m) (X₀ : (Mine.hd.heap_39 w.params).In h₀) (N : News h₀ L s.heap ((x, shExcD t0 dx) :: (dx, dictOf es n) :: post)) (h3 : ∀ p ∈ post, p.1 ≠ dx) (hne : dx ≠ x)
    (ht : takerIn (Mine.hd.heap_39 w.params) 98 name = some none) (hs : findIn (Mine.hd.heap_39 w.params) (.ref 98) "__setattr__" = some (some (.builtin "object.__setattr__"))) (hl : (getL name es).isSome = true) (hz : (putL name (PyData.keyHash w.params name) (.str name (s.toks + 1)) v es).length ≤ 1000)
    (h : ∀ h', Fr h₀ L h' m → News h₀ L h' ((x, shExcD t0 dx) :: (dx, dictOf (putL name (PyData.keyHash w.params name) (.str name (s.toks + 1)) v es) (putN name es n)) :: post) → Q () {s with heap := h', toks := s.toks + 2}) :
    wpAny (model PySem.Challenge.rw_fq0010_01.row.prog w) A (setAttr (.ref x) name v) Q E s := by
  have X := X₀.keeps F.keep
  obtain ⟨cd, hc, hd⟩ : ∃ cd, clsIn (Mine.hd.heap_39 w.params) 98 = some cd ∧ cd.hasDict = true := ⟨_, rfl, rfl⟩
  have hx := (N _ (.head _)).1
  have D := (N _ (.tail _ (.head _))).1
  have I : InstAt s.heap x (shExcD t0 dx) 98 (some (dictOf es n)) := ⟨hx, rfl, rfl, D⟩
  refine set_plain X I hs ?_
  obtain ⟨hh, g, d, t, os⟩ := s
  refine sh_osa_open (s := ⟨hh, g, d, t + 1, os⟩) X I ht fun b => ?_
  obtain ⟨F2, N2⟩ := news_upd (pre := [(x, shExcD t0 dx)]) (post := post) (d := dx) (o := dictOf es n) (o' := dictOf (putL name (PyData.keyHash w.params name) (.str name (t + 1)) v es) (putN name es n)) (f := Obj.putName name (PyData.keyHash w.params name) (.str name (t + 1)) v) F N
    (fun p hp => by rw [List.mem_singleton.mp hp]; exact hne.symm) h3 (putName_dict ..) rfl
  have D1 := (N2 _ (.tail _ (.head _))).1
  refine wpAny_bind (wpAny_pure (wpAny_bind (wpAny_bind (wpAny_loadPart hx (wpAny_bind ((looks_clsIn X hc).at ?_))))))
  rw [hd, if_neg (by decide)]
  refine wpAny_pure (a := some dx) (wpAny_bind (wpAny_pure (wpAny_bind ?_)))
  unfold nsSet
  refine wpAny_bind (wpAny_bind (wpAny_askSetting (wpAny_pure (wpAny_bind (wpAny_mkText (wpAny_bind (wpAny_loadPart D ?_)))))))
  have hl' : (lookIn name (dictOf es n)).isSome = true := by rw [lookIn_dict]; exact hl
  unfold lookIn at hl'
  dsimp only at hl' hz ⊢
  have c : (!es.toArray.any (·.key.isStr name) && es.toArray.any (·.refKey)) = false := by
    rw [← Array.any_toList, ← Array.any_toList]
    split at hl'
    · rename_i en he
      rw [List.any_eq_true.mpr ⟨en, List.mem_of_find?_eq_some he, List.find?_some he⟩]; rfl
    · split at hl'
      · cases hl'
      · rename_i z; rw [Bool.not_eq_true] at z; rw [z, Bool.and_false]
  rw [aRefKeyMayBeTheName_at, c]
  refine wpAny_updatePart D ?_
  refine wpAny_bind (wpAny_lookBehind D1 (pastItsLine_dict (by rw [List.size_toArray, sizeLine_eq]; omega)) ?_)
  exact wpAny_pure (h _ F2 N2)
end
end Mine
namespace Mine
open PySem PySem.W PyProof.Rows PySem.Calls
set_option maxHeartbeats 1000000
section
variable {w : World} {A : Around} {E : Value → Shared → Prop} {s : Shared} {h₀ : Heap} {L x q so : Addr} {m : Str → Option Value} {news post : List (Addr × Obj)} {t0 : Addr} {name : Str} {v : Value}
theorem sh_call {rest : List Value} {kw : List (Str × Value)} {Q : Value → Shared → Prop} (F : Fr h₀ L s.heap m) (X₀ : (Mine.hd.heap_39 w.params).In h₀) (N : News h₀ L s.heap news) (hrest : rest.length ≤ sizeLine)
    (hi : findIn (Mine.hd.heap_39 w.params) (.ref 98) "__init__" = some (some (.ref 88))) (hf : typeIn (Mine.hd.heap_39 w.params) (.ref 88) = some (.type "function"))
    (h : ∀ t0 x h', Fr h₀ L h' m → News h₀ L h' ((x, shExc t0) :: (t0, { cls := .type "tuple", data := .seq rest.toArray }) :: news) → (∀ p ∈ news, p.1 < t0) → t0 < x →
      wpAny (model PySem.Challenge.rw_fq0010_01.row.prog w) (A.under (.builtin "type.__call__" ⟨.ref 98 :: rest, kw⟩)) (call (.ref 88) (.ref x :: rest) kw) (fun r s' => r = .none ∧ Q (.ref x) s') E {s with heap := h'}) :
    wpAny (model PySem.Challenge.rw_fq0010_01.row.prog w) A (call (.ref 98) rest kw) Q E s := by
  have X := X₀.keeps F.keep
  obtain ⟨hh, g, d, t, os⟩ := s
  obtain ⟨_, _, _, _, _, _, _, _, _, _, _, _, _, _, hC⟩ := sh_cls (w := w) X
  have f1 := tc_lookup
  have f2 := tc_bind (.ref 98)
  have hT : (⟨hh, g, d, t, os⟩ : Shared).TypeIs (.ref 98) "type" := ⟨_, hC, rfl⟩
  refine wpAny_call (codeAny_of_tree ?_)
  show wpAny _ _ (callAny (.ref 98) _) _ _ _
  repeat (any_goals (first | assumption | with_reducible refine wpAny_loadPart_at hC ?_ | wp_step))
  refine ⟨rfl, ?_⟩
  have N1 := (N.push F { cls := .type "tuple", data := .seq rest.toArray }).push (F.push _) (shExc hh.objs.size)
  rw [Heap.size_push] at N1
  have z := h hh.objs.size _ _ ((F.push { cls := .type "tuple", data := .seq rest.toArray }).push (shExc hh.objs.size)) N1 (fun p hp => Heap.lt_size (N p hp).1) (Nat.lt_succ_self _)
  refine codeAny_call_builtin_at (Code.quiet_builtin _ (by decide +kernel)) entry_typeCall (check_slot tc_kind tc_split (looks_instIn (K := Mine.hd.heap_39 w.params) X (by kernel_rfl)) (tc_args _ _ _) ?_)
  refine sh_type_call X hC hi hf ?_ hrest
  exact z
theorem sup_method {pl : Sem Bool} {Q : Value × List Value → Shared → Prop} (F : Fr h₀ L s.heap m) (X₀ : (Mine.hd.heap_39 w.params).In h₀) (N : News h₀ L s.heap news) (hso : (so, ks_superObj 98 x 98) ∈ news) (hx : (x, shExc t0) ∈ news)
    (ho : nsIn (Mine.hd.heap_39 w.params) cStatics "thirdparty.any" = some none) (hm : ks_superIn (Mine.hd.heap_39 w.params) 98 98 name = some (some (.builtin "Exception.__init__"))) (hn : (name == ("__class__" : Str)) = false)
    (h : ∀ q h', Fr h₀ L h' m → News h₀ L h' ((q, mwObj x) :: news) → (∀ p ∈ news, p.1 < q) → Q (.ref q, []) { s with heap := h', toks := s.toks + 1 }) : wpAny (model PySem.Challenge.rw_fq0010_01.row.prog w) A (getMethod (.ref so) name pl) Q E s := by
  have X := X₀.keeps F.keep
  have I : InstAt s.heap x (shExc t0) 98 none := ⟨(N _ hx).1, rfl, rfl, trivial⟩
  obtain ⟨hh, g, d, t, os⟩ := s
  obtain ⟨cd, hc⟩ : ∃ cd, clsIn (Mine.hd.heap_39 w.params) 98 = some cd := ⟨_, rfl⟩
  unfold ks_superIn at hm
  rw [hc] at hm
  refine sup_getMethod (N _ hso).1 (looks_opaque X ho) (l₀ := cd.mro) ?_ rfl X X hm (N _ hx).1 rfl (ks_ne X I hc) hn ?_
  · exact (looks_clsIn X hc).andThen .now
  · obtain ⟨F', N', l'⟩ := ks_newsPush (s := ⟨hh, g, d, t, os⟩) (o := mwObj x) F N rfl (Heap.get?_push_at rfl rfl) (fun b o e => Heap.get?_push_of_some _ e)
    exact h _ _ F' N' l'
theorem keeps_mw {M : Model} (h : Heap) (X : h.get? q = some (mwObj x)) : ∃ k, (k = Keeper.frame ∨ k = Keeper.machine ∨ k = Keeper.boundFrame) ∧ Looks M h (keeperOf (.ref q)) k :=
  ⟨.machine, .inr (.inl rfl), (Looks.ld (part := none) X).andThen .now⟩
theorem callWith_mw {env : Env} {pos : Pos} {e : Expr} {rest : List Expr} {Q : Value → Shared → Prop}
    (h : wpAny (model PySem.Challenge.rw_fq0010_01.row.prog w) A (spliced (backTo pos (starEach (e :: rest) env))) (fun vs s₁ => s₁.heap.get? q = some (mwObj x) ∧ wpAny (model PySem.Challenge.rw_fq0010_01.row.prog w) A (call (.ref q) ([] ++ vs)) Q E s₁) E s)
    (he : starEach (e :: rest) env = (false, eval e env) :: starEach rest env := by rfl) (hplain : (backTo pos (starEach rest env)).any (·.1) = false := by rfl) :
    wpAny (model PySem.Challenge.rw_fq0010_01.row.prog w) A (callWith pos (.ref q) [] (backTo pos (starEach (e :: rest) env)) []) Q E s := by
  rw [he] at h ⊢
  exact callWith_of (by show ((false || (backTo pos (starEach rest env)).any (·.1)) || false) = false; rw [hplain]; rfl) keeps_mw (evalArgs_plain h)
theorem inst_sh {h : Heap} (N : News h₀ L h news) (hm : (x, shExc t0) ∈ news) : InstAt h x (shExc t0) 98 none := ⟨(N _ hm).1, rfl, rfl, trivial⟩
end
end Mine
local macro_rules | `(tactic| k_inst) => `(tactic| (refine' inst_sh ?N ?h; (case N => k_asm); (case h => k_mem)))
namespace Mine
open PySem PySem.W PyProof.Rows PySem.Calls
set_option maxHeartbeats 1000000
local macro_rules | `(tactic| k_inst) => `(tactic| (refine' inst_sh ?N ?h; (case N => k_asm); (case h => k_mem)))
theorem news_drop2 {h₀ h : Heap} {L : Addr} {p q r t : Addr × Obj} {news : List (Addr × Obj)} (N : News h₀ L h (p :: q :: r :: t :: news)) : News h₀ L h (p :: q :: news) := fun z hp => by
  rcases List.mem_cons.mp hp with rfl | hp
  · exact N _ (.head _)
  · rcases List.mem_cons.mp hp with rfl | hp
    · exact N _ (.tail _ (.head _))
    · exact N _ (.tail _ (.tail _ (.tail _ (.tail _ hp))))
abbrev shDict (i1 i2 : Int) (j1 j2 : Nat) (mv tv : Value) : Obj := dictOf [⟨i1, .str "message" j1, mv⟩, ⟨i2, .str "type_" j2, tv⟩] 2
def StopR (p : Prop) : Prop := p
theorem stopR {p : Prop} (h : StopR p) : p := h
local macro_rules | `(tactic| walk_at "getMethod ref") => `(tactic| (k_here; (with_reducible show wpAny _ _ (getMethod (Value.ref _) (PySem.Str.ofString "__init__") _) _ _ _); refine stopR ?_))
local macro_rules | `(tactic| walk_at "callWith ref") => `(tactic| (k_here; refine stopR ?_))
local macro_rules | `(tactic| walk_at "call ref") => `(tactic| (k_here; refine stopR ?_))
local macro_rules | `(tactic| walk_at "setAttr ref") => `(tactic| (k_here; refine stopR ?_))
theorem sh_make {w : World} {mean : ExcName → Option Value} {mg mb : Str → Option Value} {dp un : Nat} {gd : Option (List Code)} {cn : Str} {cs : Scope} {a : Addr} {ccd : Value} {cl : List (Str × Addr)} {outer : List Env} {A₀ : Around} {base h₀ : Heap} {L : Addr} {m : Str → Option Value} {news : List (Addr × Obj)} {s : Shared} {Q E : Value → Shared → Prop}
  (B : Below A₀ base outer h₀) (F : Fr h₀ L s.heap m) (X : (Mine.hd.heap_39 w.params).In h₀) (N : News h₀ L s.heap news) (T : Top topProg LO mean mg mb h₀) (hk : cs.kind = .function) (hdp : dp + 40 < recursionLimit) (hun : un + 400 < cLine) {k msg : Str} {tq tm : Nat} (hcl : cl = [])
  (hret : ∀ e t2 dx i1 i2 j1 j2 h' tk', Fr h₀ L h' m → News h₀ L h' ((e, shExcD t2 dx) :: (dx, shDict i1 i2 j1 j2 (.str msg tm) (.str k tq)) :: news) → (∀ p ∈ (dx, shDict i1 i2 j1 j2 (.str msg tm) (.str k tq)) :: news, p.1 ≠ e) → Q (.ref e) {s with heap := h', toks := tk'}) :
  wpAny (model PySem.Challenge.rw_fq0010_01.row.prog w) (ktrTop dp un gd cn cs L a ccd cl outer) (call (.ref 98) [.str msg tm] [(Str.ofString "type_", .str k tq)]) Q E s := by
  subst hcl
  refine sh_call F X N (by show 1 ≤ _; rw [sizeLine_eq]; decide) (by k_is) (by k_is) (fun t0 x h' F1 N1 l1₀ l2₀ => ?_)
  refine wpAny_call ?_
  k_dflt (refine' ks_code_super ?k1 ?k2 ?k3 ?k4 ?k5 ?kA ?kF ?kK ?k6 ?k7 ?k8 ?k9 ?kB ?_ ?c1 ?c2 ?c3 ?c4; (case kA => exact rfl); (case kF => exact rfl); (case kK => first | assumption | exact rfl); (case k1 => k_asm); (case k2 => k_asm); (case k3 => k_asm); (case k4 => k_asm); (case k5 => k_asm); (case k6 => k_is); (case k7 => k_is); (case k8 => k_room); (case k9 => exact BindsTo.of_eq rfl); (case kB => exact locs rfl); (case c1 => decide); (case c2 => exact rfl); (case c3 => exact rfl); (case c4 => exact rfl); intro g' L' h' FG' F' N' B' X' T' l1'; (try dsimp only))
  k_steps
  unfold StopR
  k_dflt (refine' sup_method ?k1 ?k2 ?k3 ?k4 ?k5 ?k6 ?k7 ?k8 ?_; (case k1 => k_asm); (case k2 => k_asm); (case k3 => k_asm); (case k4 => k_mem); (case k5 => k_mem); (case k6 => k_is); (case k7 => ks_is); (case k8 => decide); intro q h2 F2 N2 l2)
  k_steps
  unfold StopR
  refine callWith_mw (x := x) ?_
  k_steps
  · exact (N2 _ (.head _)).1
  have hneq : ∀ p ∈ (t0, { cls := .type "tuple", data := .seq #[.str msg tm] }) :: news, p.1 ≠ x := fun p hp => by
    rcases List.mem_cons.mp hp with rfl | hp
    · exact Nat.ne_of_lt l2₀
    · exact Nat.ne_of_lt (Nat.lt_trans (l1₀ p hp) l2₀)
  unfold StopR
  refine mwK_call (x := x) (t0 := t0) (post := (t0, { cls := .type "tuple", data := .seq #[.str msg tm] }) :: news) F2 (by k_asm) (fun p hp => N2 p (.tail _ (.tail _ hp))) (N2 _ (.head _)).1 hneq (fun t2 h3 F3 N3 ne3 => ?_)
  k_steps
  unfold StopR
  refine' sh_set0 ?k1 ?k2 ?k3 ?k4 ?k5 ?k6 ?_
  case k1 => k_asm
  case k2 => k_asm
  case k3 => exact N3
  case k4 => exact ne3
  case k5 => k_is
  case k6 => k_is
  intro dx h4 F4 N4 ne4 ne4x
  k_steps
  unfold StopR
  refine' sh_set1 ?k1 ?k2 ?k3 ?k4 ?k5 ?k6 ?k7 ?k8 ?k9 ?_
  case k1 => k_asm
  case k2 => k_asm
  case k3 => exact N4
  case k4 => exact ne4
  case k5 => exact ne4x
  case k6 => k_is
  case k7 => k_is
  case k8 => rfl
  case k9 => exact Nat.le_of_ble_eq_true rfl
  intro h5 F5 N5
  k_steps
  exact hret x t2 dx _ _ _ _ h5 _ (by assumption) (news_drop2 (by assumption)) (fun p hp => by
    rcases List.mem_cons.mp hp with rfl | hp
    · exact ne4x
    · exact hneq p (.tail _ hp))
end Mine
namespace Mine
open PySem PySem.W PyProof.Rows PySem.Calls
set_option maxHeartbeats 400000
end Mine
local macro_rules | `(tactic| walk_at "pyReprObj str") => `(tactic| (refine pyReprObj_str ?_ (Nat.le_trans (m := 32) (by assumption) (by decide +kernel)); try dsimp only))
namespace Mine
open PySem PySem.W PyProof.Rows PySem.Calls
set_option maxHeartbeats 400000
local macro_rules | `(tactic| walk_at "pyReprObj str") => `(tactic| (refine pyReprObj_str ?_ (Nat.le_trans (m := 32) (by assumption) (by decide +kernel)); try dsimp only))
end Mine
local macro_rules | `(tactic| walk_at "formatField str") => `(tactic| (refine SB.field_str ?_ (Nat.le_trans (m := 32) (by assumption) (by decide +kernel)); intro _ _; try dsimp only))
namespace Mine
open PySem PySem.W PyProof.Rows PySem.Calls
set_option maxHeartbeats 400000
local macro_rules | `(tactic| walk_at "pyReprObj str") => `(tactic| (refine pyReprObj_str ?_ (Nat.le_trans (m := 32) (by assumption) (by decide +kernel)); try dsimp only))
local macro_rules | `(tactic| walk_at "formatField str") => `(tactic| (refine SB.field_str ?_ (Nat.le_trans (m := 32) (by assumption) (by decide +kernel)); intro _ _; try dsimp only))
theorem len_three {a b c : Str} (ha : a.length ≤ 100) (hb : b.length ≤ 32) (hc : c.length ≤ 100) : (Str.empty ++ a ++ b ++ c).length ≤ sizeLine := by
  rw [Str.length_append, Str.length_append, Str.length_append]
  have : Str.empty.length = 0 := rfl
  have : sizeLine = 2 ^ 24 := rfl
  omega
end Mine
local macro_rules | `(tactic| walk_at "And") => `(tactic| ((with_reducible show PySem.Str.length (_ ++ _ ++ _ ++ _) ≤ sizeLine ∧ _); refine ⟨Mine.len_three (by decide +kernel) (by assumption) (by decide +kernel), ?_⟩))
namespace Mine
open PySem PySem.W PyProof.Rows PySem.Calls
set_option maxHeartbeats 400000
local macro_rules | `(tactic| walk_at "pyReprObj str") => `(tactic| (refine pyReprObj_str ?_ (Nat.le_trans (m := 32) (by assumption) (by decide +kernel)); try dsimp only))
local macro_rules | `(tactic| walk_at "formatField str") => `(tactic| (refine SB.field_str ?_ (Nat.le_trans (m := 32) (by assumption) (by decide +kernel)); intro _ _; try dsimp only))
local macro_rules | `(tactic| walk_at "And") => `(tactic| ((with_reducible show PySem.Str.length (_ ++ _ ++ _ ++ _) ≤ sizeLine ∧ _); refine ⟨Mine.len_three (by decide +kernel) (by assumption) (by decide +kernel), ?_⟩))
end Mine
local macro_rules | `(tactic| walk_at "joinParts") => `(tactic| (refine PyProof.Rows.joinParts_nilE ?_; refine joinParts_nil ?_ (Mine.len_three (by decide +kernel) (by assumption) (by decide +kernel)); (try dsimp only)))
namespace Mine
open PySem PySem.W PyProof.Rows PySem.Calls
set_option maxHeartbeats 400000
local macro_rules | `(tactic| walk_at "pyReprObj str") => `(tactic| (refine pyReprObj_str ?_ (Nat.le_trans (m := 32) (by assumption) (by decide +kernel)); try dsimp only))
local macro_rules | `(tactic| walk_at "formatField str") => `(tactic| (refine SB.field_str ?_ (Nat.le_trans (m := 32) (by assumption) (by decide +kernel)); intro _ _; try dsimp only))
local macro_rules | `(tactic| walk_at "And") => `(tactic| ((with_reducible show PySem.Str.length (_ ++ _ ++ _ ++ _) ≤ sizeLine ∧ _); refine ⟨Mine.len_three (by decide +kernel) (by assumption) (by decide +kernel), ?_⟩))
local macro_rules | `(tactic| walk_at "joinParts") => `(tactic| (refine PyProof.Rows.joinParts_nilE ?_; refine joinParts_nil ?_ (Mine.len_three (by decide +kernel) (by assumption) (by decide +kernel)); (try dsimp only)))
def ShRaisable (E : Value → Shared → Prop) (v : Value) (s₁ : Shared) : Prop :=
  ∃ (w : World) (a t dx : Addr), v = .ref a ∧ s₁.heap.get? a = some (shExcD t dx) ∧ (Mine.hd.heap_39 w.params).In s₁.heap ∧ E (.ref a) s₁
theorem Raise_sh {M : Model} {A : Around} {E : Value → Shared → Prop} {s : Shared} {env : Env} {e : PySem.Expr} {pos : Pos} {Q : Flow → Shared → Prop} (hh : A.handled = none)
    (h : wpAny M A (eval e env) (ShRaisable E) E s) : wpAny M A (exec (.Raise (some e) none pos) env) Q E s := by
  show wpAny M A (do standAt pos; raiseStmt env (some (do let v ← eval e env; standAt pos; pure v)) none) Q E s
  refine wpAny_bind (wpAny_standAt ?_)
  unfold raiseStmt
  dsimp only
  refine wpAny_bind (wpAny_bind (wpAny_mono h (fun v s₁ h₁ => wpAny_bind (wpAny_standAt (wpAny_pure ?_))) fun _ _ x => x))
  obtain ⟨w, a, t, dx, rfl, he, X, hE⟩ := h₁
  obtain ⟨_, _, _, _, _, _, _, _, _, _, _, _, _, _, hC⟩ := sh_cls (w := w) X
  have hcB : (Value.ref 98 :: shMro).contains (.type "BaseException") = true := by decide
  obtain ⟨hp, g, d, tk, os⟩ := s₁
  repeat (first | with_reducible refine wpAny_loadPart_at he ?_ | with_reducible refine wpAny_loadPart_at hC ?_ | (with_reducible refine wpAny_isSubtype_exc hC ?_; rw [hcB]) | wp_step)
  exact wpAny_raiseNew_none hh hE
end Mine
namespace Mine
open PySem PySem.W PyProof.Rows PySem.Calls
set_option maxHeartbeats 1000000
/-- the tree changes no object's instance dict, and calls nothing -/
def KeepT {α : Type} : Sem α → Prop
  | .pure _ => True
  | .raise _ => True
  | .unsupported _ => True
  | .finish _ => True
  | .rule _ k => KeepT (k ())
  | .at _ k => KeepT (k ())
  | .load _ _ k => ∀ x, KeepT (k x)
  | .update _ _ f k => (∀ o, (f o).dict = o.dict ∧ (f o).isFreed = o.isFreed) ∧ KeepT (k ())
  | .alloc _ k => ∀ x, KeepT (k x)
  | .loadIfAlive _ k => ∀ x, KeepT (k x)
  | .point _ k => KeepT (k ())
  | .register _ _ => True
  | .fresh k => ∀ x, KeepT (k x)
  | .ask k => ∀ x, KeepT (k x)
  | .choose _ _ k => ∀ x, KeepT (k x)
  | .os _ _ k => ∀ x, KeepT (k x)
  | .call .. => False
  | .handled _ k => ∀ x, KeepT (k x)
  | .newGen _ k => ∀ x, KeepT (k x)
  | .genState _ k => ∀ x, KeepT (k x)
  | .resume .. => False
  | .yield .. => True
  | .stack k => ∀ x, KeepT (k x)
  | .fork .. => True
  | .thread k => ∀ x, KeepT (k x)
  | .await .. => True
theorem KeepT.bind {α β : Type} {f : α → Sem β} (hf : ∀ a, KeepT (f a)) : ∀ {t : Sem α}, KeepT t → KeepT (t >>= f) := by
  intro t ht
  show KeepT (t.bind f)
  induction t with
  | pure a => exact hf a
  | raise e => trivial
  | unsupported w => trivial
  | finish e => trivial
  | rule t k ih => exact ih () ht
  | «at» p k ih => exact ih () ht
  | load a p k ih => exact fun x => ih x (ht x)
  | update a p g k ih => exact ⟨ht.1, ih () ht.2⟩
  | alloc o k ih => exact fun x => ih x (ht x)
  | loadIfAlive a k ih => exact fun x => ih x (ht x)
  | point l k ih => exact ih () ht
  | register a k ih => trivial
  | fresh k ih => exact fun x => ih x (ht x)
  | ask k ih => exact fun x => ih x (ht x)
  | choose s n k ih => exact fun x => ih x (ht x)
  | os r l k ih => exact fun x => ih x (ht x)
  | call => exact ht.elim
  | handled o k ih => exact fun x => ih x (ht x)
  | newGen c k ih => exact fun x => ih x (ht x)
  | genState g k ih => exact fun x => ih x (ht x)
  | resume => exact ht.elim
  | yield => trivial
  | stack k ih => exact fun x => ih x (ht x)
  | fork => trivial
  | thread k ih => exact fun x => ih x (ht x)
  | await => trivial
def DictKept (h h' : Heap) : Prop := ∀ b o, h.get? b = some o → ∃ o', h'.get? b = some o' ∧ o'.dict = o.dict
theorem DictKept.refl (h : Heap) : DictKept h h := fun _ o e => ⟨o, e, rfl⟩
theorem DictKept.trans {h h' h'' : Heap} (x : DictKept h h') (y : DictKept h' h'') : DictKept h h'' := fun b o e => by
  obtain ⟨o1, e1, d1⟩ := x b o e
  obtain ⟨o2, e2, d2⟩ := y b o1 e1
  exact ⟨o2, e2, d2.trans d1⟩
theorem DictKept.update {h : Heap} {a : Addr} {f : Obj → Obj} (hf : ∀ o, (f o).dict = o.dict ∧ (f o).isFreed = o.isFreed) : DictKept h (h.update a f) := fun b o e => by
  by_cases q : a = b
  · subst q
    exact ⟨f o, Heap.get?_update_self f e ((hf o).2.trans (Heap.get?_some_iff.mp e).2), (hf o).1⟩
  · exact ⟨o, (Heap.get?_update_other h f q).trans e, rfl⟩
theorem DictKept.push {h : Heap} {o : Obj} : DictKept h (h.push o) := fun _ o' e => ⟨o', Heap.get?_push_of_some _ e, rfl⟩
theorem wp_kept {α : Type} {M : Model} {Γ : Ctx} {Q : α → Pos → Shared → Prop} {E : Value → Pos → Shared → Prop} : ∀ (t : Sem α) (p : Pos) (s : Shared), KeepT t → Sem.wp M Γ t Q E p s →
    Sem.wp M Γ t (fun a p' s' => Q a p' s' ∧ DictKept s.heap s'.heap) E p s := by
  intro t
  induction t with
  | pure a => intro p s _ h; exact ⟨h, DictKept.refl _⟩
  | raise e => intro p s _ h; exact h
  | unsupported w => intro p s _ h; exact h
  | finish e => intro p s _ h; exact h
  | rule t k ih => intro p s ht h; exact ih () p s ht h
  | «at» p' k ih => intro p s ht h; exact ih () p' s ht h
  | load a pt k ih => intro p s ht h; obtain ⟨o, e, h⟩ := h; exact ⟨o, e, ih o p s (ht o) h⟩
  | update a pt g k ih =>
    intro p s ht h
    refine ⟨h.1, Sem.wp_mono M Γ _ (fun a p' s' z => ⟨z.1, (DictKept.update ht.1).trans z.2⟩) (fun _ _ _ z => z) _ _ (ih () p _ ht.2 h.2)⟩
  | alloc o k ih =>
    intro p s ht h
    exact Sem.wp_mono M Γ _ (fun a p' s' z => ⟨z.1, DictKept.push.trans z.2⟩) (fun _ _ _ z => z) _ _ (ih _ p _ (ht _) h)
  | loadIfAlive a k ih => intro p s ht h; exact ih _ p s (ht _) h
  | point l k ih => intro p s ht h; exact ih () p s ht h
  | register a k ih => intro p s _ h; exact h
  | fresh k ih => intro p s ht h; exact ih _ p _ (ht _) h
  | ask k ih => intro p s ht h; exact ih _ p s (ht _) h
  | choose src n k ih => intro p s ht h; exact ⟨h.1, ih _ p _ (ht _) h.2⟩
  | os r l k ih => intro p s ht h; exact ih _ p _ (ht _) h
  | call => intro p s ht; exact ht.elim
  | handled o k ih => intro p s ht h; exact ih _ p s (ht _) h
  | newGen c k ih => intro p s ht h; exact ih _ p _ (ht _) h
  | genState g k ih => intro p s ht h; obtain ⟨st, e, h⟩ := h; exact ⟨st, e, ih _ p s (ht _) h⟩
  | resume => intro p s ht; exact ht.elim
  | yield => intro p s _ h; exact h
  | stack k ih => intro p s ht h; exact ih _ p s (ht _) h
  | fork => intro p s _ h; exact h
  | thread k ih => intro p s ht h; exact ih _ p s (ht _) h
  | await => intro p s _ h; exact h
theorem wpAny_kept {α : Type} {M : Model} {A : Around} {Q : α → Shared → Prop} {E : Value → Shared → Prop} {t : Sem α} {s : Shared} (ht : KeepT t) (h : wpAny M A t Q E s) :
    wpAny M A t (fun a s' => Q a s' ∧ DictKept s.heap s'.heap) E s := fun Γ p hΓ => wp_kept t p s ht (h Γ p hΓ)
theorem keep_field (v : Value) (i : Nat) : KeepT (field v i) := by
  unfold field fieldsOf
  refine KeepT.bind (fun a => by split <;> trivial) ?_
  split
  · refine KeepT.bind (fun a => by split <;> trivial) (fun x => trivial)
  · trivial
theorem keep_setField (v : Value) (i : Nat) (x : Value) : KeepT (setField v i x) := by
  unfold setField
  split
  · unfold updateField
    refine KeepT.bind (fun a => ?_) (fun x => trivial)
    split
    · split
      · refine ⟨fun o => ?_, trivial⟩
        obtain ⟨_, _, dt, _⟩ := o
        cases dt <;> exact ⟨rfl, rfl⟩
      · trivial
    · trivial
  · trivial
theorem keep_setFlight (v : Value) (f : Option Addr) : KeepT (setFlight v f) := by
  unfold setFlight
  refine KeepT.bind (fun a => ?_) (keep_field _ _)
  split
  · exact keep_setField _ _ _
  · trivial
theorem keep_stack : KeepT stack := fun _ => trivial
theorem keep_ready : ∀ l : List Env, KeepT (readyFrames l)
  | [] => trivial
  | env :: outer => by
    unfold readyFrames
    split
    · refine KeepT.bind (fun o => ?_) (fun x => trivial)
      split
      · trivial
      · refine KeepT.bind (fun b => KeepT.bind (fun k => KeepT.bind (fun _ => keep_ready outer) ?_) ?_) ?_
        · exact ⟨fun o => ⟨rfl, by obtain ⟨_, _, dt, _⟩ := o; cases dt <;> rfl⟩, trivial⟩
        · unfold keptBack
          split
          · split
            · trivial
            · unfold underTheClaimsCaller
              refine KeepT.bind (fun x => ?_) (KeepT.bind (fun x => ?_) keep_stack)
              · trivial
              · trivial
          · trivial
        · unfold behindIsImport
          split
          · trivial
          · split
            · trivial
            · refine KeepT.bind (fun x => ?_) (keep_field _ _)
              trivial
    · trivial
theorem keep_frameOf (env : Env) : KeepT (PySem.frameOf env) := by
  unfold PySem.frameOf
  refine KeepT.bind (fun l => KeepT.bind (fun r => ?_) ?_) ?_
  · split <;> trivial
  · unfold frameObject
    split
    · trivial
    · refine KeepT.bind (fun x => ?_) (keep_ready _)
      trivial
  · unfold frameEnvs
    refine KeepT.bind (fun x => ?_) keep_stack
    trivial
theorem keep_place (f : Addr) (b : Bool) : KeepT (entryPlaceOf f b) := by
  unfold entryPlaceOf
  refine KeepT.bind (fun x => ?_) keep_stack
  dsimp only
  split <;> trivial
theorem keep_entry (a b c d e : Value) (l : List Value) : KeepT (EntryCells.newEntry a b c d e l) := by
  have hn : ∀ d, KeepT (newObjAsIs (.type "traceback") d) := fun d => by
    unfold newObjAsIs
    refine KeepT.bind (fun x => ?_) (fun x => trivial)
    trivial
  unfold EntryCells.newEntry newFields newObj
  generalize ([a, b, c, d, e] ++ if l.isEmpty = true then List.replicate 6 Value.none else l).toArray = arr
  dsimp only
  split
  · exact KeepT.bind (fun _ => hn _) trivial
  · exact hn _
theorem keep_note (e : Value) (env : Env) : KeepT (noteFrame e env) := by
  unfold noteFrame
  split
  · refine KeepT.bind (fun head => ?_) (keep_field _ _)
    dsimp only
    split
    · refine KeepT.bind (fun x => ?_) (keep_field _ _)
      split
      · trivial
      · refine KeepT.bind (fun _ => ?_) (keep_setField _ _ _)
        exact KeepT.bind (fun _ => KeepT.bind (fun _ => KeepT.bind (fun _ => keep_setField _ _ _) (keep_entry _ _ _ _ _ _)) (keep_place _ _)) (keep_frameOf _)
    · exact KeepT.bind (fun _ => KeepT.bind (fun _ => KeepT.bind (fun _ => keep_setField _ _ _) (keep_entry _ _ _ _ _ _)) (keep_place _ _)) (keep_frameOf _)
  · trivial
theorem keep_leaving (e : Value) (env : Env) : KeepT (leaving env e) := by
  unfold leaving
  exact KeepT.bind (fun _ => keep_setFlight _ _) (keep_note _ _)
end Mine
namespace Mine
open PySem PySem.W PyProof.Rows PySem.Calls PySem.Spec
set_option maxHeartbeats 1000000
theorem wp_keptE {α : Type} {M : Model} {A : Around} {Q : α → Shared → Prop} {E : Value → Shared → Prop} {t : Sem α} {s : Shared} (ht : KeepT t) (h : wpAny M A t Q E s)
    {Q' : α → Shared → Prop} (hq : ∀ a s', Q a s' → DictKept s.heap s'.heap → Q' a s') : wpAny M A t Q' E s :=
  wpAny_mono (wpAny_kept ht h) (fun a s' z => hq a s' z.1 z.2) fun _ _ z => z
/-- the refusal e flies, and bears the instance dict d -/
def RaisedD (base G : Heap) (l : List Env) (e d : Addr) (news : List (Addr × Obj)) (h : Heap) : Prop :=
  RaisedSN base G l e (.ref 98) news h ∧ ∃ oe, h.get? e = some oe ∧ oe.dict = some d
def RaisedHD (base G : Heap) (l : List Env) (L e d : Addr) (news : List (Addr × Obj)) (h : Heap) : Prop :=
  RaisedHN base G l L e (.ref 98) news h ∧ ∃ oe, h.get? e = some oe ∧ oe.dict = some d
theorem dict_kept {h h' : Heap} {e d : Addr} (x : ∃ oe, h.get? e = some oe ∧ oe.dict = some d) (k : DictKept h h') : ∃ oe, h'.get? e = some oe ∧ oe.dict = some d := by
  obtain ⟨oe, ho, hd⟩ := x
  obtain ⟨o', e', d'⟩ := k e oe ho
  exact ⟨o', e', d'.trans hd⟩
section
variable {M : Model} {A : Around} {E : Value → Shared → Prop} {s' : Shared} {base g g₂ : Heap} {outer : List Env} {L a e t d : Addr} {m : Str → Option Value} {name : Str} {scope : Scope} {cd : Value} {Q : Unit → Shared → Prop} {news : List (Addr × Obj)}
theorem leave_shD (K : Below A base outer g) (F : Fr g L s'.heap m) (N : News g L s'.heap ((e, shExcD t d) :: news)) (h2 : ∀ p ∈ news, p.1 ≠ e)
    (hQ : ∀ h', RaisedD base g outer e d news h' → g.UpToSlots h' → Q () { s' with heap := h' }) (hk : scope.kind = .function) :
    wpAny M (A.deeper (envOf name scope L a cd)) (leaving (envOf name scope L a cd) (.ref e)) Q E s' := by
  have K' := K.push (name := name) (a := a) (cd := cd) F hk
  obtain ⟨he, heL, hge⟩ := N _ (.head _)
  dsimp only at he heL hge
  have hbe : base.get? e = none := fresh_of_stays K.stays hge
  have ef : ∀ b ∈ (envOf name scope L a cd :: outer).filterMap (·.frame), b ≠ e := fun b hm q => by
    rcases kts_mem hm with z | z
    · exact heL (q.symm.trans z)
    · obtain ⟨_, o, ho, _⟩ := K.frames.mem z
      rw [q, hge] at ho
      cases ho
  have st : base.StaysIn (hideAll s'.heap (e :: (envOf name scope L a cd :: outer).filterMap (·.frame))) := fun b o q => hideAll_get _ (K'.stays b o q) fun hm => by
    rcases List.mem_cons.mp hm with z | z
    · rw [z, hbe] at q; cases q
    · rw [(K'.frames.mem z).1] at q; cases q
  have sg : ∀ b o, g.get? b = some o → b ∉ outer.filterMap (·.frame) → (hideAll s'.heap (e :: (envOf name scope L a cd :: outer).filterMap (·.frame))).get? b = some o := fun b o q nm => hideAll_get _ (F.keep b o q) fun hm => by
    rcases List.mem_cons.mp hm with z | z
    · rw [z, hge] at q; cases q
    · rcases kts_mem z with z | z
      · rw [z, kts_self F] at q; cases q
      · exact nm z
  have hl : ∀ q ∈ news, (hideAll s'.heap (e :: (envOf name scope L a cd :: outer).filterMap (·.frame))).get? q.1 = some q.2 ∧ g.get? q.1 = none ∧ base.get? q.1 = none := fun q hq => by
    refine ⟨hideAll_get _ (N q (.tail _ hq)).1 fun hm => ?_, (N q (.tail _ hq)).2.2, fresh_of_stays K.stays (N q (.tail _ hq)).2.2⟩
    rcases List.mem_cons.mp hm with z | z
    · exact h2 q hq z
    · obtain ⟨env, he', hf⟩ := List.mem_filterMap.mp z
      rcases List.mem_cons.mp he' with rfl | he'
      · exact (N q (.tail _ hq)).2.1 (Option.some.inj hf).symm
      · obtain ⟨o, ho, _⟩ := (K.frames.mem (List.mem_filterMap.mpr ⟨env, he', hf⟩)).2
        rw [(N q (.tail _ hq)).2.2] at ho; cases ho
  have hen : (hideAll s'.heap (e :: (envOf name scope L a cd :: outer).filterMap (·.frame))).get? e = none := hideAll_none _ (List.mem_cons_self ..)
  have hin : ∀ env ∈ (envOf name scope L a cd :: outer), ∀ b, env.frame = some b → b ∈ (e :: (envOf name scope L a cd :: outer).filterMap (·.frame)) := fun env he b hb => .tail _ (List.mem_filterMap.mpr ⟨env, he, hb⟩)
  refine wp_keptE (keep_leaving _ _) (Q := fun _ s'' => ∃ h', s'' = { s' with heap := h' } ∧ RaisedSN base g outer e (.ref 98) news h' ∧ g.UpToSlots h') ?_ ?_
  · refine wpAny_leaving_firstW (a0 := .ref t) K'.stack (funFrames_hide K'.frames hin) rfl he (fun b o hb => of_hideAll _ hb) hen rfl rfl rfl fun h' hL => ?_
    obtain ⟨k1, ⟨_, _, k2⟩, k3, k4⟩ := hL
    exact ⟨h', rfl, ⟨_, .ref t, st, sg, hl, k1, hen, k2, k3⟩, (Heap.UpToSlots.of_keeps F.keep).trans k4⟩
  · rintro _ _ ⟨h', rfl, R, U⟩ dk
    exact hQ h' ⟨R, dict_kept ⟨_, he, rfl⟩ dk⟩ U
theorem leave_onD (K : Below A base outer g) (F : Fr g L g₂ m) (R : RaisedD base g₂ (envOf name scope L a cd :: outer) e d news s'.heap) (hsm : g₂.UpToSlots s'.heap)
    (hQ : ∀ h', RaisedD base g outer e d news h' → g.UpToSlots h' → Q () { s' with heap := h' }) :
    wpAny M (A.deeper (envOf name scope L a cd)) (leaving (envOf name scope L a cd) (.ref e)) Q E s' := by
  refine wp_keptE (keep_leaving _ _) (Q := fun _ s'' => ∃ h', s'' = { s' with heap := h' } ∧ RaisedSN base g outer e (.ref 98) news h' ∧ g.UpToSlots h') ?_ ?_
  · exact leave_onSN K F R.1 hsm fun h' R' _ U' => ⟨h', rfl, R', U'⟩
  · rintro _ _ ⟨h', rfl, R', U⟩ dk
    exact hQ h' ⟨R', dict_kept R.2 dk⟩ U
end
section
variable {prog : Program} {w : World} {A₀ : Around} {E : Value → Shared → Prop} {s' : Shared} {base g g₀ G : Heap} {outer : List Env} {L a e t d : Addr} {m : Str → Option Value} {name : Str} {scope : Scope} {cd cls : Value}
  {n : Str} {b₀ : Stmt} {suite : List Stmt} {pos : Pos} {rest hs : List ExceptHandler} {Q : Flow → Shared → Prop} {Q1 : Unit → Shared → Prop} {news : List (Addr × Obj)} {KF : Frag} {tt : PySem.Expr} {nm : Option Str} {body : List Stmt}
  {p : Program} {loose : List Str} {mean : ExcName → Option Value} {mg mb : Str → Option Value}
theorem leave_heldD (R : RaisedHD base G (envOf name scope L a cd :: outer) L e d news s'.heap) (F : Fr g L G m) (hsm : G.UpToSlots s'.heap)
    (hQ : ∀ h', RaisedD base g outer e d news h' → g.UpToSlots h' → Q1 () { s' with heap := h' }) :
    wpAny (model prog w) (A₀.deeper (envOf name scope L a cd)) (leaving (envOf name scope L a cd) (.ref e)) Q1 E s' := by
  refine wp_keptE (keep_leaving _ _) (Q := fun _ s'' => ∃ h', s'' = { s' with heap := h' } ∧ RaisedSN base g outer e (.ref 98) news h' ∧ g.UpToSlots h') ?_ ?_
  · exact leave_heldSN R.1 F hsm fun h' R' _ U' => ⟨h', rfl, R', U'⟩
  · rintro _ _ ⟨h', rfl, R', U⟩ dk
    exact hQ h' ⟨R', dict_kept R.2 dk⟩ U
theorem look_D (R : RaisedD base G (envOf name scope L a cd :: outer) e d news s'.heap) (F : Fr g L G m) (K : Below A₀ base outer g) (hsm : G.UpToSlots s'.heap)
    (k : ∀ h', RaisedD base G (envOf name scope L a cd :: outer) e d news h' → G.UpToSlots h' → wpAny (model prog w) (A₀.deeper (envOf name scope L a cd)) (handleBy (.ref e) (envOf name scope L a cd) hs) Q E { s' with heap := h' }) :
    wpAny (model prog w) (A₀.deeper (envOf name scope L a cd)) (noteFrame (.ref e) (envOf name scope L a cd))
      (fun _ s₂ => wpAny (model prog w) (A₀.deeper (envOf name scope L a cd)) (setFlight (.ref e) none) (fun _ s₃ =>
        wpAny (model prog w) (A₀.deeper (envOf name scope L a cd)) (handleBy (.ref e) (envOf name scope L a cd) hs) Q E s₃) E s₂) E s' := by
  obtain ⟨⟨B, a0, hB, hBG, hl, hfl⟩, hd⟩ := R
  refine wp_keptE (keep_note _ _) (Q := fun _ s'' => ∃ h', s'' = { s' with heap := h' } ∧ Heap.HeldW B (envOf name scope L a cd :: outer) e (.ref 98) a0 L h' ∧ s'.heap.UpToSlots h') ?_ ?_
  · exact wpAny_looks_onW (Around.frames_deeper K.stack) rfl hfl fun h₄ hheld₄ hsm₄ => ⟨h₄, rfl, hheld₄, hsm₄⟩
  rintro _ _ ⟨h₄, rfl, hheld₄, hsm₄⟩ dk
  refine wp_keptE (keep_setFlight _ _) (Q := fun _ s'' => ∃ h', s'' = { s' with heap := h' } ∧ Heap.FlyingW B (envOf name scope L a cd :: outer) e (.ref 98) a0 h' ∧ h₄.UpToSlots h') ?_ ?_
  · exact wpAny_landsW hheld₄ fun h₅ hheld hsm₅' => ⟨h₅, rfl, hheld, hsm₅'⟩
  rintro _ _ ⟨h₅, rfl, hheld, hsm₅⟩ dk'
  exact k h₅ ⟨⟨B, a0, hB, hBG, hl, hheld⟩, dict_kept (dict_kept hd dk) dk'⟩ (hsm.trans (hsm₄.trans hsm₅))
theorem pass_D (R : RaisedD base G (envOf name scope L a cd :: outer) e d news s'.heap) (F : Fr g L G m) (K : Below A₀ base outer g) (hsm : G.UpToSlots s'.heap) (XB : KF.In base) (TB : Top p loose mean mg mb base)
    (T : KtsTest prog w KF p loose mg mb name scope L a cd (.ref 98) tt false)
    (k : ∀ h', RaisedD base G (envOf name scope L a cd :: outer) e d news h' → G.UpToSlots h' → wpAny (model prog w) (A₀.deeper (envOf name scope L a cd)) (handleBy (.ref e) (envOf name scope L a cd) rest) Q E { s' with heap := h' }) :
    wpAny (model prog w) (A₀.deeper (envOf name scope L a cd)) (handleBy (.ref e) (envOf name scope L a cd) (.ExceptHandler (some tt) nm body pos :: rest)) Q E s' := by
  obtain ⟨R, oe, hoe, hod⟩ := R
  have R' := R
  obtain ⟨B, a0, hB, hBG, hl, hfl⟩ := R'
  obtain ⟨g₅, T₅, F₅, K₅⟩ := kts_ground K F hBG hfl.1 hsm
  refine wpAny_handleBy_cons (codeAny_handlers_test (T _ _ _ _ g₅ e m F₅ (XB.keeps K₅.stays) (topRead_of (TB.keeps K₅.stays)) R.ty fun h' kp => ?_)) (by intro q; cases q)
  exact k h' ⟨R.keeps kp, oe, kp _ _ hoe, hod⟩ (hsm.trans (Heap.UpToSlots.of_keeps kp))
theorem on_D (R : RaisedD base G (envOf name scope L a cd :: outer) e d news s'.heap) (hsm : G.UpToSlots s'.heap)
    (k : ∀ h', RaisedHD base G (envOf name scope L a cd :: outer) L e d news h' → G.UpToSlots h' → E (.ref e) { s' with heap := h' }) :
    wpAny (model prog w) (A₀.deeper (envOf name scope L a cd)) (handleBy (.ref e) (envOf name scope L a cd) []) Q E s' := by
  obtain ⟨⟨B, a0, hB, hBG, hl, hfl⟩, hdd⟩ := R
  obtain ⟨_, _, _, oe, ws, T, oT, ts, he, hc, hd, h1, _⟩ := id hfl
  refine wpAny_handleBy_nil ?_
  unfold PySem.passOn
  refine wpAny_bind (wpAny_field he hd h1 ?_)
  rw [if_neg (show ¬ ((Value.ref T == Value.none) = true) from by simp)]
  have fin : wpAny (model prog w) (A₀.deeper (envOf name scope L a cd)) (setFlight (.ref e) (some L)) (fun _ s₁ => wpAny (model prog w) (A₀.deeper (envOf name scope L a cd)) (throw (.ref e) : Sem Flow) Q E s₁) E s' := by
    refine wp_keptE (keep_setFlight _ _) (Q := fun _ s'' => ∃ h', s'' = { s' with heap := h' } ∧ Heap.HeldW B (envOf name scope L a cd :: outer) e (.ref 98) a0 L h' ∧ s'.heap.UpToSlots h') ?_ ?_
    · exact setFlight_onW hfl fun h' hh hs => ⟨h', rfl, hh, hs⟩
    rintro _ _ ⟨h', rfl, hh, hs⟩ dk
    exact wpAny_throw (k h' ⟨⟨B, a0, hB, hBG, hl, hh⟩, dict_kept hdd dk⟩ (hsm.trans hs))
  first
    | exact wpAny_bind (wpAny_pure (wpAny_bind fin))
    | exact wpAny_bind fin
theorem look_HN (R : RaisedHN base G (envOf name scope L a cd :: outer) L e cls news s'.heap) (hsm : G.UpToSlots s'.heap)
    (k : ∀ h', RaisedSN base G (envOf name scope L a cd :: outer) e cls news h' → G.UpToSlots h' → wpAny (model prog w) (A₀.deeper (envOf name scope L a cd)) (handleBy (.ref e) (envOf name scope L a cd) hs) Q E { s' with heap := h' }) :
    wpAny (model prog w) (A₀.deeper (envOf name scope L a cd)) (noteFrame (.ref e) (envOf name scope L a cd))
      (fun _ s₂ => wpAny (model prog w) (A₀.deeper (envOf name scope L a cd)) (setFlight (.ref e) none) (fun _ s₃ =>
        wpAny (model prog w) (A₀.deeper (envOf name scope L a cd)) (handleBy (.ref e) (envOf name scope L a cd) hs) Q E s₃) E s₂) E s' := by
  obtain ⟨B, a0, hB, hBG, hl, hh⟩ := R
  refine wpAny_noteFrame_againW rfl hh.2.2.2 ?_
  exact wpAny_landsW hh fun h₅ hheld hsm₅ => k h₅ ⟨B, a0, hB, hBG, hl, hheld⟩ (hsm.trans hsm₅)
theorem hit_DB (R : RaisedD base G (envOf name scope L a cd :: outer) e d news s'.heap) (F : Fr g L G m) (K : Below A₀ base outer g) (hsm : G.UpToSlots s'.heap) (XB : KF.In base) (TB : Top p loose mean mg mb base)
    (D : KtsDicts (outer.filterMap (·.frame)) g) (T0 : KtsTurn (outer.filterMap (·.frame)) g₀ g) (T : KtsTest prog w KF p loose mg mb name scope L a cd (.ref 98) tt true)
    (k : ∀ h' g' tk oe ws, oe.cls = .ref 98 → oe.dict = some d → oe.data = .fields ws → KtsTurn (outer.filterMap (·.frame)) g₀ g' → Fr g' L h' (fun y => if y = n then some (.ref e) else m y) → News g' L h' ((e, oe) :: news) → Below A₀ base outer g' → KF.In g' → Top p loose mean mg mb g' → KtsDicts (outer.filterMap (·.frame)) g' →
      wpAny (model prog w) ((A₀.deeper (envOf name scope L a cd)).mark (some (.ref e))) (execs (b₀ :: suite) (envOf name scope L a cd))
        (fun f s₄ => wpAny (model prog w) (A₀.deeper (envOf name scope L a cd)) (do bindName (envOf name scope L a cd) n .none; unbindBehindTheSuite (envOf name scope L a cd) n pos) (fun _ s₅ => Q f s₅) E s₄)
        (AsSuiteRaised (model prog w) ((A₀.deeper (envOf name scope L a cd)).mark (some (.ref e))) (envOf name scope L a cd) n pos (notedBy (model prog w) ((A₀.deeper (envOf name scope L a cd)).mark (some (.ref e))) (envOf name scope L a cd) (cameBackBy (model prog w) (A₀.deeper (envOf name scope L a cd)) (envOf name scope L a cd) E)))
        { s' with heap := h', toks := tk })
    (hk : scope.kind = .function := by rfl) (hlo : (envOf name scope L a cd).kindOf n = some .local := by rfl) :
    wpAny (model prog w) (A₀.deeper (envOf name scope L a cd)) (handleBy (.ref e) (envOf name scope L a cd) (.ExceptHandler (some tt) (some n) (b₀ :: suite) pos :: rest)) Q E s' := by
  obtain ⟨R, hdd⟩ := R
  have R' := R
  obtain ⟨B₁, a1, _, hBG₁, _, hfl₁⟩ := R'
  obtain ⟨g₅, T₅, F₅, K₅⟩ := kts_ground K F hBG₁ hfl₁.1 hsm
  refine wpAny_handleBy_cons (codeAny_handlers_test (T _ _ _ _ g₅ e m F₅ (XB.keeps K₅.stays) (topRead_of (TB.keeps K₅.stays)) R.ty fun h₅ kp => ?_)) (by intro q; cases q)
  have hsm₅ : G.UpToSlots h₅ := hsm.trans (Heap.UpToSlots.of_keeps kp)
  have hdd₅ : ∃ oe, h₅.get? e = some oe ∧ oe.dict = some d := let ⟨oe, x, y⟩ := hdd; ⟨oe, kp _ _ x, y⟩
  obtain ⟨B, a0, hB, hBG, hl, hheld⟩ := R.keeps kp
  have hL : B.get? L = none := by
    obtain ⟨_, ⟨L', _, hf, hn', _⟩, _⟩ := hheld.2.2.1
    obtain rfl : L = L' := Option.some.inj hf
    exact hn'
  refine codeAny_handlers_suite_as ?_
  refine wp_keptE (keep_setFlight _ _) (Q := fun _ s'' => ∃ h', s'' = { s' with heap := h' } ∧ Heap.FlyingW B (envOf name scope L a cd :: outer) e (.ref 98) a0 h' ∧ h₅.UpToSlots h') ?_ ?_
  · exact lands_againW hheld fun h₆ hfl₆ hsm₆ => ⟨h₆, rfl, hfl₆, hsm₆⟩
  rintro _ _ ⟨h₆, rfl, hfl₆, hsm₆⟩ dk
  obtain ⟨oe, hoe, hod⟩ := dict_kept hdd₅ dk
  obtain ⟨oe', ws, hoe', hoec, hoed, hoe0⟩ := hfl₆.first
  rw [show h₆.get? e = _ from hoe] at hoe'
  obtain rfl := Option.some.inj hoe'
  obtain ⟨g₆, T₆, F₆, K₆⟩ := kts_ground K F hBG hfl₆.1 (hsm₅.trans hsm₆)
  have ne₆ : g₆.get? e = none := T₆.none_ _ (kts_fresh F hBG hfl₆.2.1 fun o ho m => by
    obtain ⟨_, o', ho', hd⟩ := K.frames.mem m
    rw [ho] at ho'
    cases ho'
    obtain ⟨sl, hs⟩ := (hsm₅.trans hsm₆) _ _ (F.keep _ _ ho) hd
    rw [show h₆.get? e = _ from hoe] at hs
    cases hs
    exact hd _ hoed)
  have Nl : News g₆ L h₆ news := fun q hq => ⟨hfl₆.1 _ _ (hl q hq).1, (fun z => by have := (hl q hq).1; rw [z, hL] at this; cases this), T₆.none_ _ (kts_none F.keep (hl q hq).2.1)⟩
  have N₆ := News.more F₆ Nl hoe (fun es n q => by rw [hoed] at q; cases q) ne₆
  have X₆ : KF.In g₆ := XB.keeps K₆.stays
  have P₆ : Top p loose mean mg mb g₆ := TB.keeps K₆.stays
  have D₆ : KtsDicts (outer.filterMap (·.frame)) g₆ := D.turn T₆
  refine stN F₆ N₆ (fun h₇ F₇ N₇ => ?_) hk hlo
  exact k h₇ g₆ _ oe ws hoec hod hoed (T0.trans T₆) F₇ N₇ K₆ X₆ P₆ D₆
end
end Mine
namespace Mine
open PySem PySem.W PyProof.Rows PySem.Calls
set_option maxHeartbeats 1000000
/-- the call is refused: the error flies, and its dict bears v as type_ -/
def FallD (w : World) (mean : ExcName → Option Value) (mg mb : Str → Option Value) (d : Nat) (f : Value) (pos : List Value) (kw : List (Str × Value)) (need : List (Addr × Obj)) (v : Value) : Prop :=
  ∀ (dp un : Nat) (gd : Option (List Code)) (cn : Str) (cs : Scope) (a : Addr) (ccd : Value) (outer : List Env) (A₀ : Around) (base h₀ : Heap) (L : Addr) (m : Str → Option Value) (news : List (Addr × Obj)) (s : Shared) (R : Result → Shared → Prop),
    Below A₀ base outer h₀ → Fr h₀ L s.heap m → (Mine.hd.heap_39 w.params).In h₀ → News h₀ L s.heap news → Top topProg LO mean mg mb h₀ → cs.kind = .function → dp + d < recursionLimit → un + 10 * d < cLine → (∀ p ∈ need, p ∈ news) →
    (∀ G e dd i1 i2 j1 j2 mv h' tk', Fr h₀ L G m → RaisedD base G (envX cn cs L a ccd [] :: outer) e dd ((dd, shDict i1 i2 j1 j2 mv v) :: news) h' → G.UpToSlots h' → R (.error (.ref e)) { s with heap := h', toks := tk' }) →
    codeAny (model PySem.Challenge.rw_fq0010_01.row.prog w) (ktrTop dp un gd cn cs L a ccd [] outer) (.call f ⟨pos, kw⟩) R s
local macro_rules | `(tactic| walk_at "exec Raise some none") => `(tactic| (k_here; k_dflt (refine' Raise_sh ?hh ?_; (case hh => exact rfl))))
theorem raise_one {w : World} {mean : ExcName → Option Value} {mg mb : Str → Option Value} {tq : Nat} {k : Str} (hk32 : (reprText k).length ≤ 32) {x : Value} {nd : List (Addr × Obj)} :
  FallD w mean mg mb 60 (.ref 114) [x, .str k tq] [] nd (.str k tq) := by
  intro dp un gd cn cs a ccd outer A₀ base h₀ L m news s R B F X N T hk hdp hun hn hexc
  have D := @ktsDicts_nil h₀
  (try refine wpAny_call ?_)
  k_dflt (refine' code_def ?k1 ?k2 ?k3 ?k4 ?k5 ?kA ?kF ?kK ?k6 ?k7 ?k8 ?k9 ?kB ?_ ?c2 ?c3 ?c4 ?c5; (case kA => exact rfl); (case kF => exact rfl); (case kK => assumption); (case k1 => k_asm); (case k2 => k_asm); (case k3 => k_asm); (case k4 => k_asm); (case k5 => k_asm); (case k6 => k_is); (case k7 => k_is); (case k8 => ktr_room); (case k9 => first | exact BindsTo.of_eq rfl | exact binds_K (by k_in) rfl (by k_is) rfl rfl rfl); (case c5 => decide); (case kB => exact locs rfl); (case c2 => exact rfl); (case c3 => exact rfl); (case c4 => exact rfl); k_whole; intro g' L' h' FG' F' N' B' X' T'; (conv at F' => enter [4, y, 2]; whnf); (try dsimp only); (try k_fold))
  k_steps
  refine' sh_make ?k1 ?k2 ?k3 ?k4 ?k5 ?k6 ?k7 ?k8 ?k9 ?_
  case k1 => k_asm
  case k2 => k_asm
  case k3 => k_asm
  case k4 => k_asm
  case k5 => k_asm
  case k6 => first | assumption | exact rfl
  case k7 => ktr_room
  case k8 => ktr_units
  case k9 => rfl
  intro e t2 dx i1 i2 j1 j2 h6 tk6 F6 N6 ne6
  refine ⟨w, e, t2, dx, rfl, (N6 _ (.head _)).1, Frag.In.keeps X' F6.keep, ?_⟩
  refine' leave_shD ?k1 ?k2 ?k3 ?k4 ?_ ?k5
  case k1 => assumption
  case k2 => assumption
  case k3 => exact N6
  case k4 => exact ne6
  case k5 => exact rfl
  intro h' R' U'
  exact hexc _ _ _ _ _ _ _ _ _ _ (by assumption) R' U'
end Mine
namespace Mine
open PySem PySem.W PyProof.Rows PySem.Calls
set_option maxHeartbeats 1000000
theorem FallD.use {w : World} {mean : ExcName → Option Value} {mg mb : Str → Option Value} {d : Nat} {f : Value} {pos : List Value} {kw : List (Str × Value)} {need : List (Addr × Obj)} {v : Value}
  (C : FallD w mean mg mb d f pos kw need v)
  {dp un : Nat} {gd : Option (List Code)} {cn : Str} {cs : Scope} {a : Addr} {ccd : Value} {outer : List Env} {A₀ : Around} {base h₀ : Heap} {L : Addr} {m : Str → Option Value} {news : List (Addr × Obj)} {s : Shared} {Q E : Value → Shared → Prop}
  (B : Below A₀ base outer h₀) (F : Fr h₀ L s.heap m) (X : (Mine.hd.heap_39 w.params).In h₀) (N : News h₀ L s.heap news) (T : Top topProg LO mean mg mb h₀) (hk : cs.kind = .function) (hdp : dp + d < recursionLimit) (hun : un + 10 * d < cLine) (hn : ∀ p ∈ need, p ∈ news)
  (hexc : ∀ G e dd i1 i2 j1 j2 mv h' tk', Fr h₀ L G m → RaisedD base G (envX cn cs L a ccd [] :: outer) e dd ((dd, shDict i1 i2 j1 j2 mv v) :: news) h' → G.UpToSlots h' → E (.ref e) { s with heap := h', toks := tk' }) :
  wpAny (model PySem.Challenge.rw_fq0010_01.row.prog w) (ktrTop dp un gd cn cs L a ccd [] outer) (call f pos kw) Q E s :=
  wpAny_call (C dp un gd cn cs a ccd outer A₀ base h₀ L m news s _ B F X N T hk hdp hun hn hexc)
end Mine
local macro_rules | `(tactic| walk_at "call ref") => `(tactic| (k_dflt ((refine' FallD.use ?C ?k1 ?k2 ?k3 ?k4 ?k5 ?k6 ?k7 ?k8 ?k9 ?_); (case C => assumption); (case k1 => assumption); (case k2 => assumption); (case k3 => assumption); (case k4 => assumption); (case k5 => assumption); (case k6 => first | rfl | assumption); (case k7 => ktr_room); (case k8 => ktr_units); (case k9 => (intro p hp; (repeat first | (with_reducible refine List.mem_cons_of_mem _ ?_) | (with_reducible refine List.mem_append_right _ ?_)); (first | exact hp | ((rename ∀ p ∈ _, p ∈ _ => hz); exact hz _ hp)))); (intro G e dq iq1 iq2 jq1 jq2 mq h' tk' F' R' U'); (try dsimp only))))
namespace Mine
open PySem PySem.W PyProof.Rows PySem.Calls
set_option maxHeartbeats 1000000
local macro_rules | `(tactic| walk_at "call ref") => `(tactic| (k_dflt ((refine' FallD.use ?C ?k1 ?k2 ?k3 ?k4 ?k5 ?k6 ?k7 ?k8 ?k9 ?_); (case C => assumption); (case k1 => assumption); (case k2 => assumption); (case k3 => assumption); (case k4 => assumption); (case k5 => assumption); (case k6 => first | rfl | assumption); (case k7 => ktr_room); (case k8 => ktr_units); (case k9 => (intro p hp; (repeat first | (with_reducible refine List.mem_cons_of_mem _ ?_) | (with_reducible refine List.mem_append_right _ ?_)); (first | exact hp | ((rename ∀ p ∈ _, p ∈ _ => hz); exact hz _ hp)))); (intro G e dq iq1 iq2 jq1 jq2 mq h' tk' F' R' U'); (try dsimp only))))
end Mine
local macro_rules | `(tactic| walk_at "leaving ref") => `(tactic| (k_here; (with_reducible rename RaisedD _ _ _ _ _ _ _ => rdX); k_dflt (refine' leave_onD ?k1 ?k2 ?k3 ?k4 ?_; (case k3 => assumption); (case k2 => assumption); (case k1 => assumption); (case k4 => assumption); k_whole); intro h' R' U'; (try dsimp only at R' U' ⊢)))
namespace Mine
open PySem PySem.W PyProof.Rows PySem.Calls
set_option maxHeartbeats 1000000
local macro_rules | `(tactic| walk_at "call ref") => `(tactic| (k_dflt ((refine' FallD.use ?C ?k1 ?k2 ?k3 ?k4 ?k5 ?k6 ?k7 ?k8 ?k9 ?_); (case C => assumption); (case k1 => assumption); (case k2 => assumption); (case k3 => assumption); (case k4 => assumption); (case k5 => assumption); (case k6 => first | rfl | assumption); (case k7 => ktr_room); (case k8 => ktr_units); (case k9 => (intro p hp; (repeat first | (with_reducible refine List.mem_cons_of_mem _ ?_) | (with_reducible refine List.mem_append_right _ ?_)); (first | exact hp | ((rename ∀ p ∈ _, p ∈ _ => hz); exact hz _ hp)))); (intro G e dq iq1 iq2 jq1 jq2 mq h' tk' F' R' U'); (try dsimp only))))
local macro_rules | `(tactic| walk_at "leaving ref") => `(tactic| (k_here; (with_reducible rename RaisedD _ _ _ _ _ _ _ => rdX); k_dflt (refine' leave_onD ?k1 ?k2 ?k3 ?k4 ?_; (case k3 => assumption); (case k2 => assumption); (case k1 => assumption); (case k4 => assumption); k_whole); intro h' R' U'; (try dsimp only at R' U' ⊢)))
end Mine
local macro_rules | `(tactic| walk_at "leaving ref") => `(tactic| (k_here; (with_reducible rename RaisedHD _ _ _ _ _ _ _ _ => rdX); k_dflt (refine' leave_heldD ?R ?F ?U ?_; (case R => assumption); (case F => assumption); (case U => assumption); k_whole); intro h' R' U'; (try dsimp only at R' U' ⊢)))
namespace Mine
open PySem PySem.W PyProof.Rows PySem.Calls
set_option maxHeartbeats 1000000
local macro_rules | `(tactic| walk_at "call ref") => `(tactic| (k_dflt ((refine' FallD.use ?C ?k1 ?k2 ?k3 ?k4 ?k5 ?k6 ?k7 ?k8 ?k9 ?_); (case C => assumption); (case k1 => assumption); (case k2 => assumption); (case k3 => assumption); (case k4 => assumption); (case k5 => assumption); (case k6 => first | rfl | assumption); (case k7 => ktr_room); (case k8 => ktr_units); (case k9 => (intro p hp; (repeat first | (with_reducible refine List.mem_cons_of_mem _ ?_) | (with_reducible refine List.mem_append_right _ ?_)); (first | exact hp | ((rename ∀ p ∈ _, p ∈ _ => hz); exact hz _ hp)))); (intro G e dq iq1 iq2 jq1 jq2 mq h' tk' F' R' U'); (try dsimp only))))
local macro_rules | `(tactic| walk_at "leaving ref") => `(tactic| (k_here; (with_reducible rename RaisedD _ _ _ _ _ _ _ => rdX); k_dflt (refine' leave_onD ?k1 ?k2 ?k3 ?k4 ?_; (case k3 => assumption); (case k2 => assumption); (case k1 => assumption); (case k4 => assumption); k_whole); intro h' R' U'; (try dsimp only at R' U' ⊢)))
local macro_rules | `(tactic| walk_at "leaving ref") => `(tactic| (k_here; (with_reducible rename RaisedHD _ _ _ _ _ _ _ _ => rdX); k_dflt (refine' leave_heldD ?R ?F ?U ?_; (case R => assumption); (case F => assumption); (case U => assumption); k_whole); intro h' R' U'; (try dsimp only at R' U' ⊢)))
end Mine
local macro_rules | `(tactic| walk_at "noteFrame ref") => `(tactic| (k_here; (with_reducible rename RaisedD _ _ _ _ _ _ _ => rdX); k_dflt (refine' look_D ?R ?F ?K ?U ?_; (case R => assumption); (case F => assumption); (case K => assumption); (case U => assumption); k_whole); intro h' R' U'; (try dsimp only at R' U' ⊢)))
namespace Mine
open PySem PySem.W PyProof.Rows PySem.Calls
set_option maxHeartbeats 1000000
local macro_rules | `(tactic| walk_at "call ref") => `(tactic| (k_dflt ((refine' FallD.use ?C ?k1 ?k2 ?k3 ?k4 ?k5 ?k6 ?k7 ?k8 ?k9 ?_); (case C => assumption); (case k1 => assumption); (case k2 => assumption); (case k3 => assumption); (case k4 => assumption); (case k5 => assumption); (case k6 => first | rfl | assumption); (case k7 => ktr_room); (case k8 => ktr_units); (case k9 => (intro p hp; (repeat first | (with_reducible refine List.mem_cons_of_mem _ ?_) | (with_reducible refine List.mem_append_right _ ?_)); (first | exact hp | ((rename ∀ p ∈ _, p ∈ _ => hz); exact hz _ hp)))); (intro G e dq iq1 iq2 jq1 jq2 mq h' tk' F' R' U'); (try dsimp only))))
local macro_rules | `(tactic| walk_at "leaving ref") => `(tactic| (k_here; (with_reducible rename RaisedD _ _ _ _ _ _ _ => rdX); k_dflt (refine' leave_onD ?k1 ?k2 ?k3 ?k4 ?_; (case k3 => assumption); (case k2 => assumption); (case k1 => assumption); (case k4 => assumption); k_whole); intro h' R' U'; (try dsimp only at R' U' ⊢)))
local macro_rules | `(tactic| walk_at "leaving ref") => `(tactic| (k_here; (with_reducible rename RaisedHD _ _ _ _ _ _ _ _ => rdX); k_dflt (refine' leave_heldD ?R ?F ?U ?_; (case R => assumption); (case F => assumption); (case U => assumption); k_whole); intro h' R' U'; (try dsimp only at R' U' ⊢)))
local macro_rules | `(tactic| walk_at "noteFrame ref") => `(tactic| (k_here; (with_reducible rename RaisedD _ _ _ _ _ _ _ => rdX); k_dflt (refine' look_D ?R ?F ?K ?U ?_; (case R => assumption); (case F => assumption); (case K => assumption); (case U => assumption); k_whole); intro h' R' U'; (try dsimp only at R' U' ⊢)))
end Mine
local macro_rules | `(tactic| walk_at "handleBy ref") => `(tactic| (k_here; (with_reducible rename RaisedD _ _ _ _ _ _ _ => rdX); first
  | (k_dflt (refine' pass_D ?R ?F ?K ?U ?XB ?TB ?T ?_; (case R => assumption); (case F => assumption); (case K => assumption); (case U => assumption); (case XB => assumption); (case TB => assumption); (case T => kts_test); k_whole); intro h' R' U'; (try dsimp only at R' U' ⊢))
  | (k_dflt (refine' hit_DB ?R ?F ?K ?U ?XB ?TB ?D ?T0 ?T ?_; (case R => assumption); (case F => assumption); (case K => assumption); (case U => assumption); (case XB => assumption); (case TB => assumption); (case D => assumption); (case T0 => first | assumption | exact KtsTurn.refl); (case T => kts_test); k_whole); intro h' g' tk' oe ws oec oed oeD T' F' N' K' X' P' D'; (try k_lift K'); (try k_sweep))
  | (k_dflt (refine' on_D ?R ?U ?_; (case R => assumption); (case U => assumption); k_whole); intro h' R' U'; (try dsimp only at R' U' ⊢))))
namespace Mine
open PySem PySem.W PyProof.Rows PySem.Calls
set_option maxHeartbeats 1000000
local macro_rules | `(tactic| walk_at "call ref") => `(tactic| (k_dflt ((refine' FallD.use ?C ?k1 ?k2 ?k3 ?k4 ?k5 ?k6 ?k7 ?k8 ?k9 ?_); (case C => assumption); (case k1 => assumption); (case k2 => assumption); (case k3 => assumption); (case k4 => assumption); (case k5 => assumption); (case k6 => first | rfl | assumption); (case k7 => ktr_room); (case k8 => ktr_units); (case k9 => (intro p hp; (repeat first | (with_reducible refine List.mem_cons_of_mem _ ?_) | (with_reducible refine List.mem_append_right _ ?_)); (first | exact hp | ((rename ∀ p ∈ _, p ∈ _ => hz); exact hz _ hp)))); (intro G e dq iq1 iq2 jq1 jq2 mq h' tk' F' R' U'); (try dsimp only))))
local macro_rules | `(tactic| walk_at "leaving ref") => `(tactic| (k_here; (with_reducible rename RaisedD _ _ _ _ _ _ _ => rdX); k_dflt (refine' leave_onD ?k1 ?k2 ?k3 ?k4 ?_; (case k3 => assumption); (case k2 => assumption); (case k1 => assumption); (case k4 => assumption); k_whole); intro h' R' U'; (try dsimp only at R' U' ⊢)))
local macro_rules | `(tactic| walk_at "leaving ref") => `(tactic| (k_here; (with_reducible rename RaisedHD _ _ _ _ _ _ _ _ => rdX); k_dflt (refine' leave_heldD ?R ?F ?U ?_; (case R => assumption); (case F => assumption); (case U => assumption); k_whole); intro h' R' U'; (try dsimp only at R' U' ⊢)))
local macro_rules | `(tactic| walk_at "noteFrame ref") => `(tactic| (k_here; (with_reducible rename RaisedD _ _ _ _ _ _ _ => rdX); k_dflt (refine' look_D ?R ?F ?K ?U ?_; (case R => assumption); (case F => assumption); (case K => assumption); (case U => assumption); k_whole); intro h' R' U'; (try dsimp only at R' U' ⊢)))
local macro_rules | `(tactic| walk_at "handleBy ref") => `(tactic| (k_here; (with_reducible rename RaisedD _ _ _ _ _ _ _ => rdX); first
  | (k_dflt (refine' pass_D ?R ?F ?K ?U ?XB ?TB ?T ?_; (case R => assumption); (case F => assumption); (case K => assumption); (case U => assumption); (case XB => assumption); (case TB => assumption); (case T => kts_test); k_whole); intro h' R' U'; (try dsimp only at R' U' ⊢))
  | (k_dflt (refine' hit_DB ?R ?F ?K ?U ?XB ?TB ?D ?T0 ?T ?_; (case R => assumption); (case F => assumption); (case K => assumption); (case U => assumption); (case XB => assumption); (case TB => assumption); (case D => assumption); (case T0 => first | assumption | exact KtsTurn.refl); (case T => kts_test); k_whole); intro h' g' tk' oe ws oec oed oeD T' F' N' K' X' P' D'; (try k_lift K'); (try k_sweep))
  | (k_dflt (refine' on_D ?R ?U ?_; (case R => assumption); (case U => assumption); k_whole); intro h' R' U'; (try dsimp only at R' U' ⊢))))
theorem FallD.bound {w : World} {mean : ExcName → Option Value} {mg mb : Str → Option Value} {d : Nat} {f self : Value} {pos : List Value} {kw : List (Str × Value)} {nd : List (Addr × Obj)} {v : Value} {bm : Addr}
  (C : FallD w mean mg mb d f (self :: pos) kw nd v) (hb : (bm, methodObj f self) ∈ nd) : FallD w mean mg mb d (.ref bm) pos kw nd v := by
  intro dp un gd cn cs a ccd outer A₀ base h₀ L m news s R B F X N T hk hdp hun hn hexc
  exact method_call (N _ (hn _ hb)).1 (C dp un gd cn cs a ccd outer A₀ base h₀ L m news s R B F X N T hk hdp hun hn hexc)
theorem dwc_refused {w : World} {mean : ExcName → Option Value} {mg mb : Str → Option Value} {nd : List (Addr × Obj)} {ms mdx dd fd bm fdx c lst : Addr} {od : Obj} {i1 i2 i3 i4 j1 j2 : Int} {t1 t2 t3 t4 u1 u2 tq : Nat} {k : Str} (hk32 : (reprText k).length ≤ 32)
  (hms : (ms, msObj mdx) ∈ nd) (hmdx : (mdx, msDict i1 i2 i3 i4 t1 t2 t3 t4 (.ref 401) dd fd bm) ∈ nd) (hdd : (dd, od) ∈ nd) (hod : od.IsDictOf (PySem.strKind PySem.Challenge.rw_fq0010_01.row.prog w) []) (lod : (dd == sysModules) = false)
  (hfd : (fd, fdObj fdx) ∈ nd) (hfdx : (fdx, fdDict j1 j2 u1 u2 c lst) ∈ nd) 
  (hdisp : Tell w mean mg mb 8 (.ref 151) [.ref fd, .str k tq] [] nd (fun v tl => v = .none ∧ tl = [])) :
  FallD w mean mg mb 72 (.ref 194) [.ref ms, .str k tq] [] nd (.str k tq) := by
  have hraise := raise_one (w := w) (mean := mean) (mg := mg) (mb := mb) (tq := tq) (x := .none) (nd := nd) hk32
  intro dp un gd cn cs a ccd outer A₀ base h₀ L m news s R B F X N T hk hdp hun hn hexc
  have D := @ktsDicts_nil h₀
  replace hms := hn _ hms
  replace hmdx := hn _ hmdx
  replace hdd := hn _ hdd
  replace hfd := hn _ hfd
  replace hfdx := hn _ hfdx
  (try refine wpAny_call ?_)
  k_dflt (refine' code_def ?k1 ?k2 ?k3 ?k4 ?k5 ?kA ?kF ?kK ?k6 ?k7 ?k8 ?k9 ?kB ?_ ?c2 ?c3 ?c4 ?c5; (case kA => exact rfl); (case kF => exact rfl); (case kK => assumption); (case k1 => k_asm); (case k2 => k_asm); (case k3 => k_asm); (case k4 => k_asm); (case k5 => k_asm); (case k6 => k_is); (case k7 => k_is); (case k8 => ktr_room); (case k9 => first | exact BindsTo.of_eq rfl | exact binds_K (by k_in) rfl (by k_is) rfl rfl rfl); (case c5 => decide); (case kB => exact locs rfl); (case c2 => exact rfl); (case c3 => exact rfl); (case c4 => exact rfl); k_whole; intro g' L' h' FG' F' N' B' X' T'; (conv at F' => enter [4, y, 2]; whnf); (try dsimp only); (try k_fold))
  k_steps
  exact hexc _ _ _ _ _ _ _ _ _ _ (by assumption) (by assumption) (by assumption)
theorem gsh_refused {w : World} {mean : ExcName → Option Value} {mg mb : Str → Option Value} {nd : List (Addr × Obj)} {cv cdx to mu ms mdx dd fd : Addr} {i1 i2 i3 i4 : Int} {t1 t2 t3 t4 tq : Nat} {k : Str} {fb : Value} {bm : Addr} {v1 v2 v3 v4 v5 v6 v7 : Option Value}
  (hcd : (cdx, dictOf [] 0) ∈ nd) (hcv : (cv, convObj cdx ms mu to v1 v2 v3 v4 v5 v6 v7) ∈ nd)
  (hms : (ms, msObj mdx) ∈ nd) (hmdx : (mdx, msDict i1 i2 i3 i4 t1 t2 t3 t4 fb dd fd bm) ∈ nd) (hbm : (bm, methodObj (.ref 194) (.ref ms)) ∈ nd)
  (hdwc : FallD w mean mg mb 72 (.ref 194) [.ref ms, .str k tq] [] nd (.str k tq)) :
  FallD w mean mg mb 76 (.ref 336) [.ref cv, .str k tq] [(Str.ofString "cache_result", .bool false)] nd (.str k tq) := by
  have hb := hdwc.bound hbm
  intro dp un gd cn cs a ccd outer A₀ base h₀ L m news s R B F X N T hk hdp hun hn hexc
  have D := @ktsDicts_nil h₀
  replace hcd := hn _ hcd
  replace hcv := hn _ hcv
  replace hms := hn _ hms
  replace hmdx := hn _ hmdx
  replace hbm := hn _ hbm
  (try refine wpAny_call ?_)
  k_dflt (refine' code_def ?k1 ?k2 ?k3 ?k4 ?k5 ?kA ?kF ?kK ?k6 ?k7 ?k8 ?k9 ?kB ?_ ?c2 ?c3 ?c4 ?c5; (case kA => exact rfl); (case kF => exact rfl); (case kK => assumption); (case k1 => k_asm); (case k2 => k_asm); (case k3 => k_asm); (case k4 => k_asm); (case k5 => k_asm); (case k6 => k_is); (case k7 => k_is); (case k8 => ktr_room); (case k9 => first | exact BindsTo.of_eq rfl | exact binds_K (by k_in) rfl (by k_is) rfl rfl rfl); (case c5 => decide); (case kB => exact locs rfl); (case c2 => exact rfl); (case c3 => exact rfl); (case c4 => exact rfl); k_whole; intro g' L' h' FG' F' N' B' X' T'; (conv at F' => enter [4, y, 2]; whnf); (try dsimp only); (try k_fold))
  k_steps
  exact hexc _ _ _ _ _ _ _ _ _ _ (by assumption) (by assumption) (by assumption)
theorem FallD.toN {w : World} {mean : ExcName → Option Value} {mg mb : Str → Option Value} {d : Nat} {f : Value} {pos : List Value} {kw : List (Str × Value)} {nd : List (Addr × Obj)} {v : Value}
  (C : FallD w mean mg mb d f pos kw nd v) : FallN w mean mg mb d f pos kw nd (.ref 98) := by
  intro dp un gd cn cs a ccd outer A₀ base h₀ L m news s R B F X N T hk hdp hun hn hexc
  exact C dp un gd cn cs a ccd outer A₀ base h₀ L m news s R B F X N T hk hdp hun hn fun G e dd i1 i2 j1 j2 mv h' tk' F' R' U' => hexc G e h' tk' F' (RaisedSN.sub R'.1 fun p hp => List.mem_cons_of_mem _ hp) U'
end Mine
namespace Mine
open PySem PySem.W PyProof.Rows PySem.Calls
set_option maxHeartbeats 1000000
def FallDS (w : World) (mean : ExcName → Option Value) (mg mb : Str → Option Value) (d : Nat) (f : Value) (pos : List Value) (kw : List (Str × Value)) (need : List (Addr × Obj)) (v : Value) : Prop :=
  ∀ (dp un : Nat) (gd : Option (List Code)) (cn : Str) (cs : Scope) (a : Addr) (ccd : Value) (outer : List Env) (A₀ : Around) (base h₀ g₀ : Heap) (L : Addr) (m : Str → Option Value) (news : List (Addr × Obj)) (s : Shared) (R : Result → Shared → Prop),
    Below A₀ base outer h₀ → Fr h₀ L s.heap m → (Mine.hd.heap_39 w.params).In h₀ → News h₀ L s.heap news → Top topProg LO mean mg mb h₀ →
    (Mine.hd.heap_39 w.params).In base → Top topProg LO mean mg mb base → KtsDicts (outer.filterMap (·.frame)) h₀ → KtsTurn (outer.filterMap (·.frame)) g₀ h₀ → cs.kind = .function → dp + d < recursionLimit → un + 10 * d < cLine → (∀ p ∈ need, p ∈ news) →
    (∀ G e dd i1 i2 j1 j2 mv h' tk', Fr h₀ L G m → RaisedD base G (envX cn cs L a ccd [] :: outer) e dd ((dd, shDict i1 i2 j1 j2 mv v) :: news) h' → G.UpToSlots h' → R (.error (.ref e)) { s with heap := h', toks := tk' }) →
    codeAny (model PySem.Challenge.rw_fq0010_01.row.prog w) (ktrTop dp un gd cn cs L a ccd [] outer) (.call f ⟨pos, kw⟩) R s
theorem find_refused {w : World} {mean : ExcName → Option Value} {mg mb : Str → Option Value} {nd : List (Addr × Obj)} {at_ adx cv : Addr} {i1 i2 i3 i4 i5 i6 i7 : Int} {t1 t2 t3 t4 t5 t6 t7 tq : Nat} {k : Str} {v1 v2 kd v4 v5 al : Value} {b : Bool} {cdx ms mu to : Addr} {w1 w2 w3 w4 w5 w6 w7 : Option Value}
  (ha : (at_, atObj adx) ∈ nd) (hadx : (adx, atDict i1 i2 i3 i4 i5 i6 i7 t1 t2 t3 t4 t5 t6 t7 v1 v2 kd v4 v5 al .none) ∈ nd)
  (hcd : (cdx, dictOf [] 0) ∈ nd) (hcv : (cv, convObj cdx ms mu to w1 w2 w3 w4 w5 w6 w7) ∈ nd)
  (hg : FallD w mean mg mb 76 (.ref 336) [.ref cv, .str k tq] [(Str.ofString "cache_result", .bool false)] nd (.str k tq)) :
  FallDS w mean mg mb 84 (.ref 122) [.ref at_, .str k tq, .ref cv, .bool b] [] nd (.str k tq) := by
  intro dp un gd cn cs a ccd outer A₀ base h₀ g₀ L m news s R B F X N T XB TB D T0 hk hdp hun hn hret
  replace ha := hn _ ha
  replace hadx := hn _ hadx
  replace hcd := hn _ hcd
  replace hcv := hn _ hcv
  k_dflt (refine' code_defS ?k1 ?k2 ?k3 ?k4 ?k5 ?XB ?TB ?D ?T0 ?kA ?k6 ?k7 ?k8 ?k9 ?kB ?_ ?cK ?c2 ?c3 ?c4 ?c5)
  case kA => exact rfl
  case k1 => assumption
  case k2 => assumption
  case k3 => assumption
  case k4 => assumption
  case k5 => assumption
  case XB => assumption
  case TB => assumption
  case D => assumption
  case T0 => assumption
  case k6 => k_is
  case k7 => k_is
  case k8 => ktr_room
  case k9 => first | exact BindsTo.of_eq rfl | exact binds_K (Frag.In.keeps X F.keep) rfl (by k_is) rfl rfl rfl
  case cK => assumption
  case kB => exact locs rfl
  case c2 => exact rfl
  case c3 => exact rfl
  case c4 => exact rfl
  case c5 => decide
  intro g' L' h' FG' F' N' B' X' T' D'
  (conv at F' => enter [4, y, 2]; whnf)
  (try dsimp only)
  (try k_fold)
  k_steps
  exact hret _ _ _ _ _ _ _ _ _ _ (by assumption) (by assumption) (by assumption)
theorem find_refused3 {w : World} {mean : ExcName → Option Value} {mg mb : Str → Option Value} {nd : List (Addr × Obj)} {at_ adx cv : Addr} {i1 i2 i3 i4 i5 i6 i7 : Int} {t1 t2 t3 t4 t5 t6 t7 tq : Nat} {k : Str} {v1 v2 kd v4 v5 al : Value} {cdx ms mu to : Addr} {w1 w2 w3 w4 w5 w6 w7 : Option Value}
  (ha : (at_, atObj adx) ∈ nd) (hadx : (adx, atDict i1 i2 i3 i4 i5 i6 i7 t1 t2 t3 t4 t5 t6 t7 v1 v2 kd v4 v5 al .none) ∈ nd)
  (hcd : (cdx, dictOf [] 0) ∈ nd) (hcv : (cv, convObj cdx ms mu to w1 w2 w3 w4 w5 w6 w7) ∈ nd)
  (hg : FallD w mean mg mb 76 (.ref 336) [.ref cv, .str k tq] [(Str.ofString "cache_result", .bool false)] nd (.str k tq)) :
  FallDS w mean mg mb 84 (.ref 122) [.ref at_, .str k tq, .ref cv] [] nd (.str k tq) := by
  intro dp un gd cn cs a ccd outer A₀ base h₀ g₀ L m news s R B F X N T XB TB D T0 hk hdp hun hn hret
  replace ha := hn _ ha
  replace hadx := hn _ hadx
  replace hcd := hn _ hcd
  replace hcv := hn _ hcv
  k_dflt (refine' code_defS ?k1 ?k2 ?k3 ?k4 ?k5 ?XB ?TB ?D ?T0 ?kA ?k6 ?k7 ?k8 ?k9 ?kB ?_ ?cK ?c2 ?c3 ?c4 ?c5)
  case kA => exact rfl
  case k1 => assumption
  case k2 => assumption
  case k3 => assumption
  case k4 => assumption
  case k5 => assumption
  case XB => assumption
  case TB => assumption
  case D => assumption
  case T0 => assumption
  case k6 => k_is
  case k7 => k_is
  case k8 => ktr_room
  case k9 => first | exact BindsTo.of_eq rfl | exact binds_K (Frag.In.keeps X F.keep) rfl (by k_is) rfl rfl rfl
  case cK => assumption
  case kB => exact locs rfl
  case c2 => exact rfl
  case c3 => exact rfl
  case c4 => exact rfl
  case c5 => decide
  intro g' L' h' FG' F' N' B' X' T' D'
  (conv at F' => enter [4, y, 2]; whnf)
  (try dsimp only)
  (try k_fold)
  k_steps
  exact hret _ _ _ _ _ _ _ _ _ _ (by assumption) (by assumption) (by assumption)
theorem find_refusedo_f {w : World} {mean : ExcName → Option Value} {mg mb : Str → Option Value} {nd : List (Addr × Obj)} {at_ adx cv : Addr} {i1 i2 i3 i4 i5 i6 i7 : Int} {t1 t2 t3 t4 t5 t6 t7 tq : Nat} {k : Str} {v1 v2 kd v4 v5 al : Value} {cdx ms mu to : Addr} {w1 w2 w3 w4 w5 w6 w7 : Option Value}
  (ha : (at_, atObj adx) ∈ nd) (hadx : (adx, atDict i1 i2 i3 i4 i5 i6 i7 t1 t2 t3 t4 t5 t6 t7 v1 v2 kd v4 v5 al (.ref 502)) ∈ nd)
  (hcd : (cdx, dictOf [] 0) ∈ nd) (hcv : (cv, convObj cdx ms mu to w1 w2 w3 w4 w5 w6 w7) ∈ nd)
  (hg : FallN w mean mg mb 76 (.ref 336) [.ref cv, .str k tq] [(Str.ofString "cache_result", .bool false)] nd (.ref 98)) :
  TellS w mean mg mb 84 (.ref 122) [.ref at_, .str k tq, .ref cv, .bool false] [] nd (fun v tl => v = .none ∧ tl = []) := by
  intro dp un gd cn cs a ccd outer A₀ base h₀ g₀ L m news s R B F X N T XB TB D T0 hk hdp hun hn hret
  replace ha := hn _ ha
  replace hadx := hn _ hadx
  replace hcd := hn _ hcd
  replace hcv := hn _ hcv
  k_dflt (refine' code_defS ?k1 ?k2 ?k3 ?k4 ?k5 ?XB ?TB ?D ?T0 ?kA ?k6 ?k7 ?k8 ?k9 ?kB ?_ ?cK ?c2 ?c3 ?c4 ?c5)
  case kA => exact rfl
  case k1 => assumption
  case k2 => assumption
  case k3 => assumption
  case k4 => assumption
  case k5 => assumption
  case XB => assumption
  case TB => assumption
  case D => assumption
  case T0 => assumption
  case k6 => k_is
  case k7 => k_is
  case k8 => ktr_room
  case k9 => first | exact BindsTo.of_eq rfl | exact binds_K (Frag.In.keeps X F.keep) rfl (by k_is) rfl rfl rfl
  case cK => assumption
  case kB => exact locs rfl
  case c2 => exact rfl
  case c3 => exact rfl
  case c4 => exact rfl
  case c5 => decide
  intro g' L' h' FG' F' N' B' X' T' D'
  (conv at F' => enter [4, y, 2]; whnf)
  (try dsimp only)
  (try k_fold)
  k_steps
  exact hret _ [] _ _ _ (by assumption) (by assumption) (by assumption) (by assumption) (by assumption) (by assumption) (by assumption) ⟨rfl, rfl⟩
theorem find_refusedo3 {w : World} {mean : ExcName → Option Value} {mg mb : Str → Option Value} {nd : List (Addr × Obj)} {at_ adx cv : Addr} {i1 i2 i3 i4 i5 i6 i7 : Int} {t1 t2 t3 t4 t5 t6 t7 tq : Nat} {k : Str} {v1 v2 kd v4 v5 al : Value} {cdx ms mu to : Addr} {w1 w2 w3 w4 w5 w6 w7 : Option Value}
  (ha : (at_, atObj adx) ∈ nd) (hadx : (adx, atDict i1 i2 i3 i4 i5 i6 i7 t1 t2 t3 t4 t5 t6 t7 v1 v2 kd v4 v5 al (.ref 502)) ∈ nd)
  (hcd : (cdx, dictOf [] 0) ∈ nd) (hcv : (cv, convObj cdx ms mu to w1 w2 w3 w4 w5 w6 w7) ∈ nd)
  (hg : FallN w mean mg mb 76 (.ref 336) [.ref cv, .str k tq] [(Str.ofString "cache_result", .bool false)] nd (.ref 98)) :
  TellS w mean mg mb 84 (.ref 122) [.ref at_, .str k tq, .ref cv] [] nd (fun v tl => v = .none ∧ tl = []) := by
  intro dp un gd cn cs a ccd outer A₀ base h₀ g₀ L m news s R B F X N T XB TB D T0 hk hdp hun hn hret
  replace ha := hn _ ha
  replace hadx := hn _ hadx
  replace hcd := hn _ hcd
  replace hcv := hn _ hcv
  k_dflt (refine' code_defS ?k1 ?k2 ?k3 ?k4 ?k5 ?XB ?TB ?D ?T0 ?kA ?k6 ?k7 ?k8 ?k9 ?kB ?_ ?cK ?c2 ?c3 ?c4 ?c5)
  case kA => exact rfl
  case k1 => assumption
  case k2 => assumption
  case k3 => assumption
  case k4 => assumption
  case k5 => assumption
  case XB => assumption
  case TB => assumption
  case D => assumption
  case T0 => assumption
  case k6 => k_is
  case k7 => k_is
  case k8 => ktr_room
  case k9 => first | exact BindsTo.of_eq rfl | exact binds_K (Frag.In.keeps X F.keep) rfl (by k_is) rfl rfl rfl
  case cK => assumption
  case kB => exact locs rfl
  case c2 => exact rfl
  case c3 => exact rfl
  case c4 => exact rfl
  case c5 => decide
  intro g' L' h' FG' F' N' B' X' T' D'
  (conv at F' => enter [4, y, 2]; whnf)
  (try dsimp only)
  (try k_fold)
  k_steps
  exact hret _ [] _ _ _ (by assumption) (by assumption) (by assumption) (by assumption) (by assumption) (by assumption) (by assumption) ⟨rfl, rfl⟩
end Mine
namespace Mine
open PySem PySem.W PyProof.Rows PySem.Calls
set_option maxHeartbeats 4000000
end Mine
local macro_rules | `(tactic| walk_at "noteFrame ref") => `(tactic| (k_here; (with_reducible rename RaisedHN _ _ _ _ _ _ _ _ => rhX); k_dflt (refine' look_HN ?R ?U ?_; (case R => assumption); (case U => assumption); k_whole); intro h' R' U'; (try dsimp only at R' U' ⊢)))
namespace Mine
open PySem PySem.W PyProof.Rows PySem.Calls
set_option maxHeartbeats 4000000
local macro_rules | `(tactic| walk_at "noteFrame ref") => `(tactic| (k_here; (with_reducible rename RaisedHN _ _ _ _ _ _ _ _ => rhX); k_dflt (refine' look_HN ?R ?U ?_; (case R => assumption); (case U => assumption); k_whole); intro h' R' U'; (try dsimp only at R' U' ⊢)))
theorem find_fallso_f {w : World} {mean : ExcName → Option Value} {mg mb : Str → Option Value} {nd : List (Addr × Obj)} {at_ adx cv : Addr} {i1 i2 i3 i4 i5 i6 i7 : Int} {t1 t2 t3 t4 t5 t6 t7 tq : Nat} {k : Str} {v1 v2 kd v4 v5 al : Value} {cdx ms mu to : Addr} {w1 w2 w3 w4 w5 w6 w7 : Option Value}
  (ha : (at_, atObj adx) ∈ nd) (hadx : (adx, atDict i1 i2 i3 i4 i5 i6 i7 t1 t2 t3 t4 t5 t6 t7 v1 v2 kd v4 v5 al (.ref 502)) ∈ nd)
  (hcd : (cdx, dictOf [] 0) ∈ nd) (hcv : (cv, convObj cdx ms mu to w1 w2 w3 w4 w5 w6 w7) ∈ nd) 
  (hg : FallN w mean mg mb 20 (.ref 336) [.ref cv, .str k tq] [(Str.ofString "cache_result", .bool false)] nd (.type "RecursionError")) :
  TellS w mean mg mb 24 (.ref 122) [.ref at_, .str k tq, .ref cv, .bool false] [] nd (fun v tl => ∃ q, v = .ref q ∧ tl = [(q, methodObj (.ref 328) (.ref cv))]) := by
  intro dp un gd cn cs a ccd outer A₀ base h₀ g₀ L m news s R B F X N T XB TB D T0 hk hdp hun hn hret
  replace ha := hn _ ha
  replace hadx := hn _ hadx
  replace hcd := hn _ hcd
  replace hcv := hn _ hcv
  k_dflt (refine' code_defS ?k1 ?k2 ?k3 ?k4 ?k5 ?XB ?TB ?D ?T0 ?kA ?k6 ?k7 ?k8 ?k9 ?kB ?_ ?cK ?c2 ?c3 ?c4 ?c5)
  case kA => exact rfl
  case k1 => assumption
  case k2 => assumption
  case k3 => assumption
  case k4 => assumption
  case k5 => assumption
  case XB => assumption
  case TB => assumption
  case D => assumption
  case T0 => assumption
  case k6 => k_is
  case k7 => k_is
  case k8 => ktr_room
  case k9 => first | exact BindsTo.of_eq rfl | exact binds_K (Frag.In.keeps X F.keep) rfl (by k_is) rfl rfl rfl
  case cK => assumption
  case kB => exact locs rfl
  case c2 => exact rfl
  case c3 => exact rfl
  case c4 => exact rfl
  case c5 => decide
  intro g' L' h' FG' F' N' B' X' T' D'
  (conv at F' => enter [4, y, 2]; whnf)
  (try dsimp only)
  (try k_fold)
  k_steps
  exact hret _ [_] _ _ _ (by assumption) (by assumption) (by assumption) (by assumption) (by assumption) (by assumption) (by assumption) ⟨_, rfl, rfl⟩
theorem find_fallso3 {w : World} {mean : ExcName → Option Value} {mg mb : Str → Option Value} {nd : List (Addr × Obj)} {at_ adx cv : Addr} {i1 i2 i3 i4 i5 i6 i7 : Int} {t1 t2 t3 t4 t5 t6 t7 tq : Nat} {k : Str} {v1 v2 kd v4 v5 al : Value} {cdx ms mu to : Addr} {w1 w2 w3 w4 w5 w6 w7 : Option Value}
  (ha : (at_, atObj adx) ∈ nd) (hadx : (adx, atDict i1 i2 i3 i4 i5 i6 i7 t1 t2 t3 t4 t5 t6 t7 v1 v2 kd v4 v5 al (.ref 502)) ∈ nd)
  (hcd : (cdx, dictOf [] 0) ∈ nd) (hcv : (cv, convObj cdx ms mu to w1 w2 w3 w4 w5 w6 w7) ∈ nd) 
  (hg : FallN w mean mg mb 20 (.ref 336) [.ref cv, .str k tq] [(Str.ofString "cache_result", .bool false)] nd (.type "RecursionError")) :
  TellS w mean mg mb 24 (.ref 122) [.ref at_, .str k tq, .ref cv] [] nd (fun v tl => ∃ q, v = .ref q ∧ tl = [(q, methodObj (.ref 328) (.ref cv))]) := by
  intro dp un gd cn cs a ccd outer A₀ base h₀ g₀ L m news s R B F X N T XB TB D T0 hk hdp hun hn hret
  replace ha := hn _ ha
  replace hadx := hn _ hadx
  replace hcd := hn _ hcd
  replace hcv := hn _ hcv
  k_dflt (refine' code_defS ?k1 ?k2 ?k3 ?k4 ?k5 ?XB ?TB ?D ?T0 ?kA ?k6 ?k7 ?k8 ?k9 ?kB ?_ ?cK ?c2 ?c3 ?c4 ?c5)
  case kA => exact rfl
  case k1 => assumption
  case k2 => assumption
  case k3 => assumption
  case k4 => assumption
  case k5 => assumption
  case XB => assumption
  case TB => assumption
  case D => assumption
  case T0 => assumption
  case k6 => k_is
  case k7 => k_is
  case k8 => ktr_room
  case k9 => first | exact BindsTo.of_eq rfl | exact binds_K (Frag.In.keeps X F.keep) rfl (by k_is) rfl rfl rfl
  case cK => assumption
  case kB => exact locs rfl
  case c2 => exact rfl
  case c3 => exact rfl
  case c4 => exact rfl
  case c5 => decide
  intro g' L' h' FG' F' N' B' X' T' D'
  (conv at F' => enter [4, y, 2]; whnf)
  (try dsimp only)
  (try k_fold)
  k_steps
  exact hret _ [_] _ _ _ (by assumption) (by assumption) (by assumption) (by assumption) (by assumption) (by assumption) (by assumption) ⟨_, rfl, rfl⟩
end Mine
namespace Mine
open PySem PySem.W PyProof.Rows PySem.Calls
set_option maxHeartbeats 1000000
theorem fn_slot_ne : Slot "function" "__ne__" "object.__ne__" :=
  .of (owner := "object") (n := "__ne__") (by rw [typeLookup_type, builtinLookup_eq_fast]; kernel_rfl) (by decide +kernel) (by decide +kernel) (by decide +kernel)
    (by first | exact .inl (by decide +kernel) | exact .inr (by decide +kernel)) (by rw [isSubtype_type]; kernel_rfl)
theorem meth_slot_ne : Slot "method" "__ne__" "method.__ne__" :=
  .of (owner := "method") (n := "__ne__") (by rw [typeLookup_type, builtinLookup_eq_fast]; kernel_rfl) (by decide +kernel) (by decide +kernel) (by decide +kernel)
    (by first | exact .inl (by decide +kernel) | exact .inr (by decide +kernel)) (by rw [isSubtype_type]; kernel_rfl)
theorem meth_entry_ne : entryFor table "method.__ne__" = some Builtin.«method.__ne__» := entryFor_of_tree (by kernel_rfl)
theorem meth_args_ne (a b : Value) : argsOk "method.__ne__" ⟨[a, b], []⟩ := by unfold argsOk; kernel_rfl
theorem meth_meth : isSubtype (.type "method") (.type "method") = pure true := by rw [isSubtype_type]; kernel_rfl
section
variable {prog : Program} {w : World} {A : Around} {E : Value → Shared → Prop} {h : Heap} {g : Array GenState} {d : Drawn} {t : Nat} {os : OsState} {x y : Addr} {ox oy : Obj}
theorem specialEq_fn_same (hx : h.get? x = some ox) (cx : ox.cls = .type "function") {Q : Option Value → Shared → Prop} (hq : Q (some (.bool true)) ⟨h, g, d, t, os⟩) :
    wpAny (model prog w) A (callSpecialIfBound? (.ref x) "__eq__" [.ref x]) Q E ⟨h, g, d, t, os⟩ :=
  wpAny_callSpecialIfBound?_slot ⟨_, hx, cx⟩ fn_slot (wpAny_call_entry fn_slot ⟨_, hx, cx⟩ F.cmpEntry_eq (objEq_entry_same ⟨_, rfl, hq⟩) (F.cmpArgs_eq _ _))
theorem fnNe_entry_same (hx : h.get? x = some ox) (cx : ox.cls = .type "function") (hu : A.units < cLine) {Q : Fin → Shared → Prop} (hq : Q (.done (.ret (.bool false))) ⟨h, g, d, t, os⟩) :
    wpAny (model prog w) A (Builtin.«object.__ne__» ⟨[.ref x, .ref x], []⟩) Q E ⟨h, g, d, t, os⟩ := by
  unfold Builtin.«object.__ne__»
  repeat (first | with_reducible refine wpAny_cRoomFor hu ?_ | with_reducible refine specialEq_fn_same hx cx ?_ | wp_step)
  exact hq
theorem ne_fn_same (hx : h.get? x = some ox) (cx : ox.cls = .type "function") (hu : A.units + 1 < cLine) {Q : Value → Shared → Prop} (hq : Q (.bool false) ⟨h, g, d, t, os⟩) :
    wpAny (model prog w) A (compareOp .NotEq (.ref x) (.ref x)) Q E ⟨h, g, d, t, os⟩ := by
  show wpAny _ _ (richCompare .NotEq _ _) _ _ _
  have tr : ∀ {Q' : Option Value → Shared → Prop}, Q' (some (.bool false)) ⟨h, g, d, t, os⟩ → wpAny (model prog w) A (tryCompare (.ref x) "__ne__" (.ref x)) Q' E ⟨h, g, d, t, os⟩ := fun hq => by
    simp only [tryCompare]
    refine wpAny_bind (wpAny_callSpecialIfBound?_slot ⟨_, hx, cx⟩ fn_slot_ne (wpAny_call_entry fn_slot_ne ⟨_, hx, cx⟩ F.cmpEntry_ne (fnNe_entry_same hx cx ?_ ⟨_, rfl, ?_⟩) (F.cmpArgs_ne _ _)))
    · show A.in1.units < cLine
      first | exact Nat.lt_of_succ_lt hu | exact hu
    · exact wpAny_pure hq
  simp only [richCompare, cmpInfo_NotEq, oneThing_ref]
  repeat (first | with_reducible refine wpAny_cRoomFor (Nat.lt_of_succ_lt hu) ?_ | (with_reducible refine wpAny_loadPart_at hx ?_; rw [cx]) | with_reducible refine tr ?_ | wp_step | (simp only [bne_self_eq_false, Bool.false_eq_true, if_false]))
  exact hq
theorem methNe_entry {f self : Addr} (hx : h.get? x = some (methodObj (.ref f) (.ref self))) (hy : h.get? y = some (methodObj (.ref f) (.ref self))) {of os' : Obj} (hf : h.get? f = some of) (hs : h.get? self = some os') {Q : Fin → Shared → Prop} (hq : Q (.done (.ret (.bool false))) ⟨h, g, d, t, os⟩) :
    wpAny (model prog w) A (Builtin.«method.__ne__» ⟨[.ref x, .ref y], []⟩) Q E ⟨h, g, d, t, os⟩ := by
  unfold Builtin.«method.__ne__»
  k_delta "methodEquality"
  have hcl : (methodObj (.ref f) (.ref self)).cls = .type "method" := rfl
  have hmm := meth_meth
  repeat (first | with_reducible refine wpAny_isSame_ref_self ?_ | wp_step)
  exact hq
theorem ne_meth {f self : Addr} (hx : h.get? x = some (methodObj (.ref f) (.ref self))) (hy : h.get? y = some (methodObj (.ref f) (.ref self))) {of os' : Obj} (hf : h.get? f = some of) (hs : h.get? self = some os') (hu : A.units < cLine) {Q : Value → Shared → Prop} (hq : Q (.bool false) ⟨h, g, d, t, os⟩) :
    wpAny (model prog w) A (compareOp .NotEq (.ref x) (.ref y)) Q E ⟨h, g, d, t, os⟩ := by
  show wpAny _ _ (richCompare .NotEq _ _) _ _ _
  have tr : ∀ {Q' : Option Value → Shared → Prop}, Q' (some (.bool false)) ⟨h, g, d, t, os⟩ → wpAny (model prog w) A (tryCompare (.ref x) "__ne__" (.ref y)) Q' E ⟨h, g, d, t, os⟩ := fun hq => by
    simp only [tryCompare]
    refine wpAny_bind (wpAny_callSpecialIfBound?_slot ⟨_, hx, rfl⟩ meth_slot_ne (wpAny_call_entry meth_slot_ne ⟨_, hx, rfl⟩ meth_entry_ne (methNe_entry hx hy hf hs ⟨_, rfl, ?_⟩) (meth_args_ne _ _)))
    exact wpAny_pure hq
  by_cases q : x = y
  · subst q
    simp only [richCompare, cmpInfo_NotEq, oneThing_ref]
    repeat (first | with_reducible refine wpAny_cRoomFor hu ?_ | (with_reducible refine wpAny_loadPart_at hx ?_) | with_reducible refine tr ?_ | wp_step | (simp only [bne_self_eq_false, Bool.false_eq_true, if_false]))
    exact hq
  · simp only [richCompare, cmpInfo_NotEq, oneThing_ref]
    repeat (first | with_reducible refine wpAny_cRoomFor hu ?_ | (with_reducible refine wpAny_loadPart_at hx ?_) | (with_reducible refine wpAny_loadPart_at hy ?_) | with_reducible refine tr ?_ | wp_step | (simp only [bne_self_eq_false, Bool.false_eq_true, if_false]))
    exact hq
end
end Mine
namespace Mine
open PySem PySem.W PyProof.Rows PySem.Calls PySem.Builtin PySem.Builtin.ObjectAttr
set_option maxHeartbeats 1000000
theorem bga_bind (self : Value) : bindSpecial (.builtin "BaseException.__getattribute__") self = pure (.builtin "BaseException.__getattribute__", [self]) :=
  (Slot.of (T := "BaseException") (name := "__getattribute__") (owner := "BaseException") (n := "__getattribute__") (by rw [typeLookup_type, builtinLookup_eq_fast]; kernel_rfl) (by decide +kernel) (by decide +kernel) (by decide +kernel)
    (by first | exact .inl (by decide +kernel) | exact .inr (by decide +kernel)) (by rw [isSubtype_type]; kernel_rfl)).bind self
section
variable {w : World} {A : Around} {E : Value → Shared → Prop} {h : Heap} {g : Array GenState} {d : Drawn} {t : Nat} {os : OsState} {x : Addr} {ox : Obj} {od : Option Obj} {name : Str} {v : Value}
theorem sh_ga_entry {tk : Tok} {Q : Fin → Shared → Prop} (X : (Mine.hd.heap_39 w.params).In h) (I : InstAt h x ox 98 od) (hf : findObj (Mine.hd.heap_39 w.params) 98 od name = some (.value v)) (hh : handedIn v = true)
    (hq : Q (.done (.ret v)) ⟨h, g, d, t, os⟩) : wpAny (model PySem.Challenge.rw_fq0010_01.row.prog w) A (Builtin.«object.__getattribute__» ⟨[.ref x, .str name tk], []⟩) Q E ⟨h, g, d, t, os⟩ := by
  have L0 := I.type (M := (model PySem.Challenge.rw_fq0010_01.row.prog w))
  have L1 := looks_find (M := (model PySem.Challenge.rw_fq0010_01.row.prog w)) X I hf
  unfold Builtin.«object.__getattribute__»
  repeat (first | (with_reducible refine Looks.at L0 ?_) | (with_reducible refine Looks.at L1 ?_) | wp_step)
  exact hq
theorem sh_getAttr {expr : Bool} {Q : Value → Shared → Prop} (X : (Mine.hd.heap_39 w.params).In h) (I : InstAt h x ox 98 od) (hf : findObj (Mine.hd.heap_39 w.params) 98 od name = some (.value v)) (hh : handedIn v = true)
    (hga : findIn (Mine.hd.heap_39 w.params) (.ref 98) "__getattribute__" = some (some (.builtin "BaseException.__getattribute__"))) (hgh : findIn (Mine.hd.heap_39 w.params) (.ref 98) "__getattr__" = some none)
    (hq : Q v ⟨h, g, d, t + 1, os⟩) : wpAny (model PySem.Challenge.rw_fq0010_01.row.prog w) A (getAttr (.ref x) name expr) Q E ⟨h, g, d, t, os⟩ := by
  have L0 := I.type (M := (model PySem.Challenge.rw_fq0010_01.row.prog w))
  have L1 := looks_findIn (M := (model PySem.Challenge.rw_fq0010_01.row.prog w)) X hga
  have L2 := looks_findIn (M := (model PySem.Challenge.rw_fq0010_01.row.prog w)) X hgh
  have f3 := bga_bind (.ref x)
  have hk : builtinKind "BaseException.__getattribute__" = some .slot := by decide +kernel
  have hsplit : splitId "BaseException.__getattribute__" = some ("BaseException", "__getattribute__") := by decide +kernel
  obtain ⟨cd, hc, hm⟩ : ∃ cd, clsIn (Mine.hd.heap_39 w.params) 98 = some cd ∧ cd.mro = .ref 98 :: shMro := ⟨_, rfl, rfl⟩
  have sub : Looks (model PySem.Challenge.rw_fq0010_01.row.prog w) h (isInstance (.ref x) (.type "BaseException")) true := I.type.andThen (looks_mroIn X (by unfold mroIn; rw [hc, Option.bind_some, hm]; rfl))
  have hx0 : (expr && onTheHeap (Value.builtin "BaseException.__getattribute__")) = false := by cases expr <;> rfl
  have hx2 : (Value.builtin "BaseException.__getattribute__" == Value.builtin "object.__getattribute__") = false := by decide +kernel
  have hx1 : (onTheHeap (Value.ref 98) && Value.builtin "BaseException.__getattribute__" == Value.builtin "object.__getattribute__") = false := by rw [hx2]; rfl
  have cal : ∀ {A : Around} {R : Result → Shared → Prop}, R (.ok (.ret v)) ⟨h, g, d, t + 1, os⟩ → codeAny (model PySem.Challenge.rw_fq0010_01.row.prog w) A (.call (.builtin "BaseException.__getattribute__") ⟨[.ref x, .str name t], []⟩) R ⟨h, g, d, t + 1, os⟩ := by
    intro A R hR
    refine codeAny_call_builtin (by decide +kernel) F.entry_bexc_ga ?_
    refine @check_slot (model PySem.Challenge.rw_fq0010_01.row.prog w) _ _ ⟨h, g, d, t + 1, os⟩ "BaseException.__getattribute__" "BaseException" "__getattribute__" (.ref x) [.str name t] [] _ hk hsplit sub (F.args_bexc_ga _ _) ?_
    exact sh_ga_entry X I hf hh hR
  unfold getAttr getAttrBy
  refine wpAny_bind (wpAny_mkText (wpAny_holding (wpAny_bind (L0.at (wpAny_bind (L1.at ?_))))))
  dsimp only
  rw [if_neg (by rw [hx1]; exact Bool.false_ne_true)]
  unfold getAttrByItsOwn hookBefore callGetattribute boundAndCalled
  rw [if_pos (show onTheHeap (Value.ref 98) = true from rfl), hx0]
  refine wpAny_bind (L2.at (wpAny_bind (wpAny_attempt (wpAny_holding ?_))))
  rw [if_neg Bool.false_ne_true, f3]
  refine wpAny_bind (wpAny_pure (wpAny_call (cal ?_)))
  show wpAny _ _ (handedOut v) _ _ _
  rw [handedOut_of hh]
  exact wpAny_pure hq
end
end Mine
namespace Mine
open PySem PySem.W PyProof.Rows PySem.Calls
set_option maxHeartbeats 1000000
theorem TellS.use {w : World} {mean : ExcName → Option Value} {mg mb : Str → Option Value} {d : Nat} {f : Value} {pos : List Value} {kw : List (Str × Value)} {need : List (Addr × Obj)} {Ret : Value → List (Addr × Obj) → Prop}
  (C : TellS w mean mg mb d f pos kw need Ret)
  {dp un : Nat} {gd : Option (List Code)} {cn : Str} {cs : Scope} {a : Addr} {ccd : Value} {outer : List Env} {A₀ : Around} {base h₀ g₀ : Heap} {L : Addr} {m : Str → Option Value} {news : List (Addr × Obj)} {s : Shared} {Q E : Value → Shared → Prop}
  (B : Below A₀ base outer h₀) (F : Fr h₀ L s.heap m) (X : (Mine.hd.heap_39 w.params).In h₀) (N : News h₀ L s.heap news) (T : Top topProg LO mean mg mb h₀)
  (XB : (Mine.hd.heap_39 w.params).In base) (TB : Top topProg LO mean mg mb base) (D : KtsDicts (outer.filterMap (·.frame)) h₀) (T0 : KtsTurn (outer.filterMap (·.frame)) g₀ h₀) (hk : cs.kind = .function) (hdp : dp + d < recursionLimit) (hun : un + 10 * d < cLine) (hn : ∀ p ∈ need, p ∈ news)
  (hret : ∀ v tl h₁ h' tk', KtsTurn (outer.filterMap (·.frame)) g₀ h₁ → Fr h₁ L h' m → News h₁ L h' (tl ++ news) → Below A₀ base outer h₁ → (Mine.hd.heap_39 w.params).In h₁ → Top topProg LO mean mg mb h₁ → KtsDicts (outer.filterMap (·.frame)) h₁ → Ret v tl → Q v { s with heap := h', toks := tk' }) :
  wpAny (model PySem.Challenge.rw_fq0010_01.row.prog w) (ktrTop dp un gd cn cs L a ccd [] outer) (call f pos kw) Q E s :=
  wpAny_call (C dp un gd cn cs a ccd outer A₀ base h₀ g₀ L m news s _ B F X N T XB TB D T0 hk hdp hun hn hret)
theorem FallDS.use {w : World} {mean : ExcName → Option Value} {mg mb : Str → Option Value} {d : Nat} {f : Value} {pos : List Value} {kw : List (Str × Value)} {need : List (Addr × Obj)} {v : Value}
  (C : FallDS w mean mg mb d f pos kw need v)
  {dp un : Nat} {gd : Option (List Code)} {cn : Str} {cs : Scope} {a : Addr} {ccd : Value} {outer : List Env} {A₀ : Around} {base h₀ g₀ : Heap} {L : Addr} {m : Str → Option Value} {news : List (Addr × Obj)} {s : Shared} {Q E : Value → Shared → Prop}
  (B : Below A₀ base outer h₀) (F : Fr h₀ L s.heap m) (X : (Mine.hd.heap_39 w.params).In h₀) (N : News h₀ L s.heap news) (T : Top topProg LO mean mg mb h₀)
  (XB : (Mine.hd.heap_39 w.params).In base) (TB : Top topProg LO mean mg mb base) (D : KtsDicts (outer.filterMap (·.frame)) h₀) (T0 : KtsTurn (outer.filterMap (·.frame)) g₀ h₀) (hk : cs.kind = .function) (hdp : dp + d < recursionLimit) (hun : un + 10 * d < cLine) (hn : ∀ p ∈ need, p ∈ news)
  (hexc : ∀ G e dd i1 i2 j1 j2 mv h' tk', Fr h₀ L G m → RaisedD base G (envX cn cs L a ccd [] :: outer) e dd ((dd, shDict i1 i2 j1 j2 mv v) :: news) h' → G.UpToSlots h' → E (.ref e) { s with heap := h', toks := tk' }) :
  wpAny (model PySem.Challenge.rw_fq0010_01.row.prog w) (ktrTop dp un gd cn cs L a ccd [] outer) (call f pos kw) Q E s :=
  wpAny_call (C dp un gd cn cs a ccd outer A₀ base h₀ g₀ L m news s _ B F X N T XB TB D T0 hk hdp hun hn hexc)
end Mine
local macro_rules | `(tactic| walk_at "call ref") => `(tactic| (k_dflt ((refine' TellS.use ?C ?k1 ?k2 ?k3 ?k4 ?k5 ?XB ?TB ?D ?T0 ?k6 ?k7 ?k8 ?k9 ?_); (case C => assumption); (case k1 => assumption); (case k2 => assumption); (case k3 => assumption); (case k4 => assumption); (case k5 => assumption); (case XB => assumption); (case TB => assumption); (case D => assumption); (case T0 => first | assumption | exact KtsTurn.refl); (case k6 => first | rfl | assumption); (case k7 => ktr_room); (case k8 => ktr_units); (case k9 => (intro p hp; (repeat first | (with_reducible exact hp) | (with_reducible refine List.mem_cons_of_mem _ ?_) | (with_reducible refine List.mem_append_right _ ?_)); (try (first | exact hp | ((rename ∀ p ∈ _, p ∈ _ => hz); exact hz _ hp))))); (intro v tl h₁ h' tk' T' F' N' K' X' P' D' hR); (first | ((have e2 := hR.2); (have e1 := hR.1); (clear hR); (subst e1); (subst e2); (try dsimp only [List.nil_append] at N')) | skip); (try k_lift K'); (try k_sweep))))
namespace Mine
open PySem PySem.W PyProof.Rows PySem.Calls
set_option maxHeartbeats 1000000
local macro_rules | `(tactic| walk_at "call ref") => `(tactic| (k_dflt ((refine' TellS.use ?C ?k1 ?k2 ?k3 ?k4 ?k5 ?XB ?TB ?D ?T0 ?k6 ?k7 ?k8 ?k9 ?_); (case C => assumption); (case k1 => assumption); (case k2 => assumption); (case k3 => assumption); (case k4 => assumption); (case k5 => assumption); (case XB => assumption); (case TB => assumption); (case D => assumption); (case T0 => first | assumption | exact KtsTurn.refl); (case k6 => first | rfl | assumption); (case k7 => ktr_room); (case k8 => ktr_units); (case k9 => (intro p hp; (repeat first | (with_reducible exact hp) | (with_reducible refine List.mem_cons_of_mem _ ?_) | (with_reducible refine List.mem_append_right _ ?_)); (try (first | exact hp | ((rename ∀ p ∈ _, p ∈ _ => hz); exact hz _ hp))))); (intro v tl h₁ h' tk' T' F' N' K' X' P' D' hR); (first | ((have e2 := hR.2); (have e1 := hR.1); (clear hR); (subst e1); (subst e2); (try dsimp only [List.nil_append] at N')) | skip); (try k_lift K'); (try k_sweep))))
end Mine
local macro_rules | `(tactic| walk_at "call ref") => `(tactic| (k_dflt ((refine' FallDS.use ?C ?k1 ?k2 ?k3 ?k4 ?k5 ?XB ?TB ?D ?T0 ?k6 ?k7 ?k8 ?k9 ?_); (case C => assumption); (case k1 => assumption); (case k2 => assumption); (case k3 => assumption); (case k4 => assumption); (case k5 => assumption); (case XB => assumption); (case TB => assumption); (case D => assumption); (case T0 => first | assumption | exact KtsTurn.refl); (case k6 => first | rfl | assumption); (case k7 => ktr_room); (case k8 => ktr_units); (case k9 => (intro p hp; (repeat first | (with_reducible exact hp) | (with_reducible refine List.mem_cons_of_mem _ ?_) | (with_reducible refine List.mem_append_right _ ?_)); (try (first | exact hp | ((rename ∀ p ∈ _, p ∈ _ => hz); exact hz _ hp))))); (intro G e dq iq1 iq2 jq1 jq2 mq h' tk' F' R' U'); (try dsimp only))))
namespace Mine
open PySem PySem.W PyProof.Rows PySem.Calls
set_option maxHeartbeats 1000000
local macro_rules | `(tactic| walk_at "call ref") => `(tactic| (k_dflt ((refine' TellS.use ?C ?k1 ?k2 ?k3 ?k4 ?k5 ?XB ?TB ?D ?T0 ?k6 ?k7 ?k8 ?k9 ?_); (case C => assumption); (case k1 => assumption); (case k2 => assumption); (case k3 => assumption); (case k4 => assumption); (case k5 => assumption); (case XB => assumption); (case TB => assumption); (case D => assumption); (case T0 => first | assumption | exact KtsTurn.refl); (case k6 => first | rfl | assumption); (case k7 => ktr_room); (case k8 => ktr_units); (case k9 => (intro p hp; (repeat first | (with_reducible exact hp) | (with_reducible refine List.mem_cons_of_mem _ ?_) | (with_reducible refine List.mem_append_right _ ?_)); (try (first | exact hp | ((rename ∀ p ∈ _, p ∈ _ => hz); exact hz _ hp))))); (intro v tl h₁ h' tk' T' F' N' K' X' P' D' hR); (first | ((have e2 := hR.2); (have e1 := hR.1); (clear hR); (subst e1); (subst e2); (try dsimp only [List.nil_append] at N')) | skip); (try k_lift K'); (try k_sweep))))
local macro_rules | `(tactic| walk_at "call ref") => `(tactic| (k_dflt ((refine' FallDS.use ?C ?k1 ?k2 ?k3 ?k4 ?k5 ?XB ?TB ?D ?T0 ?k6 ?k7 ?k8 ?k9 ?_); (case C => assumption); (case k1 => assumption); (case k2 => assumption); (case k3 => assumption); (case k4 => assumption); (case k5 => assumption); (case XB => assumption); (case TB => assumption); (case D => assumption); (case T0 => first | assumption | exact KtsTurn.refl); (case k6 => first | rfl | assumption); (case k7 => ktr_room); (case k8 => ktr_units); (case k9 => (intro p hp; (repeat first | (with_reducible exact hp) | (with_reducible refine List.mem_cons_of_mem _ ?_) | (with_reducible refine List.mem_append_right _ ?_)); (try (first | exact hp | ((rename ∀ p ∈ _, p ∈ _ => hz); exact hz _ hp))))); (intro G e dq iq1 iq2 jq1 jq2 mq h' tk' F' R' U'); (try dsimp only))))
theorem found_val {w : World} {mean : ExcName → Option Value} {mg mb : Str → Option Value} {nd : List (Addr × Obj)} {at_ cv : Addr} {kv : Value} {b : Bool} {Ret : Value → List (Addr × Obj) → Prop}
  (hf : TellS w mean mg mb 84 (.ref 122) [.ref at_, kv, .ref cv, .bool b] [] nd Ret) :
  TellS w mean mg mb 92 (.ref 544) [.ref at_, kv, .ref cv, .bool b] [] nd Ret := by
  intro dp un gd cn cs a ccd outer A₀ base h₀ g₀ L m news s R B F X N T XB TB D T0 hk hdp hun hn hret
  k_dflt (refine' code_defS ?k1 ?k2 ?k3 ?k4 ?k5 ?XB ?TB ?D ?T0 ?kA ?k6 ?k7 ?k8 ?k9 ?kB ?_ ?cK ?c2 ?c3 ?c4 ?c5)
  case kA => exact rfl
  case k1 => assumption
  case k2 => assumption
  case k3 => assumption
  case k4 => assumption
  case k5 => assumption
  case XB => assumption
  case TB => assumption
  case D => assumption
  case T0 => assumption
  case k6 => k_is
  case k7 => k_is
  case k8 => ktr_room
  case k9 => first | exact BindsTo.of_eq rfl | exact binds_K (Frag.In.keeps X F.keep) rfl (by k_is) rfl rfl rfl
  case cK => assumption
  case kB => exact locs rfl
  case c2 => exact rfl
  case c3 => exact rfl
  case c4 => exact rfl
  case c5 => decide
  intro g' L' h' FG' F' N' B' X' T' D'
  (conv at F' => enter [4, y, 2]; whnf)
  (try dsimp only)
  (try k_fold)
  k_steps
  exact hret _ _ _ _ _ (by assumption) (by assumption) (by assumption) (by assumption) (by assumption) (by assumption) (by assumption) (by assumption)
theorem sh_getK {w : World} {A : Around} {E : Value → Shared → Prop} {s : Shared} {h₀ : Heap} {L x dx : Addr} {m : Str → Option Value} {news : List (Addr × Obj)} {ox : Obj} {ws : Array Value} {iq1 iq2 : Int} {jq1 jq2 : Nat} {mq v : Value} {expr : Bool} {Q : Value → Shared → Prop}
  (F : Fr h₀ L s.heap m) (X₀ : (Mine.hd.heap_39 w.params).In h₀) (N : News h₀ L s.heap news) (hx : (x, ox) ∈ news) (hc : ox.cls = .ref 98) (hd : ox.dict = some dx) (hdt : ox.data = .fields ws) (hdx : (dx, shDict iq1 iq2 jq1 jq2 mq v) ∈ news) (hh : handedIn v = true)
  (hga : findIn (Mine.hd.heap_39 w.params) (.ref 98) "__getattribute__" = some (some (.builtin "BaseException.__getattribute__"))) (hgh : findIn (Mine.hd.heap_39 w.params) (.ref 98) "__getattr__" = some none)
  (h1 : hasDictIn (Mine.hd.heap_39 w.params) 98 = true) (h2 : findIn (Mine.hd.heap_39 w.params) (.ref 98) "type_" = some none)
  (hq : Q v { s with toks := s.toks + 1 }) : wpAny (model PySem.Challenge.rw_fq0010_01.row.prog w) A (getAttr (.ref x) "type_" expr) Q E s := by
  have X := X₀.keeps F.keep
  have I : InstAt s.heap x ox 98 (some (shDict iq1 iq2 jq1 jq2 mq v)) := ⟨(N _ hx).1, hc, by unfold notCls; rw [hdt], by rw [hd]; exact (N _ hdx).1⟩
  obtain ⟨hh', g, d, t, os⟩ := s
  exact sh_getAttr X I (findObj_own h1 h2 rfl rfl) hh hga hgh hq
end Mine
local macro_rules | `(tactic| walk_at "getAttr ref") => `(tactic| (k_here; (with_reducible show wpAny _ _ (getAttr _ (Str.ofString "type_") _) _ _ _); k_dflt (refine' sh_getK ?k1 ?k2 ?k3 ?k4 ?k5 ?k6 ?k7 ?k8 ?k9 ?ka ?kb ?kc ?kd ?_; (case k1 => k_asm); (case k2 => k_asm); (case k3 => k_asm); (case k5 => assumption); (case k6 => assumption); (case k7 => assumption); (case k4 => k_mem); (case k8 => k_mem); (case k9 => exact rfl); (case ka => k_is); (case kb => k_is); (case kc => k_is); (case kd => k_is); k_whole)))
namespace Mine
open PySem PySem.W PyProof.Rows PySem.Calls
set_option maxHeartbeats 1000000
local macro_rules | `(tactic| walk_at "call ref") => `(tactic| (k_dflt ((refine' TellS.use ?C ?k1 ?k2 ?k3 ?k4 ?k5 ?XB ?TB ?D ?T0 ?k6 ?k7 ?k8 ?k9 ?_); (case C => assumption); (case k1 => assumption); (case k2 => assumption); (case k3 => assumption); (case k4 => assumption); (case k5 => assumption); (case XB => assumption); (case TB => assumption); (case D => assumption); (case T0 => first | assumption | exact KtsTurn.refl); (case k6 => first | rfl | assumption); (case k7 => ktr_room); (case k8 => ktr_units); (case k9 => (intro p hp; (repeat first | (with_reducible exact hp) | (with_reducible refine List.mem_cons_of_mem _ ?_) | (with_reducible refine List.mem_append_right _ ?_)); (try (first | exact hp | ((rename ∀ p ∈ _, p ∈ _ => hz); exact hz _ hp))))); (intro v tl h₁ h' tk' T' F' N' K' X' P' D' hR); (first | ((have e2 := hR.2); (have e1 := hR.1); (clear hR); (subst e1); (subst e2); (try dsimp only [List.nil_append] at N')) | skip); (try k_lift K'); (try k_sweep))))
local macro_rules | `(tactic| walk_at "call ref") => `(tactic| (k_dflt ((refine' FallDS.use ?C ?k1 ?k2 ?k3 ?k4 ?k5 ?XB ?TB ?D ?T0 ?k6 ?k7 ?k8 ?k9 ?_); (case C => assumption); (case k1 => assumption); (case k2 => assumption); (case k3 => assumption); (case k4 => assumption); (case k5 => assumption); (case XB => assumption); (case TB => assumption); (case D => assumption); (case T0 => first | assumption | exact KtsTurn.refl); (case k6 => first | rfl | assumption); (case k7 => ktr_room); (case k8 => ktr_units); (case k9 => (intro p hp; (repeat first | (with_reducible exact hp) | (with_reducible refine List.mem_cons_of_mem _ ?_) | (with_reducible refine List.mem_append_right _ ?_)); (try (first | exact hp | ((rename ∀ p ∈ _, p ∈ _ => hz); exact hz _ hp))))); (intro G e dq iq1 iq2 jq1 jq2 mq h' tk' F' R' U'); (try dsimp only))))
local macro_rules | `(tactic| walk_at "getAttr ref") => `(tactic| (k_here; (with_reducible show wpAny _ _ (getAttr _ (Str.ofString "type_") _) _ _ _); k_dflt (refine' sh_getK ?k1 ?k2 ?k3 ?k4 ?k5 ?k6 ?k7 ?k8 ?k9 ?ka ?kb ?kc ?kd ?_; (case k1 => k_asm); (case k2 => k_asm); (case k3 => k_asm); (case k5 => assumption); (case k6 => assumption); (case k7 => assumption); (case k4 => k_mem); (case k8 => k_mem); (case k9 => exact rfl); (case ka => k_is); (case kb => k_is); (case kc => k_is); (case kd => k_is); k_whole)))
theorem found_refused {w : World} {mean : ExcName → Option Value} {mg mb : Str → Option Value} {nd : List (Addr × Obj)} {at_ cv : Addr} {k : Str} {tq : Nat} {b : Bool}
  (hf : FallDS w mean mg mb 84 (.ref 122) [.ref at_, .str k tq, .ref cv, .bool b] [] nd (.str k tq)) :
  TellS w mean mg mb 92 (.ref 544) [.ref at_, .str k tq, .ref cv, .bool b] [] nd (fun v tl => ∃ j, v = .str "refused" j ∧ tl = []) := by
  intro dp un gd cn cs a ccd outer A₀ base h₀ g₀ L m news s R B F X N T XB TB D T0 hk hdp hun hn hret
  k_dflt (refine' code_defS ?k1 ?k2 ?k3 ?k4 ?k5 ?XB ?TB ?D ?T0 ?kA ?k6 ?k7 ?k8 ?k9 ?kB ?_ ?cK ?c2 ?c3 ?c4 ?c5)
  case kA => exact rfl
  case k1 => assumption
  case k2 => assumption
  case k3 => assumption
  case k4 => assumption
  case k5 => assumption
  case XB => assumption
  case TB => assumption
  case D => assumption
  case T0 => assumption
  case k6 => k_is
  case k7 => k_is
  case k8 => ktr_room
  case k9 => first | exact BindsTo.of_eq rfl | exact binds_K (Frag.In.keeps X F.keep) rfl (by k_is) rfl rfl rfl
  case cK => assumption
  case kB => exact locs rfl
  case c2 => exact rfl
  case c3 => exact rfl
  case c4 => exact rfl
  case c5 => decide
  intro g' L' h' FG' F' N' B' X' T' D'
  (conv at F' => enter [4, y, 2]; whnf)
  (try dsimp only)
  (try k_fold)
  k_steps
  · exact hret _ [] _ _ _ (by assumption) (by assumption) (news_tl (news_tl (by assumption))) (by assumption) (by assumption) (by assumption) (by assumption) ⟨_, rfl, rfl⟩
  · rename (k == k) = false => hz
    exact absurd ((beq_self_eq_true k).symm.trans hz) (by decide)
end Mine
namespace Mine
open PySem PySem.W PyProof.Rows PySem.Calls
set_option maxHeartbeats 2000000
theorem due_pref {w : World} {mean : ExcName → Option Value} {mg mb : Str → Option Value} {cv : Addr} {kv : Value} {n l : Bool} {nd : List (Addr × Obj)} :
  Tell w mean mg mb 8 (.ref 537) [.ref cv, kv, .bool true, .bool true, .bool n, .bool l] [] nd (fun v tl => v = .none ∧ tl = []) := by
  intro dp un gd cn cs a ccd cl outer A₀ base h₀ L m news s R B F X N T hk hdp hun hn hret
  (try refine wpAny_call ?_)
  k_dflt (refine' code_def ?k1 ?k2 ?k3 ?k4 ?k5 ?kA ?kF ?kK ?k6 ?k7 ?k8 ?k9 ?kB ?_ ?c2 ?c3 ?c4 ?c5; (case kA => exact rfl); (case kF => exact rfl); (case kK => assumption); (case k1 => k_asm); (case k2 => k_asm); (case k3 => k_asm); (case k4 => k_asm); (case k5 => k_asm); (case k6 => k_is); (case k7 => k_is); (case k8 => ktr_room); (case k9 => first | exact BindsTo.of_eq rfl | exact binds_K (by k_in) rfl (by k_is) rfl rfl rfl); (case c5 => decide); (case kB => exact locs rfl); (case c2 => exact rfl); (case c3 => exact rfl); (case c4 => exact rfl); k_whole; intro g' L' h' FG' F' N' B' X' T'; (conv at F' => enter [4, y, 2]; whnf); (try dsimp only); (try k_fold))
  k_steps
  exact hret _ [] _ _ (by assumption) (by assumption) ⟨rfl, rfl⟩
/-- what _law_due gives back for a kind that is a text -/
def DueR (cv : Addr) (k : Str) (own b n l : Bool) (v : Value) (tl : List (Addr × Obj)) : Prop :=
  if (own && b) = true then v = .none ∧ tl = [] else
  if (k == Str.ofString "falling") = true then ∃ q, v = .ref q ∧ tl = [(q, methodObj (.ref 328) (.ref cv))] else
  if (k == Str.ofString "unknown") = true ∨ ((k == Str.ofString "later") = true ∧ l = false) then (if own = true then v = .none ∧ tl = [] else ∃ j, v = .str "refused" j ∧ tl = []) else
  if (k == Str.ofString "refusing") = true then (if own = true then v = .none ∧ tl = [] else v = .ref 114 ∧ tl = []) else
  if (k == Str.ofString "later") = true ∨ (k == Str.ofString "made") = true then v = .ref 488 ∧ tl = [] else
  if n = true then v = .ref 495 ∧ tl = [] else v = .ref 481 ∧ tl = []
theorem due_str {w : World} {mean : ExcName → Option Value} {mg mb : Str → Option Value} {cv : Addr} {k : Str} {tq : Nat} {own b n l : Bool} {cdx to ms mu : Addr} {w1 w2 w3 w4 w5 w6 w7 : Option Value} {nd : List (Addr × Obj)}
  (hcd : (cdx, dictOf [] 0) ∈ nd) (hcv : (cv, convObj cdx ms mu to w1 w2 w3 w4 w5 w6 w7) ∈ nd) :
  Tell w mean mg mb 12 (.ref 537) [.ref cv, .str k tq, .bool own, .bool b, .bool n, .bool l] [] nd (DueR cv k own b n l) := by
  intro dp un gd cn cs a ccd cl outer A₀ base h₀ L m news s R B F X N T hk hdp hun hn hret
  replace hcd := hn _ hcd
  replace hcv := hn _ hcv
  (try refine wpAny_call ?_)
  k_dflt (refine' code_def ?k1 ?k2 ?k3 ?k4 ?k5 ?kA ?kF ?kK ?k6 ?k7 ?k8 ?k9 ?kB ?_ ?c2 ?c3 ?c4 ?c5; (case kA => exact rfl); (case kF => exact rfl); (case kK => assumption); (case k1 => k_asm); (case k2 => k_asm); (case k3 => k_asm); (case k4 => k_asm); (case k5 => k_asm); (case k6 => k_is); (case k7 => k_is); (case k8 => ktr_room); (case k9 => first | exact BindsTo.of_eq rfl | exact binds_K (by k_in) rfl (by k_is) rfl rfl rfl); (case c5 => decide); (case kB => exact locs rfl); (case c2 => exact rfl); (case c3 => exact rfl); (case c4 => exact rfl); k_whole; intro g' L' h' FG' F' N' B' X' T'; (conv at F' => enter [4, y, 2]; whnf); (try dsimp only); (try k_fold))
  k_steps
  all_goals first
    | (refine hret _ [] _ _ (by assumption) (by assumption) ?_; simp [DueR, *]; done)
    | (refine hret _ [_] _ _ (by assumption) (by assumption) ?_; simp [DueR, *]; done)
theorem due_nokind_0 {w : World} {mean : ExcName → Option Value} {mg mb : Str → Option Value} {cv : Addr}  {b n l : Bool} {cdx to ms mu : Addr} {w1 w2 w3 w4 w5 w6 w7 : Option Value} {nd : List (Addr × Obj)}
  (hcd : (cdx, dictOf [] 0) ∈ nd) (hcv : (cv, convObj cdx ms mu to w1 w2 w3 w4 w5 w6 w7) ∈ nd) :
  Tell w mean mg mb 12 (.ref 537) [.ref cv, .none, .bool false, .bool b, .bool n, .bool l] [] nd (fun v tl => ∃ q, v = .ref q ∧ tl = [(q, methodObj (.ref 328) (.ref cv))]) := by
  intro dp un gd cn cs a ccd cl outer A₀ base h₀ L m news s R B F X N T hk hdp hun hn hret
  replace hcd := hn _ hcd
  replace hcv := hn _ hcv
  (try refine wpAny_call ?_)
  k_dflt (refine' code_def ?k1 ?k2 ?k3 ?k4 ?k5 ?kA ?kF ?kK ?k6 ?k7 ?k8 ?k9 ?kB ?_ ?c2 ?c3 ?c4 ?c5; (case kA => exact rfl); (case kF => exact rfl); (case kK => assumption); (case k1 => k_asm); (case k2 => k_asm); (case k3 => k_asm); (case k4 => k_asm); (case k5 => k_asm); (case k6 => k_is); (case k7 => k_is); (case k8 => ktr_room); (case k9 => first | exact BindsTo.of_eq rfl | exact binds_K (by k_in) rfl (by k_is) rfl rfl rfl); (case c5 => decide); (case kB => exact locs rfl); (case c2 => exact rfl); (case c3 => exact rfl); (case c4 => exact rfl); k_whole; intro g' L' h' FG' F' N' B' X' T'; (conv at F' => enter [4, y, 2]; whnf); (try dsimp only); (try k_fold))
  k_steps
  exact hret _ [_] _ _ (by assumption) (by assumption) ⟨_, rfl, rfl⟩
theorem due_nokind_1 {w : World} {mean : ExcName → Option Value} {mg mb : Str → Option Value} {cv : Addr}  {n l : Bool} {cdx to ms mu : Addr} {w1 w2 w3 w4 w5 w6 w7 : Option Value} {nd : List (Addr × Obj)}
  (hcd : (cdx, dictOf [] 0) ∈ nd) (hcv : (cv, convObj cdx ms mu to w1 w2 w3 w4 w5 w6 w7) ∈ nd) :
  Tell w mean mg mb 12 (.ref 537) [.ref cv, .none, .bool true, .bool false, .bool n, .bool l] [] nd (fun v tl => ∃ q, v = .ref q ∧ tl = [(q, methodObj (.ref 328) (.ref cv))]) := by
  intro dp un gd cn cs a ccd cl outer A₀ base h₀ L m news s R B F X N T hk hdp hun hn hret
  replace hcd := hn _ hcd
  replace hcv := hn _ hcv
  (try refine wpAny_call ?_)
  k_dflt (refine' code_def ?k1 ?k2 ?k3 ?k4 ?k5 ?kA ?kF ?kK ?k6 ?k7 ?k8 ?k9 ?kB ?_ ?c2 ?c3 ?c4 ?c5; (case kA => exact rfl); (case kF => exact rfl); (case kK => assumption); (case k1 => k_asm); (case k2 => k_asm); (case k3 => k_asm); (case k4 => k_asm); (case k5 => k_asm); (case k6 => k_is); (case k7 => k_is); (case k8 => ktr_room); (case k9 => first | exact BindsTo.of_eq rfl | exact binds_K (by k_in) rfl (by k_is) rfl rfl rfl); (case c5 => decide); (case kB => exact locs rfl); (case c2 => exact rfl); (case c3 => exact rfl); (case c4 => exact rfl); k_whole; intro g' L' h' FG' F' N' B' X' T'; (conv at F' => enter [4, y, 2]; whnf); (try dsimp only); (try k_fold))
  k_steps
  exact hret _ [_] _ _ (by assumption) (by assumption) ⟨_, rfl, rfl⟩
end Mine
namespace Mine
open PySem PySem.W PyProof.Rows PySem.Calls PySem.Spec
set_option maxHeartbeats 1000000
/-- the frame at L over the ground g, which has turned since g₀ -/
structure GrdS (w : World) (mean : ExcName → Option Value) (mg mb : Str → Option Value) (A₀ : Around) (base : Heap) (outer : List Env) (g₀ : Heap) (L : Addr) (g : Heap) (m : Str → Option Value) (news : List (Addr × Obj)) (h : Heap) : Prop where
  turn : KtsTurn (outer.filterMap (·.frame)) g₀ g
  fr : Fr g L h m
  nw : News g L h news
  be : Below A₀ base outer g
  inn : (Mine.hd.heap_39 w.params).In g
  top : Top topProg LO mean mg mb g
  dic : KtsDicts (outer.filterMap (·.frame)) g
/-- what a turn must leave -/
def EndS (s : Shared) (led : List (Addr × Obj)) (G : Heap → (Str → Option Value) → List (Addr × Obj) → Heap → Prop) (R : (Str → Option Value) → Prop) (s₃ : Shared) : Prop :=
  ∃ g' m' h' tk', s₃ = { s with heap := h', toks := tk' } ∧ G g' m' led h' ∧ R m'
/-- the turns that are left: one for each entry -/
def RestS (prog : Program) (w : World) (A : Around) (E : Value → Shared → Prop) (env : Env) (target : PySem.Expr) (body : List Stmt) (Q : Flow → Shared → Prop) (s : Shared) (news : List (Addr × Obj)) (G : Heap → (Str → Option Value) → List (Addr × Obj) → Heap → Prop) :
    List (Value → Prop) → (Str → Option Value) → Prop
  | [], m => ∀ g h tk, G g m news h → Q .next { s with heap := h, toks := tk }
  | p :: ps, m => ∀ v g h tk its, p v → G g m (its ++ news) h →
      wpAny (model prog w) A (assign target env v) (fun _ s₂ => wpAny (model prog w) A (execs body env) (fun f s₃ => match f with
        | .next => EndS s (its ++ news) G (fun m' => RestS prog w A E env target body Q s news G ps m') s₃
        | .cont => EndS s (its ++ news) G (fun m' => RestS prog w A E env target body Q s news G ps m') s₃
        | .brk => Q .next s₃
        | .ret v => Q (.ret v) s₃) E s₂) E { s with heap := h, toks := tk }
section
variable {prog : Program} {w : World} {mean : ExcName → Option Value} {mg mb : Str → Option Value} {A A₀ : Around} {E : Value → Shared → Prop} {s : Shared} {env : Env} {base g₀ h₀ : Heap} {outer : List Env} {target : PySem.Expr} {body : List Stmt} {Q : Flow → Shared → Prop}
theorem loop_S {hp : Heap} {tk0 : Nat} {R : Result → Shared → Prop} {I : Addr} {fp wr : List Addr} {n : Nat} {P Md : Nat → Value → Heap → Prop} {St : Nat → Heap → Prop} {m : Str → Option Value} {news : List (Addr × Obj)} {ps : List (Value → Prop)}
    (W : KTurns prog w A target I fp wr n P Md St) (hn : n = ps.length) (hP : ∀ i v h, i < n → P i v h → ∃ p, ps[i]? = some p ∧ p v) (hLf : env.locals ∉ fp) (hfp : ∀ b ∈ fp, h₀.get? b = none) (hnw : ∀ p ∈ news, p.1 ∉ wr) (hst : St 0 hp)
    (hG : GrdS w mean mg mb A₀ base outer g₀ env.locals h₀ m news hp)
    (rest : RestS prog w A (notedBy (model prog w) A env fun e s' => R (.error e) s') env target body (fun f s' => R (.ok f) s') s news (GrdS w mean mg mb A₀ base outer g₀ env.locals) ps m) :
    codeAny (model prog w) A (.forLoop target (.ref I) body [] env) R { s with heap := hp, toks := tk0 } := by
  have z₀ : ∀ b ∈ fp, g₀.get? b = none := fun b hb => by
    cases q : g₀.get? b with
    | none => rfl
    | some o =>
      obtain ⟨sl, hs⟩ := hG.turn.up q
      rw [hfp b hb] at hs
      cases hs
  have zg : ∀ g, KtsTurn (outer.filterMap (·.frame)) g₀ g → ∀ b ∈ fp, g.get? b = none := fun g T b hb => T.none_ b (z₀ b hb)
  have hLw : env.locals ∉ wr := fun h => hLf (W.sub _ h)
  have next : ∀ {g m' h' h₁}, GrdS w mean mg mb A₀ base outer g₀ env.locals g m' news h' → (∀ b o, b ∉ wr → h'.get? b = some o → h₁.get? b = some o) → GrdS w mean mg mb A₀ base outer g₀ env.locals g m' news h₁ := fun {g m' h' h₁} G hk₁ =>
    ⟨G.turn, ⟨G.fr.ns.at' fun o e => hk₁ _ o hLw e, fun b o e => hk₁ b o (fun hb => by rw [zg g G.turn b (W.sub _ hb)] at e; cases e) (G.fr.keep b o e), G.fr.above⟩, fun p hp => ⟨hk₁ _ _ (hnw p hp) (G.nw p hp).1, (G.nw p hp).2⟩, G.be, G.inn, G.top, G.dic⟩
  refine codeAny_forLoop_any
    (fun k s' => ∃ g h' tk m' i, s' = { s with heap := h', toks := tk } ∧ St i h' ∧ GrdS w mean mg mb A₀ base outer g₀ env.locals g m' news h' ∧
      RestS prog w A (notedBy (model prog w) A env fun e s' => R (.error e) s') env target body (fun f s' => R (.ok f) s') s news (GrdS w mean mg mb A₀ base outer g₀ env.locals) (ps.drop i) m' ∧ i ≤ n ∧ k = n + 1 - i) ?_ (n + 1)
    ⟨h₀, hp, tk0, m, 0, rfl, hst, hG, by rw [List.drop_zero]; exact rest, Nat.zero_le _, rfl⟩
  rintro k s' ⟨g, h', tk, m', i, rfl, hst', G, hr, hi, rfl⟩
  by_cases hlt : i < n
  · refine W.item i _ _ _ hlt hst' fun v h₁ tk₁ hMd hk₁ => ?_
    refine W.go i v _ _ _ hMd fun h₂ hP₂ hst₂ hk₂ => ?_
    have G₂ := next G fun b o hb x => hk₂ b o hb (hk₁ b o hb x)
    have Nown : News g env.locals h₂ (PyProof.Rows.ownOf g fp h₂) := news_ownOf hLf
    obtain ⟨p, hp, hpv⟩ := hP i v h₂ hlt hP₂
    have hlt' : i < ps.length := hn ▸ hlt
    have hdrop : ps.drop i = p :: ps.drop (i + 1) := by
      rw [List.drop_eq_getElem_cons hlt']
      congr 1
      exact Option.some.inj ((List.getElem?_eq_getElem hlt').symm.trans hp)
    rw [hdrop] at hr
    have stf : ∀ {g' m₂ h₃}, GrdS w mean mg mb A₀ base outer g₀ env.locals g' m₂ (PyProof.Rows.ownOf g fp h₂ ++ news) h₃ → St (i + 1) h₃ := fun {g' m₂ h₃} G₃ => W.frame _ _ _ hst₂ fun b hb o e => (G₃.nw _ (List.mem_append_left _ (mem_ownOf hb (zg g G.turn b hb) e))).1
    refine wpAny_mono (hr v g h₂ tk₁ (PyProof.Rows.ownOf g fp h₂) hpv ⟨G₂.turn, G₂.fr, Nown.append G₂.nw, G₂.be, G₂.inn, G₂.top, G₂.dic⟩) (fun _ s₂ h₂' => wpAny_mono h₂' (fun f s₃ h₃ => ?_) fun _ _ e => e) fun _ _ e => e
    cases f with
    | ret v => exact h₃
    | brk => exact h₃
    | cont =>
      obtain ⟨g', m₂, h₃', tk₃, rfl, G₃, hr₃⟩ := h₃
      exact ⟨n + 1 - (i + 1), by omega, g', h₃', tk₃, m₂, i + 1, rfl, stf G₃, ⟨G₃.turn, G₃.fr, G₃.nw.right, G₃.be, G₃.inn, G₃.top, G₃.dic⟩, hr₃, hlt, rfl⟩
    | next =>
      obtain ⟨g', m₂, h₃', tk₃, rfl, G₃, hr₃⟩ := h₃
      exact ⟨n + 1 - (i + 1), by omega, g', h₃', tk₃, m₂, i + 1, rfl, stf G₃, ⟨G₃.turn, G₃.fr, G₃.nw.right, G₃.be, G₃.inn, G₃.top, G₃.dic⟩, hr₃, hlt, rfl⟩
  · have hin : i = n := by omega
    subst hin
    refine W.done _ _ _ hst' fun h₁ tk₁ hk₁ => wpAny_execs_nil ?_
    have z : ps.drop i = [] := List.drop_eq_nil_of_le (Nat.le_of_eq hn.symm)
    rw [z] at hr
    exact hr g h₁ tk₁ (next G hk₁)
theorem RestS.mono {E E' : Value → Shared → Prop} {news : List (Addr × Obj)} {G : Heap → (Str → Option Value) → List (Addr × Obj) → Heap → Prop} (hE : ∀ e s, E e s → E' e s) :
    ∀ {ps : List (Value → Prop)} {m : Str → Option Value}, RestS prog w A E env target body Q s news G ps m → RestS prog w A E' env target body Q s news G ps m
  | [], _, h => h
  | p :: ps, m, h => fun v g hh tk its hp hG => wpAny_mono (h v g hh tk its hp hG) (fun _ s₂ x => wpAny_mono x (fun f s₃ y => by
      cases f with
      | ret v => exact y
      | brk => exact y
      | next => obtain ⟨g', m', h', tk', e, G', r⟩ := y; exact ⟨g', m', h', tk', e, G', RestS.mono hE r⟩
      | cont => obtain ⟨g', m', h', tk', e, G', r⟩ := y; exact ⟨g', m', h', tk', e, G', RestS.mono hE r⟩) hE) hE
def TurnsS (prog : Program) (w : World) (mean : ExcName → Option Value) (mg mb : Str → Option Value) (A A₀ : Around) (base g₀ : Heap) (outer : List Env) (env : Env) (target : PySem.Expr) (body : List Stmt) (Q : Flow → Shared → Prop) (E : Value → Shared → Prop) (it : Value) (s₂ : Shared) : Prop :=
  ∃ (s : Shared) (hp : Heap) (tk0 : Nat) (I : Addr) (fp wr : List Addr) (n : Nat) (P Md : Nat → Value → Heap → Prop) (St : Nat → Heap → Prop) (m : Str → Option Value) (news : List (Addr × Obj)) (ps : List (Value → Prop)) (h₀ : Heap),
    s₂ = { s with heap := hp, toks := tk0 } ∧ it = .ref I ∧ KTurns prog w A target I fp wr n P Md St ∧ n = ps.length ∧ (∀ i v h, i < n → P i v h → ∃ p, ps[i]? = some p ∧ p v) ∧ env.locals ∉ fp ∧ (∀ b ∈ fp, h₀.get? b = none) ∧ (∀ p ∈ news, p.1 ∉ wr) ∧ St 0 hp ∧
    GrdS w mean mg mb A₀ base outer g₀ env.locals h₀ m news hp ∧ RestS prog w A E env target body Q s news (GrdS w mean mg mb A₀ base outer g₀ env.locals) ps m
theorem For_S {iter : PySem.Expr} {pos : Pos} {h₀ : Heap} {m : Str → Option Value} (_F : Fr h₀ env.locals s.heap m) (_B : Below A₀ base outer h₀) (_T : Top topProg LO mean mg mb h₀) (_T0 : KtsTurn (outer.filterMap (·.frame)) g₀ h₀)
    (h : wpAny (model prog w) A (eval iter env) (fun xv s₁ => wpAny (model prog w) A (pyIter xv) (fun it s₂ => TurnsS prog w mean mg mb A A₀ base g₀ outer env target body Q E it s₂) E s₁) E s)
    (hs : ∀ x, foldedSetIterable iter env x = pure x := by intro _; rfl)
    (hE : PassesOwn (model prog w) A env E := by passes_own) :
    wpAny (model prog w) A (exec (.For target iter body [] pos) env) Q E s := by
  refine wpAny_For (wpAny_mono h (fun xv s₁ h₁ => wpAny_mono h₁ (fun it s₂ h₂ => ?_) fun _ _ e => e) fun _ _ e => e) hs
  obtain ⟨s₀, hp, tk0, I, fp, wr, n, P, Md, St, m, news, ps, h₀, rfl, rfl, W, hn, hP, hLf, hfp, hnw, hst, hG, rest⟩ := h₂
  exact loop_S (R := fun r s' => match r with | .ok f => Q f s' | .error e => cameBackBy (model prog w) A env E e s') W hn hP hLf hfp hnw hst hG (RestS.mono hE rest)
theorem iter_listS {ax : Addr} {lo : Obj} {vs : List Value} {n : Nat} {m : Str → Option Value} {news : List (Addr × Obj)} (hh : A.handled = none)
    (F : Fr h₀ env.locals s.heap m) (X : (Mine.hd.heap_39 w.params).In h₀) (N : News h₀ env.locals s.heap news) (B : Below A₀ base outer h₀) (T : Top topProg LO mean mg mb h₀) (D : KtsDicts (outer.filterMap (·.frame)) h₀) (T0 : KtsTurn (outer.filterMap (·.frame)) g₀ h₀)
    (hm : (ax, lo) ∈ news) (hc : lo.cls = .type "list") (hd : lo.data = .seq vs.toArray n)
    (rest : RestS prog w A E env target body Q s news (GrdS w mean mg mb A₀ base outer g₀ env.locals) (vs.map fun v u => u = v) m) :
    wpAny (model prog w) A (pyIter (.ref ax)) (fun it s₂ => TurnsS prog w mean mg mb A A₀ base g₀ outer env target body Q E it s₂) E s := by
  have hax := N _ hm
  have hl : s.heap.IsList ax vs.toArray := ⟨lo, hax.1, hc, n, hd⟩
  have hne : ax ≠ s.heap.objs.size := Nat.ne_of_lt (Heap.lt_size hax.1)
  refine wpAny_pyIter_list hl ?_
  refine ⟨s, _, s.toks, s.heap.objs.size, _, _, _, _, _, _, m, news, _, h₀, rfl, rfl, KTurns.ofWalks (Walks.list hh s.heap.objs.size ax hne vs.toArray) fun i v s Q E st q => letGo_listiter st.1 q, by simp, fun i v h hi hp => ?_, ?_, fun b hb => ?_, fun p hp hI => ?_, ?_,
    ⟨T0, F.push _, fun p hp => ⟨Heap.get?_push_of_some _ (N p hp).1, (N p hp).2⟩, B, X, T, D⟩, rest⟩
  · have hp' : vs.toArray[i]? = some v := hp
    exact ⟨fun u => u = v, by rw [List.getElem?_map]; rw [show vs[i]? = some v by simpa using hp']; rfl, rfl⟩
  · intro hI
    rcases List.mem_cons.mp hI with e | hI
    · exact absurd F.ns.lt (e ▸ Nat.lt_irrefl _)
    · exact hax.2.1 (List.mem_singleton.mp hI).symm
  · have hb' : b = s.heap.objs.size ∨ b = ax := by simpa using hb
    rcases hb' with e | e
    · rw [e]; exact next_is_new F
    · rw [e]; exact hax.2.2
  · exact absurd (Heap.lt_size (N p hp).1) ((List.mem_singleton.mp hI) ▸ Nat.lt_irrefl _)
  · exact ⟨⟨_, Heap.get?_push_size _ rfl, rfl, rfl⟩, hl.at fun o e => Heap.get?_push_of_some _ e⟩
theorem iter_rangeS {r : Addr} {k : Nat} {t u v : Tok} {m : Str → Option Value} {news : List (Addr × Obj)} {x : Str} {px : Pos} (ht : target = .Name x px) (hh : A.handled = none) (hsm : Builtin.Range.small 0 (k : Int) 1 = true) (hsz : Builtin.Range.rangeSize 0 (k : Int) 1 = k)
    (F : Fr h₀ env.locals s.heap m) (X : (Mine.hd.heap_39 w.params).In h₀) (N : News h₀ env.locals s.heap news) (B : Below A₀ base outer h₀) (T : Top topProg LO mean mg mb h₀) (D : KtsDicts (outer.filterMap (·.frame)) h₀) (T0 : KtsTurn (outer.filterMap (·.frame)) g₀ h₀)
    (hr : IsRange s.heap r 0 (k : Int) 1 t u v)
    (rest : RestS prog w A E env target body Q s news (GrdS w mean mg mb A₀ base outer g₀ env.locals) ((List.range k).map fun (i : Nat) (u : Value) => ∃ t, u = .int (i : Int) t) m) :
    wpAny (model prog w) A (pyIter (.ref r)) (fun it s₂ => TurnsS prog w mean mg mb A A₀ base g₀ outer env target body Q E it s₂) E s := by
  subst ht
  refine wpAny_pyIter_range hr hsm ?_
  refine ⟨s, _, s.toks, s.heap.objs.size, _, _, _, _, _, _, m, news, _, h₀, rfl, rfl, KTurns.ofWalks (Walks.range hh s.heap.objs.size 0 1 k) fun i v s Q E st q => ?_, by simp, fun i v h hi hp => ?_, ?_, fun b hb => ?_, fun p hp hI => ?_, ?_,
    ⟨T0, F.push _, fun p hp => ⟨Heap.get?_push_of_some _ (N p hp).1, (N p hp).2⟩, B, X, T, D⟩, rest⟩
  · exact wpAny_pure q
  · obtain ⟨t, rfl⟩ := hp
    refine ⟨fun u => ∃ t, u = .int (i : Int) t, ?_, t, by simp⟩
    rw [List.getElem?_map, List.getElem?_range hi]
    rfl
  · intro hI
    rcases List.mem_cons.mp hI with e | hI
    · exact absurd F.ns.lt (e ▸ Nat.lt_irrefl _)
    · cases hI
  · have hb' : b = s.heap.objs.size := by simpa using hb
    rw [hb']; exact next_is_new F
  · exact absurd (Heap.lt_size (N p hp).1) ((List.mem_singleton.mp hI) ▸ Nat.lt_irrefl _)
  · show IsRangeIter _ _ _ _ _
    rw [hsz]
    simpa using Heap.get?_push_size _ rfl
end
theorem News.subl {h₀ h : Heap} {L : Addr} {news news' : List (Addr × Obj)} (N : News h₀ L h news') (hs : ∀ p ∈ news, p ∈ news') : News h₀ L h news := fun p hp => N p (hs p hp)
end Mine
local macro_rules | `(tactic| walk_at "exec For Name List cons nil") => `(tactic| (k_here; (with_reducible rename KtsDicts _ _ => kdX); k_dflt ((with_unfolding_all refine' For_S ?F ?B ?T ?T0 ?_); (case F => k_asm); (case B => assumption); (case T => assumption); (case T0 => first | assumption | exact KtsTurn.refl); k_whole)))
namespace Mine
open PySem PySem.W PyProof.Rows PySem.Calls PySem.Spec
set_option maxHeartbeats 1000000
local macro_rules | `(tactic| walk_at "exec For Name List cons nil") => `(tactic| (k_here; (with_reducible rename KtsDicts _ _ => kdX); k_dflt ((with_unfolding_all refine' For_S ?F ?B ?T ?T0 ?_); (case F => k_asm); (case B => assumption); (case T => assumption); (case T0 => first | assumption | exact KtsTurn.refl); k_whole)))
end Mine
local macro_rules | `(tactic| walk_at "exec For Name Call cons nil") => `(tactic| (k_here; (with_reducible rename KtsDicts _ _ => kdX); k_dflt ((with_unfolding_all refine' For_S ?F ?B ?T ?T0 ?_); (case F => k_asm); (case B => assumption); (case T => assumption); (case T0 => first | assumption | exact KtsTurn.refl); k_whole)))
namespace Mine
open PySem PySem.W PyProof.Rows PySem.Calls PySem.Spec
set_option maxHeartbeats 1000000
local macro_rules | `(tactic| walk_at "exec For Name List cons nil") => `(tactic| (k_here; (with_reducible rename KtsDicts _ _ => kdX); k_dflt ((with_unfolding_all refine' For_S ?F ?B ?T ?T0 ?_); (case F => k_asm); (case B => assumption); (case T => assumption); (case T0 => first | assumption | exact KtsTurn.refl); k_whole)))
local macro_rules | `(tactic| walk_at "exec For Name Call cons nil") => `(tactic| (k_here; (with_reducible rename KtsDicts _ _ => kdX); k_dflt ((with_unfolding_all refine' For_S ?F ?B ?T ?T0 ?_); (case F => k_asm); (case B => assumption); (case T => assumption); (case T0 => first | assumption | exact KtsTurn.refl); k_whole)))
end Mine
local macro_rules | `(tactic| walk_at "pyIter ref") => `(tactic| (k_here; (with_reducible show wpAny _ _ (pyIter (Value.ref _)) (fun it s₂ => TurnsS _ _ _ _ _ _ _ _ _ _ _ _ _ _ _ it s₂) _ _); k_dflt (first
  | (refine' iter_rangeS ?tt ?h ?sm ?sz ?F ?X ?N ?B ?T ?D ?T0 ?hr ?_; (case hr => assumption); (case tt => exact rfl); (case h => with_unfolding_all rfl); (case sm => decide +kernel); (case sz => decide +kernel); (case F => k_asm); (case X => assumption); (case N => k_asm); (case B => assumption); (case T => assumption); (case D => assumption); (case T0 => first | assumption | exact KtsTurn.refl); (try dsimp only [List.map, List.range, List.range.loop]))
  | (refine' iter_listS ?h ?F ?X ?N ?B ?T ?D ?T0 ?hm ?hc ?hd ?_; (case h => with_unfolding_all rfl); (case F => k_asm); (case X => assumption); (case N => k_asm); (case B => assumption); (case T => assumption); (case D => assumption); (case T0 => first | assumption | exact KtsTurn.refl); (case hm => k_mem); (case hc => exact rfl); (case hd => exact rfl); (try dsimp only [List.map])))))
namespace Mine
open PySem PySem.W PyProof.Rows PySem.Calls PySem.Spec
set_option maxHeartbeats 1000000
local macro_rules | `(tactic| walk_at "exec For Name List cons nil") => `(tactic| (k_here; (with_reducible rename KtsDicts _ _ => kdX); k_dflt ((with_unfolding_all refine' For_S ?F ?B ?T ?T0 ?_); (case F => k_asm); (case B => assumption); (case T => assumption); (case T0 => first | assumption | exact KtsTurn.refl); k_whole)))
local macro_rules | `(tactic| walk_at "exec For Name Call cons nil") => `(tactic| (k_here; (with_reducible rename KtsDicts _ _ => kdX); k_dflt ((with_unfolding_all refine' For_S ?F ?B ?T ?T0 ?_); (case F => k_asm); (case B => assumption); (case T => assumption); (case T0 => first | assumption | exact KtsTurn.refl); k_whole)))
local macro_rules | `(tactic| walk_at "pyIter ref") => `(tactic| (k_here; (with_reducible show wpAny _ _ (pyIter (Value.ref _)) (fun it s₂ => TurnsS _ _ _ _ _ _ _ _ _ _ _ _ _ _ _ it s₂) _ _); k_dflt (first
  | (refine' iter_rangeS ?tt ?h ?sm ?sz ?F ?X ?N ?B ?T ?D ?T0 ?hr ?_; (case hr => assumption); (case tt => exact rfl); (case h => with_unfolding_all rfl); (case sm => decide +kernel); (case sz => decide +kernel); (case F => k_asm); (case X => assumption); (case N => k_asm); (case B => assumption); (case T => assumption); (case D => assumption); (case T0 => first | assumption | exact KtsTurn.refl); (try dsimp only [List.map, List.range, List.range.loop]))
  | (refine' iter_listS ?h ?F ?X ?N ?B ?T ?D ?T0 ?hm ?hc ?hd ?_; (case h => with_unfolding_all rfl); (case F => k_asm); (case X => assumption); (case N => k_asm); (case B => assumption); (case T => assumption); (case D => assumption); (case T0 => first | assumption | exact KtsTurn.refl); (case hm => k_mem); (case hc => exact rfl); (case hd => exact rfl); (try dsimp only [List.map])))))
def Mark : Prop := True
theorem endS {w : World} {mean : ExcName → Option Value} {mg mb : Str → Option Value} {A₀ : Around} {base g₀ : Heap} {outer : List Env} {L : Addr} {g : Heap} {m : Str → Option Value} {led news : List (Addr × Obj)} {s s₃ : Shared} {R : (Str → Option Value) → Prop} {h : Heap} {tk : Nat}
  (e : s₃ = { s with heap := h, toks := tk }) (T : KtsTurn (outer.filterMap (·.frame)) g₀ g) (F : Fr g L h m) (N : News g L h news) (B : Below A₀ base outer g) (X : (Mine.hd.heap_39 w.params).In g) (P : Top topProg LO mean mg mb g) (D : KtsDicts (outer.filterMap (·.frame)) g)
  (hs : ∀ p ∈ led, p ∈ news) (r : R m) : EndS s led (GrdS w mean mg mb A₀ base outer g₀ L) R s₃ := ⟨g, m, h, tk, e, ⟨T, F, Mine.News.subl N hs, B, X, P, D⟩, r⟩
end Mine
local macro_rules | `(tactic| walk_at "EndS") => `(tactic| (k_dflt (refine' endS ?e ?T ?F ?N ?B ?X ?P ?D ?hs ?_; (case e => exact rfl); (case F => k_asm); (case N => k_asm); (case B => assumption); (case X => assumption); (case P => assumption); (case D => assumption); (case T => first | assumption | exact KtsTurn.refl); (case hs => (intro p hp; (repeat first | (with_reducible exact hp) | (with_reducible refine List.mem_cons_of_mem _ ?_) | (with_reducible refine List.mem_append_right _ ?_)))); (try dsimp only))))
namespace Mine
open PySem PySem.W PyProof.Rows PySem.Calls PySem.Spec
set_option maxHeartbeats 1000000
local macro_rules | `(tactic| walk_at "exec For Name List cons nil") => `(tactic| (k_here; (with_reducible rename KtsDicts _ _ => kdX); k_dflt ((with_unfolding_all refine' For_S ?F ?B ?T ?T0 ?_); (case F => k_asm); (case B => assumption); (case T => assumption); (case T0 => first | assumption | exact KtsTurn.refl); k_whole)))
local macro_rules | `(tactic| walk_at "exec For Name Call cons nil") => `(tactic| (k_here; (with_reducible rename KtsDicts _ _ => kdX); k_dflt ((with_unfolding_all refine' For_S ?F ?B ?T ?T0 ?_); (case F => k_asm); (case B => assumption); (case T => assumption); (case T0 => first | assumption | exact KtsTurn.refl); k_whole)))
local macro_rules | `(tactic| walk_at "pyIter ref") => `(tactic| (k_here; (with_reducible show wpAny _ _ (pyIter (Value.ref _)) (fun it s₂ => TurnsS _ _ _ _ _ _ _ _ _ _ _ _ _ _ _ it s₂) _ _); k_dflt (first
  | (refine' iter_rangeS ?tt ?h ?sm ?sz ?F ?X ?N ?B ?T ?D ?T0 ?hr ?_; (case hr => assumption); (case tt => exact rfl); (case h => with_unfolding_all rfl); (case sm => decide +kernel); (case sz => decide +kernel); (case F => k_asm); (case X => assumption); (case N => k_asm); (case B => assumption); (case T => assumption); (case D => assumption); (case T0 => first | assumption | exact KtsTurn.refl); (try dsimp only [List.map, List.range, List.range.loop]))
  | (refine' iter_listS ?h ?F ?X ?N ?B ?T ?D ?T0 ?hm ?hc ?hd ?_; (case h => with_unfolding_all rfl); (case F => k_asm); (case X => assumption); (case N => k_asm); (case B => assumption); (case T => assumption); (case D => assumption); (case T0 => first | assumption | exact KtsTurn.refl); (case hm => k_mem); (case hc => exact rfl); (case hd => exact rfl); (try dsimp only [List.map])))))
local macro_rules | `(tactic| walk_at "EndS") => `(tactic| (k_dflt (refine' endS ?e ?T ?F ?N ?B ?X ?P ?D ?hs ?_; (case e => exact rfl); (case F => k_asm); (case N => k_asm); (case B => assumption); (case X => assumption); (case P => assumption); (case D => assumption); (case T => first | assumption | exact KtsTurn.refl); (case hs => (intro p hp; (repeat first | (with_reducible exact hp) | (with_reducible refine List.mem_cons_of_mem _ ?_) | (with_reducible refine List.mem_append_right _ ?_)))); (try dsimp only))))
end Mine
local macro_rules | `(tactic| walk_at "RestS") => `(tactic| ((with_reducible rename Mark => mkX); first
  | ((with_reducible show RestS _ _ _ _ _ _ _ _ _ _ _ [] _); intro gq hq tkq Gq; obtain ⟨Tq, Fq, Nq, Bq, Xq, Pq, Dq⟩ := Gq; (try k_lift Bq))
  | (intro vq gq hq tkq its hvq Gq; obtain ⟨Tq, Fq, Nq, Bq, Xq, Pq, Dq⟩ := Gq; (first | subst hvq | (obtain ⟨tq0, hvq⟩ := hvq; subst hvq)); (try k_lift Bq))))
namespace Mine
open PySem PySem.W PyProof.Rows PySem.Calls PySem.Spec
set_option maxHeartbeats 1000000
local macro_rules | `(tactic| walk_at "exec For Name List cons nil") => `(tactic| (k_here; (with_reducible rename KtsDicts _ _ => kdX); k_dflt ((with_unfolding_all refine' For_S ?F ?B ?T ?T0 ?_); (case F => k_asm); (case B => assumption); (case T => assumption); (case T0 => first | assumption | exact KtsTurn.refl); k_whole)))
local macro_rules | `(tactic| walk_at "exec For Name Call cons nil") => `(tactic| (k_here; (with_reducible rename KtsDicts _ _ => kdX); k_dflt ((with_unfolding_all refine' For_S ?F ?B ?T ?T0 ?_); (case F => k_asm); (case B => assumption); (case T => assumption); (case T0 => first | assumption | exact KtsTurn.refl); k_whole)))
local macro_rules | `(tactic| walk_at "pyIter ref") => `(tactic| (k_here; (with_reducible show wpAny _ _ (pyIter (Value.ref _)) (fun it s₂ => TurnsS _ _ _ _ _ _ _ _ _ _ _ _ _ _ _ it s₂) _ _); k_dflt (first
  | (refine' iter_rangeS ?tt ?h ?sm ?sz ?F ?X ?N ?B ?T ?D ?T0 ?hr ?_; (case hr => assumption); (case tt => exact rfl); (case h => with_unfolding_all rfl); (case sm => decide +kernel); (case sz => decide +kernel); (case F => k_asm); (case X => assumption); (case N => k_asm); (case B => assumption); (case T => assumption); (case D => assumption); (case T0 => first | assumption | exact KtsTurn.refl); (try dsimp only [List.map, List.range, List.range.loop]))
  | (refine' iter_listS ?h ?F ?X ?N ?B ?T ?D ?T0 ?hm ?hc ?hd ?_; (case h => with_unfolding_all rfl); (case F => k_asm); (case X => assumption); (case N => k_asm); (case B => assumption); (case T => assumption); (case D => assumption); (case T0 => first | assumption | exact KtsTurn.refl); (case hm => k_mem); (case hc => exact rfl); (case hd => exact rfl); (try dsimp only [List.map])))))
local macro_rules | `(tactic| walk_at "EndS") => `(tactic| (k_dflt (refine' endS ?e ?T ?F ?N ?B ?X ?P ?D ?hs ?_; (case e => exact rfl); (case F => k_asm); (case N => k_asm); (case B => assumption); (case X => assumption); (case P => assumption); (case D => assumption); (case T => first | assumption | exact KtsTurn.refl); (case hs => (intro p hp; (repeat first | (with_reducible exact hp) | (with_reducible refine List.mem_cons_of_mem _ ?_) | (with_reducible refine List.mem_append_right _ ?_)))); (try dsimp only))))
local macro_rules | `(tactic| walk_at "RestS") => `(tactic| ((with_reducible rename Mark => mkX); first
  | ((with_reducible show RestS _ _ _ _ _ _ _ _ _ _ _ [] _); intro gq hq tkq Gq; obtain ⟨Tq, Fq, Nq, Bq, Xq, Pq, Dq⟩ := Gq; (try k_lift Bq))
  | (intro vq gq hq tkq its hvq Gq; obtain ⟨Tq, Fq, Nq, Bq, Xq, Pq, Dq⟩ := Gq; (first | subst hvq | (obtain ⟨tq0, hvq⟩ := hvq; subst hvq)); (try k_lift Bq))))
end Mine
namespace Mine
open PySem PySem.W PyProof.Rows PySem.Calls
set_option maxHeartbeats 1000000
section
variable {prog : Program} {w : World} {A : Around} {E : Value → Shared → Prop} {s : Shared} {K : Frag} {h₀ : Heap} {L x y f self : Addr} {m : Str → Option Value} {ox oy of os : Obj} {news : List (Addr × Obj)}
theorem ne_fnK0 (F : Fr h₀ L s.heap m) (X : K.In h₀) (lx : K.lookup x = some ox) (cx : ox.cls = .type "function") (hu : A.units + 1 < cLine) {Q : Value → Shared → Prop} (hq : Q (.bool false) s) :
    wpAny (model prog w) A (compareOp .NotEq (.ref x) (.ref x)) Q E s := by
  obtain ⟨h, g, d, t, os⟩ := s
  exact ne_fn_same (F.keep _ _ (X _ _ lx)) cx hu hq
theorem ne_methK (F : Fr h₀ L s.heap m) (X : K.In h₀) (N : News h₀ L s.heap news) (hx : (x, methodObj (.ref f) (.ref self)) ∈ news) (hy : (y, methodObj (.ref f) (.ref self)) ∈ news) (lf : K.lookup f = some of) (hs : (self, os) ∈ news) (hu : A.units < cLine) {Q : Value → Shared → Prop} (hq : Q (.bool false) s) :
    wpAny (model prog w) A (compareOp .NotEq (.ref x) (.ref y)) Q E s := by
  obtain ⟨h, g, d, t, o⟩ := s
  exact ne_meth (N _ hx).1 (N _ hy).1 (F.keep _ _ (X _ _ lf)) (N _ hs).1 hu hq
end
end Mine
local macro_rules | `(tactic| walk_at "compareOp NotEq ref ref") => `(tactic| (k_here; k_dflt (first
  | (refine' Mine.ne_fnK0 ?F ?X ?lx ?cx ?hu ?_; (case F => k_asm); (case X => assumption); (case lx => first | assumption | k_is); (case cx => first | assumption | exact rfl); (case hu => k_units); k_whole)
  | (refine' Mine.ne_methK ?F ?X ?N ?hx ?hy ?lf ?hs ?hu ?_; (case F => k_asm); (case X => assumption); (case N => k_asm); (case hx => k_mem); (case hy => k_mem); (case lf => k_is); (case hs => k_mem); (case hu => k_units); k_whole))))
namespace Mine
open PySem PySem.W PyProof.Rows PySem.Calls
set_option maxHeartbeats 1000000
local macro_rules | `(tactic| walk_at "compareOp NotEq ref ref") => `(tactic| (k_here; k_dflt (first
  | (refine' Mine.ne_fnK0 ?F ?X ?lx ?cx ?hu ?_; (case F => k_asm); (case X => assumption); (case lx => first | assumption | k_is); (case cx => first | assumption | exact rfl); (case hu => k_units); k_whole)
  | (refine' Mine.ne_methK ?F ?X ?N ?hx ?hy ?lf ?hs ?hu ?_; (case F => k_asm); (case X => assumption); (case N => k_asm); (case hx => k_mem); (case hy => k_mem); (case lf => k_is); (case hs => k_mem); (case hu => k_units); k_whole))))
theorem tup3_eqK {prog : Program} {w : World} {A : Around} {E : Value → Shared → Prop} {s : Shared} {h₀ : Heap} {L x y : Addr} {m : Str → Option Value} {news : List (Addr × Obj)} {a b : Value} {z : Str} {t t' : Nat} {n n' : Nat} (F : Fr h₀ L s.heap m) (N : News h₀ L s.heap news)
    (hx : (x, ({ cls := .type "tuple", data := .seq #[a, b, .str z t] n } : Obj)) ∈ news) (hy : (y, ({ cls := .type "tuple", data := .seq #[a, b, .str z t'] n' } : Obj)) ∈ news) (hu : A.units < cLine) {Q : Value → Shared → Prop} (hq : Q (.bool true) s) :
    wpAny (model prog w) A (compareOp .Eq (.ref x) (.ref y)) Q E s := by
  refine SeqAt.eq_tupleAt (e := fun _ => true) ⟨_, (N _ hx).1, rfl, n, rfl⟩ ⟨_, (N _ hy).1, rfl, n', rfl⟩ hu (fun j h1 h2 => ?_) hq
  match j, h1, h2 with
  | 0, _, _ => exact SeqAt.EqAt.same _
  | 1, _, _ => exact SeqAt.EqAt.same _
  | 2, _, _ =>
    have := SeqAt.EqAt.str_str (A := A.in1) (s := s) z t z t'
    rw [beq_self_eq_true] at this
    exact this
end Mine
local macro_rules | `(tactic| walk_at "compareOp Eq ref ref") => `(tactic| (k_here; k_dflt (refine' Mine.tup3_eqK ?F ?N ?hx ?hy ?hu ?_; (case F => k_asm); (case N => k_asm); (case hx => k_mem); (case hy => k_mem); (case hu => k_units); k_whole)))
namespace Mine
open PySem PySem.W PyProof.Rows PySem.Calls
set_option maxHeartbeats 1000000
local macro_rules | `(tactic| walk_at "compareOp NotEq ref ref") => `(tactic| (k_here; k_dflt (first
  | (refine' Mine.ne_fnK0 ?F ?X ?lx ?cx ?hu ?_; (case F => k_asm); (case X => assumption); (case lx => first | assumption | k_is); (case cx => first | assumption | exact rfl); (case hu => k_units); k_whole)
  | (refine' Mine.ne_methK ?F ?X ?N ?hx ?hy ?lf ?hs ?hu ?_; (case F => k_asm); (case X => assumption); (case N => k_asm); (case hx => k_mem); (case hy => k_mem); (case lf => k_is); (case hs => k_mem); (case hu => k_units); k_whole))))
local macro_rules | `(tactic| walk_at "compareOp Eq ref ref") => `(tactic| (k_here; k_dflt (refine' Mine.tup3_eqK ?F ?N ?hx ?hy ?hu ?_; (case F => k_asm); (case N => k_asm); (case hx => k_mem); (case hy => k_mem); (case hu => k_units); k_whole)))
end Mine
local macro_rules | `(tactic| walk_at "callWith ref") => `(tactic| (k_here; k_dflt (refine' callWith_K ?k1 ?k2 ?_; (case k1 => k_asm); (case k2 => k_is); k_whole)))
namespace Mine
open PySem PySem.W PyProof.Rows PySem.Calls
set_option maxHeartbeats 1000000
local macro_rules | `(tactic| walk_at "compareOp NotEq ref ref") => `(tactic| (k_here; k_dflt (first
  | (refine' Mine.ne_fnK0 ?F ?X ?lx ?cx ?hu ?_; (case F => k_asm); (case X => assumption); (case lx => first | assumption | k_is); (case cx => first | assumption | exact rfl); (case hu => k_units); k_whole)
  | (refine' Mine.ne_methK ?F ?X ?N ?hx ?hy ?lf ?hs ?hu ?_; (case F => k_asm); (case X => assumption); (case N => k_asm); (case hx => k_mem); (case hy => k_mem); (case lf => k_is); (case hs => k_mem); (case hu => k_units); k_whole))))
local macro_rules | `(tactic| walk_at "compareOp Eq ref ref") => `(tactic| (k_here; k_dflt (refine' Mine.tup3_eqK ?F ?N ?hx ?hy ?hu ?_; (case F => k_asm); (case N => k_asm); (case hx => k_mem); (case hy => k_mem); (case hu => k_units); k_whole)))
local macro_rules | `(tactic| walk_at "callWith ref") => `(tactic| (k_here; k_dflt (refine' callWith_K ?k1 ?k2 ?_; (case k1 => k_asm); (case k2 => k_is); k_whole)))
theorem Tell.mono {w : World} {mean : ExcName → Option Value} {mg mb : Str → Option Value} {d : Nat} {f : Value} {pos : List Value} {kw : List (Str × Value)} {nd nd' : List (Addr × Obj)} {Ret : Value → List (Addr × Obj) → Prop} (C : Tell w mean mg mb d f pos kw nd Ret) (h : ∀ p ∈ nd, p ∈ nd') : Tell w mean mg mb d f pos kw nd' Ret := by
  intro dp un gd cn cs a ccd cl outer A₀ base h₀ L m news s R B F X N T hk hdp hun hn hret
  exact C dp un gd cn cs a ccd cl outer A₀ base h₀ L m news s R B F X N T hk hdp hun (fun p hp => hn p (h p hp)) hret
theorem FallN.mono {w : World} {mean : ExcName → Option Value} {mg mb : Str → Option Value} {d : Nat} {f : Value} {pos : List Value} {kw : List (Str × Value)} {nd nd' : List (Addr × Obj)} {cls : Value} (C : FallN w mean mg mb d f pos kw nd cls) (h : ∀ p ∈ nd, p ∈ nd') : FallN w mean mg mb d f pos kw nd' cls := by
  intro dp un gd cn cs a ccd outer A₀ base h₀ L m news s R B F X N T hk hdp hun hn hret
  exact C dp un gd cn cs a ccd outer A₀ base h₀ L m news s R B F X N T hk hdp hun (fun p hp => hn p (h p hp)) hret
theorem FallD.mono {w : World} {mean : ExcName → Option Value} {mg mb : Str → Option Value} {d : Nat} {f : Value} {pos : List Value} {kw : List (Str × Value)} {nd nd' : List (Addr × Obj)} {v : Value} (C : FallD w mean mg mb d f pos kw nd v) (h : ∀ p ∈ nd, p ∈ nd') : FallD w mean mg mb d f pos kw nd' v := by
  intro dp un gd cn cs a ccd outer A₀ base h₀ L m news s R B F X N T hk hdp hun hn hret
  exact C dp un gd cn cs a ccd outer A₀ base h₀ L m news s R B F X N T hk hdp hun (fun p hp => hn p (h p hp)) hret
theorem TellS.up {w : World} {mean : ExcName → Option Value} {mg mb : Str → Option Value} {d d' : Nat} {f : Value} {pos : List Value} {kw : List (Str × Value)} {nd : List (Addr × Obj)} {Ret : Value → List (Addr × Obj) → Prop} (C : TellS w mean mg mb d f pos kw nd Ret) (h : d ≤ d') : TellS w mean mg mb d' f pos kw nd Ret := by
  intro dp un gd cn cs a ccd outer A₀ base h₀ g₀ L m news s R B F X N T XB TB D T0 hk hdp hun hn hret
  exact C dp un gd cn cs a ccd outer A₀ base h₀ g₀ L m news s R B F X N T XB TB D T0 hk (by omega) (by omega) hn hret
section
variable {w : World} {mean : ExcName → Option Value} {mg mb : Str → Option Value} {Λ nd : List (Addr × Obj)} {h₀ h : Heap} {L at_ adx cv : Addr} {i1 i2 i3 i4 i5 i6 i7 : Int} {t1 t2 t3 t4 t5 t6 t7 tq : Nat} {k : Str} {v1 v2 kd v4 v5 al : Value} {r : Addr} {cdx ms mu to : Addr} {w1 w2 w3 w4 w5 w6 w7 : Option Value}
end
theorem RestS.indG {α : Type} (val : α → Value → Prop) {prog : Program} {w : World} {A : Around} {E : Value → Shared → Prop} {env : Env} {target : PySem.Expr} {body : List Stmt} {Q : Flow → Shared → Prop} {s : Shared} {news : List (Addr × Obj)} {G : Heap → (Str → Option Value) → List (Addr × Obj) → Heap → Prop} (keep : List Str) {m₀ : Str → Option Value}
  (turn : ∀ (a : α) (v : Value), val a v → ∀ m g h tk its (Rq : (Str → Option Value) → Prop), (∀ x ∈ keep, m x = m₀ x) → (∀ m', (∀ x ∈ keep, m' x = m₀ x) → Rq m') → G g m (its ++ news) h →
    wpAny (model prog w) A (assign target env v) (fun _ s₂ => wpAny (model prog w) A (execs body env) (fun f s₃ => match f with
        | .next => EndS s (its ++ news) G Rq s₃
        | .cont => EndS s (its ++ news) G Rq s₃
        | .brk => Q .next s₃
        | .ret v => Q (.ret v) s₃) E s₂) E { s with heap := h, toks := tk })
  (fin : ∀ m g h tk, (∀ x ∈ keep, m x = m₀ x) → G g m news h → Q .next { s with heap := h, toks := tk }) :
  ∀ (ps : List (Value → Prop)), (∀ p ∈ ps, ∃ a : α, ∀ v, p v → val a v) → ∀ m, (∀ x ∈ keep, m x = m₀ x) → RestS prog w A E env target body Q s news G ps m
  | [], _, m, hm => fun g h tk hG => fin m g h tk hm hG
  | p :: ps, hp, m, hm => fun v g h tk its hv hG => by
    obtain ⟨i, hi⟩ := hp p (.head _)
    exact turn i v (hi v hv) m g h tk its _ hm (fun m' hm' => RestS.indG val keep turn fin ps (fun q hq => hp q (.tail _ hq)) m' hm') hG
end Mine
namespace Mine
open PySem PySem.W PyProof.Rows PySem.Calls
set_option maxHeartbeats 4000000
/-- found and due are never unequal -/
def CmpAll (w : World) (nd : List (Addr × Obj)) (RF RD : Bool → Value → List (Addr × Obj) → Prop) : Prop :=
  ∀ b v tl v' tl', RF b v tl → RD b v' tl' → ∀ {A : Around} {E : Value → Shared → Prop} {Q : Value → Shared → Prop} {s : Shared} {h₀ : Heap} {L : Addr} {m : Str → Option Value} {news : List (Addr × Obj)},
    Fr h₀ L s.heap m → (Mine.hd.heap_39 w.params).In h₀ → News h₀ L s.heap news → (∀ p ∈ tl, p ∈ news) → (∀ p ∈ tl', p ∈ news) → (∀ p ∈ nd, p ∈ news) → A.units + 1 < cLine → Q (.bool false) s → wpAny (model PySem.Challenge.rw_fq0010_01.row.prog w) A (compareOp .NotEq v v') Q E s
theorem CmpAll.use {w : World} {nd : List (Addr × Obj)} {RF RD : Bool → Value → List (Addr × Obj) → Prop} (H : CmpAll w nd RF RD) {b : Bool} {v v' : Value} {tl tl' : List (Addr × Obj)} {A : Around} {E : Value → Shared → Prop} {Q : Value → Shared → Prop} {s : Shared} {h₀ : Heap} {L : Addr} {m : Str → Option Value} {news : List (Addr × Obj)}
  (r1 : RF b v tl) (r2 : RD b v' tl') (F : Fr h₀ L s.heap m) (X : (Mine.hd.heap_39 w.params).In h₀) (N : News h₀ L s.heap news) (h1 : ∀ p ∈ tl, p ∈ news) (h2 : ∀ p ∈ tl', p ∈ news) (h3 : ∀ p ∈ nd, p ∈ news) (hu : A.units + 1 < cLine) (hq : Q (.bool false) s) :
  wpAny (model PySem.Challenge.rw_fq0010_01.row.prog w) A (compareOp .NotEq v v') Q E s := H b v tl v' tl' r1 r2 F X N h1 h2 h3 hu hq
/-- what find_structure_handler is known to do for attributes like this one -/
def FindAll (w : World) (mean : ExcName → Option Value) (mg mb : Str → Option Value) (nd : List (Addr × Obj)) (cv : Addr) (kv cvt : Value) (P : (Addr → List (Addr × Obj) → Prop)) : Prop :=
  ∀ (at_ adx : Addr) (i1 i2 i3 i4 i5 i6 i7 : Int) (t1 t2 t3 t4 t5 t6 t7 : Nat) (v1 v2 v4 v5 al : Value) (Λ : List (Addr × Obj)), (at_, atObj adx) ∈ Λ → (adx, atDict i1 i2 i3 i4 i5 i6 i7 t1 t2 t3 t4 t5 t6 t7 v1 v2 kv v4 v5 al cvt) ∈ Λ → (∀ p ∈ nd, p ∈ Λ) → P at_ Λ
theorem FindAll.use {w : World} {mean : ExcName → Option Value} {mg mb : Str → Option Value} {nd : List (Addr × Obj)} {cv : Addr} {kv cvt : Value} {P : (Addr → List (Addr × Obj) → Prop)} (H : FindAll w mean mg mb nd cv kv cvt P) {h₀ h : Heap} {L at_ adx : Addr} {i1 i2 i3 i4 i5 i6 i7 : Int} {t1 t2 t3 t4 t5 t6 t7 : Nat} {v1 v2 v4 v5 al : Value} {Λ : List (Addr × Obj)} (_N : News h₀ L h Λ)
  (ha : (at_, atObj adx) ∈ Λ) (hadx : (adx, atDict i1 i2 i3 i4 i5 i6 i7 t1 t2 t3 t4 t5 t6 t7 v1 v2 kv v4 v5 al cvt) ∈ Λ) (hnd : ∀ p ∈ nd, p ∈ Λ) : P at_ Λ := H _ _ _ _ _ _ _ _ _ _ _ _ _ _ _ _ _ _ _ _ _ _ ha hadx hnd
def StrAll (RF : Bool → Value → List (Addr × Obj) → Prop) : Prop := ∀ j, RF false (.str "refused" j) []
theorem StrAll.use {RF : Bool → Value → List (Addr × Obj) → Prop} {j : Nat} (H : StrAll RF) : RF false (.str "refused" j) [] := H j
abbrev cvtOf (own : Bool) : Value := if own = true then .ref 502 else .none
def Stop (p : Prop) : Prop := p
def MkIf : Prop := True
theorem join_val {M : Model} {A : Around} {E : Value → Shared → Prop} {t : Sem Value} {Q : Value → Shared → Prop} {s : Shared} (v : Value) (k : ∀ Q' : Value → Shared → Prop, Q' v s → wpAny M A t Q' E s) (h : Q v s) : wpAny M A t Q E s := k Q h
theorem stopT {p : Prop} (h : Stop p) : p := h
local macro_rules | `(tactic| walk_at "eval IfExp") => `(tactic| ((fail_if_success (with_reducible rename MkIf => mkI)); refine stopT ?_))
local macro_rules | `(tactic| walk_at "call ref") => `(tactic| (k_dflt ((refine' Tell.use ?C ?k1 ?k2 ?k3 ?k4 ?k5 ?k6 ?k7 ?k8 ?k9 ?_); (case C => assumption); (case k1 => assumption); (case k2 => assumption); (case k3 => assumption); (case k4 => assumption); (case k5 => assumption); (case k6 => first | rfl | assumption); (case k7 => ktr_room); (case k8 => ktr_units); (case k9 => (intro p hp; (repeat first | (with_reducible exact hp) | (with_reducible refine List.mem_cons_of_mem _ ?_) | (with_reducible refine List.mem_append_right _ ?_)); (try (first | exact hp | ((rename ∀ p ∈ _, p ∈ _ => hz); exact hz _ hp))))); (intro v tl h' tk' F' N' hv))))
local macro_rules | `(tactic| walk_at "compareOp NotEq") => `(tactic| (k_dflt ((refine' CmpAll.use ?H ?r1 ?r2 ?F ?X ?N ?h1 ?h2 ?h3 ?hu ?_); (case H => assumption); (case r1 => first | assumption | exact StrAll.use (by assumption)); (case r2 => assumption); (case F => k_asm); (case X => assumption); (case N => k_asm); (case hu => k_units); (case h1 => (intro p hp; first | (exact absurd hp List.not_mem_nil) | (repeat first | (with_reducible exact hp) | (with_reducible exact List.mem_append_left _ hp) | (with_reducible refine List.mem_cons_of_mem _ ?_) | (with_reducible refine List.mem_append_right _ ?_)))); (case h2 => (intro p hp; (repeat first | (with_reducible exact hp) | (with_reducible exact List.mem_append_left _ hp) | (with_reducible refine List.mem_cons_of_mem _ ?_) | (with_reducible refine List.mem_append_right _ ?_)))); (case h3 => (intro p hp; (repeat first | (with_reducible exact hp) | (with_reducible refine List.mem_cons_of_mem _ ?_) | (with_reducible refine List.mem_append_right _ ?_)); (try (first | exact hp | ((rename ∀ p ∈ _, p ∈ _ => hz); exact hz _ hp))))))))
local macro_rules | `(tactic| walk_at "getAttr ref") => `(tactic| (k_here; k_dflt (refine' get_own ?k1 ?k2 ?k3 ?k4 ?k5 ?k6 ?k7 ?k8 ?k9 ?_; (case k1 => k_asm); (case k2 => k_asm); (case k3 => k_inst); (case k4 => k_is); (case k5 => k_is); (case k6 => k_is); (case k7 => k_is); (case k8 => k_get); (case k9 => first | assumption | k_handed); k_whole)))
local macro_rules | `(tactic| walk_at "RestS") => `(tactic| (refine stopT ?_))
theorem one_val {w : World} {mean : ExcName → Option Value} {mg mb : Str → Option Value} {kv : Value} {own n l : Bool} {nd : List (Addr × Obj)} {cv : Addr} {RF RD : Bool → Value → List (Addr × Obj) → Prop}
  (hkv : handedIn kv = true) (hfind : FindAll w mean mg mb nd cv kv (cvtOf own) (fun at_ Λ => ∀ b, TellS w mean mg mb 92 (.ref 544) [.ref at_, kv, .ref cv, .bool b] [] Λ (RF b)))
  (hfind3 : FindAll w mean mg mb nd cv kv (cvtOf own) (fun at_ Λ => TellS w mean mg mb 84 (.ref 122) [.ref at_, kv, .ref cv] [] Λ (RF false)))
  (hdue : ∀ b, Tell w mean mg mb 12 (.ref 537) [.ref cv, kv, .bool own, .bool b, .bool n, .bool l] [] nd (RD b)) (hcmp : CmpAll w nd RF RD) :
  TellS w mean mg mb 110 (.ref 551) [.ref cv, kv, .bool own, .bool n, .bool l] [] nd (fun v tl => v = .bool true ∧ tl = []) := by
  have hcv0 : handedIn (cvtOf own) = true := by cases own <;> rfl
  intro dp un gd cn cs a ccd outer A₀ base h₀ g₀ L m news s R B F X N T XB TB D T0 hk hdp hun hn hret
  k_dflt (refine' code_defS ?k1 ?k2 ?k3 ?k4 ?k5 ?XB ?TB ?D ?T0 ?kA ?k6 ?k7 ?k8 ?k9 ?kB ?_ ?cK ?c2 ?c3 ?c4 ?c5)
  case kA => exact rfl
  case k1 => assumption
  case k2 => assumption
  case k3 => assumption
  case k4 => assumption
  case k5 => assumption
  case XB => assumption
  case TB => assumption
  case D => assumption
  case T0 => assumption
  case k6 => k_is
  case k7 => k_is
  case k8 => ktr_room
  case k9 => first | exact BindsTo.of_eq rfl | exact binds_K (Frag.In.keeps X F.keep) rfl (by k_is) rfl rfl rfl
  case cK => assumption
  case kB => exact locs rfl
  case c2 => exact rfl
  case c3 => exact rfl
  case c4 => exact rfl
  case c5 => decide
  intro g' L' h' FG' F' N' B' X' T' D'
  (conv at F' => enter [4, y, 2]; whnf)
  (try dsimp only)
  (try k_fold)
  k_steps
  unfold Stop
  refine join_val (cvtOf own) (fun Q' hQ' => ?_) ?_
  · have mk : MkIf := trivial
    cases own
    · k_steps
      exact hQ'
    · k_steps
      exact hQ'
  k_steps
  (rename News _ _ _ _ => NΛ)
  have hf3 := FindAll.use hfind3 NΛ (by k_mem) (by k_mem) (fun p hp => by (repeat first | exact hn p hp | (with_reducible refine List.mem_cons_of_mem _ ?_) | (with_reducible refine List.mem_append_right _ ?_)))
  have hfq := FindAll.use hfind NΛ (by k_mem) (by k_mem) (fun p hp => by (repeat first | exact hn p hp | (with_reducible refine List.mem_cons_of_mem _ ?_) | (with_reducible refine List.mem_append_right _ ?_)))
  unfold Stop
  refine RestS.indG (fun (b : Bool) v => v = .bool b) [Str.ofString "converter", Str.ofString "kind", Str.ofString "own", Str.ofString "newer", Str.ofString "later", Str.ofString "attribute"] ?turn ?fin _ ?ps _ (fun _ _ => rfl)
  case ps =>
    intro p hp
    rcases List.mem_cons.mp hp with rfl | hp
    · exact ⟨false, fun v h => h⟩
    · rw [List.mem_singleton.mp hp]; exact ⟨true, fun v h => h⟩
  case turn =>
    rintro b v rfl mq gq hq tkq its Rq hmq hRq Gq
    obtain ⟨Tq, Fq, Nq, Bq, Xq, Pq, Dq⟩ := Gq
    have n0 := (hmq (Str.ofString "converter") (by simp)).trans (rfl : _ = some _)
    have n1 := (hmq (Str.ofString "kind") (by simp)).trans (rfl : _ = some _)
    have n2 := (hmq (Str.ofString "own") (by simp)).trans (rfl : _ = some _)
    have n3 := (hmq (Str.ofString "newer") (by simp)).trans (rfl : _ = some _)
    have n4 := (hmq (Str.ofString "later") (by simp)).trans (rfl : _ = some _)
    have n5 := (hmq (Str.ofString "attribute") (by simp)).trans (rfl : _ = some _)
    have hd := hdue b
    have hf := hfq b
    (try k_lift Bq)
    k_steps
    unfold Stop
    refine RestS.indG (fun (i : Nat) v => ∃ t, v = .int (i : Int) t) [Str.ofString "converter", Str.ofString "kind", Str.ofString "own", Str.ofString "newer", Str.ofString "later", Str.ofString "attribute", Str.ofString "prefers", Str.ofString "due"] ?turn2 ?fin2 _ ?ps2 _ (fun _ _ => rfl)
    case ps2 =>
      intro p hp
      rcases List.mem_cons.mp hp with rfl | hp
      · exact ⟨_, fun v h => h⟩
      · rw [List.mem_singleton.mp hp]; exact ⟨_, fun v h => h⟩
    case turn2 =>
      rintro i v ⟨ti, rfl⟩ mi gi hi tki iti Ri hmi hRi Gi
      obtain ⟨Ti, Fi, Ni, Bi, Xi, Pi, Di⟩ := Gi
      have k0 := (hmi (Str.ofString "converter") (by simp)).trans n0
      have k1 := (hmi (Str.ofString "kind") (by simp)).trans n1
      have k2 := (hmi (Str.ofString "own") (by simp)).trans n2
      have k3 := (hmi (Str.ofString "newer") (by simp)).trans n3
      have k4 := (hmi (Str.ofString "later") (by simp)).trans n4
      have k5 := (hmi (Str.ofString "attribute") (by simp)).trans n5
      have k6 := (hmi (Str.ofString "prefers") (by simp)).trans (rfl : _ = some _)
      have k7 := (hmi (Str.ofString "due") (by simp)).trans (rfl : _ = some _)
      (try k_lift Bi)
      k_steps
      refine hRi _ fun x hx => ?_
      simp only [List.mem_cons, List.not_mem_nil, or_false] at hx
      rcases hx with rfl | rfl | rfl | rfl | rfl | rfl | rfl | rfl <;> ((repeat rw [if_neg (by decide)]); exact hmi _ (by simp))
    case fin2 =>
      intro mi gi hi tki hmi Gi
      obtain ⟨Ti, Fi, Ni, Bi, Xi, Pi, Di⟩ := Gi
      (try k_lift Bi)
      k_steps
      refine hRq _ fun x hx => ?_
      simp only [List.mem_cons, List.not_mem_nil, or_false] at hx
      rcases hx with rfl | rfl | rfl | rfl | rfl | rfl
      · exact (hmi _ (by simp)).trans (hmq (Str.ofString "converter") (by simp))
      · exact (hmi _ (by simp)).trans (hmq (Str.ofString "kind") (by simp))
      · exact (hmi _ (by simp)).trans (hmq (Str.ofString "own") (by simp))
      · exact (hmi _ (by simp)).trans (hmq (Str.ofString "newer") (by simp))
      · exact (hmi _ (by simp)).trans (hmq (Str.ofString "later") (by simp))
      · exact (hmi _ (by simp)).trans (hmq (Str.ofString "attribute") (by simp))
  case fin =>
    intro mq gq hq tkq hmq Gq
    obtain ⟨Tq, Fq, Nq, Bq, Xq, Pq, Dq⟩ := Gq
    have n0 := (hmq (Str.ofString "converter") (by simp)).trans (rfl : _ = some _)
    have n1 := (hmq (Str.ofString "kind") (by simp)).trans (rfl : _ = some _)
    have n2 := (hmq (Str.ofString "own") (by simp)).trans (rfl : _ = some _)
    have n3 := (hmq (Str.ofString "newer") (by simp)).trans (rfl : _ = some _)
    have n4 := (hmq (Str.ofString "later") (by simp)).trans (rfl : _ = some _)
    have n5 := (hmq (Str.ofString "attribute") (by simp)).trans (rfl : _ = some _)
    have hd0 := hdue false
    (try k_lift Bq)
    k_steps
    unfold Stop
    refine join_val (cvtOf own) (fun Q' hQ' => ?_) ?_
    · have mk : MkIf := trivial
      cases own
      · k_steps
        exact hQ'
      · k_steps
        exact hQ'
    k_steps
    exact hret _ [] _ _ _ (by assumption) (by assumption) (Mine.News.subl (by assumption) (fun p (hp : p ∈ news) => by (repeat first | (with_reducible exact hp) | (with_reducible refine List.mem_cons_of_mem _ ?_) | (with_reducible refine List.mem_append_right _ ?_)))) (by assumption) (by assumption) (by assumption) (by assumption) ⟨rfl, rfl⟩
local macro_rules | `(tactic| walk_at "handleBy ref") => `(tactic| (k_here; (with_reducible rename RaisedD _ _ _ _ _ _ _ => rdX); (k_dflt (refine' hit_SN0 (And.left rdX) ?F ?K ?U ?XB ?TB ?D ?T0 ?T ?_; (case F => assumption); (case K => assumption); (case U => assumption); (case XB => assumption); (case TB => assumption); (case D => assumption); (case T0 => first | assumption | exact KtsTurn.refl); (case T => kts_test); k_whole); intro h' g' T' F' N' K' X' P' D'; (try k_lift K'); (try k_sweep))))
theorem one_ref {w : World} {mean : ExcName → Option Value} {mg mb : Str → Option Value} {kv : Value} {own n l : Bool} {nd : List (Addr × Obj)} {cv : Addr} {RF RD : Bool → Value → List (Addr × Obj) → Prop}
  (hkv : handedIn kv = true) (hfind : FindAll w mean mg mb nd cv kv (cvtOf own) (fun at_ Λ => ∀ b, TellS w mean mg mb 92 (.ref 544) [.ref at_, kv, .ref cv, .bool b] [] Λ (RF b)))
  (hfind3 : FindAll w mean mg mb nd cv kv (cvtOf own) (fun at_ Λ => FallDS w mean mg mb 84 (.ref 122) [.ref at_, kv, .ref cv] [] Λ kv)) (hstr : StrAll RF)
  (hdue : ∀ b, Tell w mean mg mb 12 (.ref 537) [.ref cv, kv, .bool own, .bool b, .bool n, .bool l] [] nd (RD b)) (hcmp : CmpAll w nd RF RD) :
  TellS w mean mg mb 110 (.ref 551) [.ref cv, kv, .bool own, .bool n, .bool l] [] nd (fun v tl => v = .bool true ∧ tl = []) := by
  have hcv0 : handedIn (cvtOf own) = true := by cases own <;> rfl
  intro dp un gd cn cs a ccd outer A₀ base h₀ g₀ L m news s R B F X N T XB TB D T0 hk hdp hun hn hret
  k_dflt (refine' code_defS ?k1 ?k2 ?k3 ?k4 ?k5 ?XB ?TB ?D ?T0 ?kA ?k6 ?k7 ?k8 ?k9 ?kB ?_ ?cK ?c2 ?c3 ?c4 ?c5)
  case kA => exact rfl
  case k1 => assumption
  case k2 => assumption
  case k3 => assumption
  case k4 => assumption
  case k5 => assumption
  case XB => assumption
  case TB => assumption
  case D => assumption
  case T0 => assumption
  case k6 => k_is
  case k7 => k_is
  case k8 => ktr_room
  case k9 => first | exact BindsTo.of_eq rfl | exact binds_K (Frag.In.keeps X F.keep) rfl (by k_is) rfl rfl rfl
  case cK => assumption
  case kB => exact locs rfl
  case c2 => exact rfl
  case c3 => exact rfl
  case c4 => exact rfl
  case c5 => decide
  intro g' L' h' FG' F' N' B' X' T' D'
  (conv at F' => enter [4, y, 2]; whnf)
  (try dsimp only)
  (try k_fold)
  k_steps
  unfold Stop
  refine join_val (cvtOf own) (fun Q' hQ' => ?_) ?_
  · have mk : MkIf := trivial
    cases own
    · k_steps
      exact hQ'
    · k_steps
      exact hQ'
  k_steps
  (rename News _ _ _ _ => NΛ)
  have hf3 := FindAll.use hfind3 NΛ (by k_mem) (by k_mem) (fun p hp => by (repeat first | exact hn p hp | (with_reducible refine List.mem_cons_of_mem _ ?_) | (with_reducible refine List.mem_append_right _ ?_)))
  have hfq := FindAll.use hfind NΛ (by k_mem) (by k_mem) (fun p hp => by (repeat first | exact hn p hp | (with_reducible refine List.mem_cons_of_mem _ ?_) | (with_reducible refine List.mem_append_right _ ?_)))
  unfold Stop
  refine RestS.indG (fun (b : Bool) v => v = .bool b) [Str.ofString "converter", Str.ofString "kind", Str.ofString "own", Str.ofString "newer", Str.ofString "later", Str.ofString "attribute"] ?turn ?fin _ ?ps _ (fun _ _ => rfl)
  case ps =>
    intro p hp
    rcases List.mem_cons.mp hp with rfl | hp
    · exact ⟨false, fun v h => h⟩
    · rw [List.mem_singleton.mp hp]; exact ⟨true, fun v h => h⟩
  case turn =>
    rintro b v rfl mq gq hq tkq its Rq hmq hRq Gq
    obtain ⟨Tq, Fq, Nq, Bq, Xq, Pq, Dq⟩ := Gq
    have n0 := (hmq (Str.ofString "converter") (by simp)).trans (rfl : _ = some _)
    have n1 := (hmq (Str.ofString "kind") (by simp)).trans (rfl : _ = some _)
    have n2 := (hmq (Str.ofString "own") (by simp)).trans (rfl : _ = some _)
    have n3 := (hmq (Str.ofString "newer") (by simp)).trans (rfl : _ = some _)
    have n4 := (hmq (Str.ofString "later") (by simp)).trans (rfl : _ = some _)
    have n5 := (hmq (Str.ofString "attribute") (by simp)).trans (rfl : _ = some _)
    have hd := hdue b
    have hf := hfq b
    (try k_lift Bq)
    k_steps
    unfold Stop
    refine RestS.indG (fun (i : Nat) v => ∃ t, v = .int (i : Int) t) [Str.ofString "converter", Str.ofString "kind", Str.ofString "own", Str.ofString "newer", Str.ofString "later", Str.ofString "attribute", Str.ofString "prefers", Str.ofString "due"] ?turn2 ?fin2 _ ?ps2 _ (fun _ _ => rfl)
    case ps2 =>
      intro p hp
      rcases List.mem_cons.mp hp with rfl | hp
      · exact ⟨_, fun v h => h⟩
      · rw [List.mem_singleton.mp hp]; exact ⟨_, fun v h => h⟩
    case turn2 =>
      rintro i v ⟨ti, rfl⟩ mi gi hi tki iti Ri hmi hRi Gi
      obtain ⟨Ti, Fi, Ni, Bi, Xi, Pi, Di⟩ := Gi
      have k0 := (hmi (Str.ofString "converter") (by simp)).trans n0
      have k1 := (hmi (Str.ofString "kind") (by simp)).trans n1
      have k2 := (hmi (Str.ofString "own") (by simp)).trans n2
      have k3 := (hmi (Str.ofString "newer") (by simp)).trans n3
      have k4 := (hmi (Str.ofString "later") (by simp)).trans n4
      have k5 := (hmi (Str.ofString "attribute") (by simp)).trans n5
      have k6 := (hmi (Str.ofString "prefers") (by simp)).trans (rfl : _ = some _)
      have k7 := (hmi (Str.ofString "due") (by simp)).trans (rfl : _ = some _)
      (try k_lift Bi)
      k_steps
      refine hRi _ fun x hx => ?_
      simp only [List.mem_cons, List.not_mem_nil, or_false] at hx
      rcases hx with rfl | rfl | rfl | rfl | rfl | rfl | rfl | rfl <;> ((repeat rw [if_neg (by decide)]); exact hmi _ (by simp))
    case fin2 =>
      intro mi gi hi tki hmi Gi
      obtain ⟨Ti, Fi, Ni, Bi, Xi, Pi, Di⟩ := Gi
      (try k_lift Bi)
      k_steps
      refine hRq _ fun x hx => ?_
      simp only [List.mem_cons, List.not_mem_nil, or_false] at hx
      rcases hx with rfl | rfl | rfl | rfl | rfl | rfl
      · exact (hmi _ (by simp)).trans (hmq (Str.ofString "converter") (by simp))
      · exact (hmi _ (by simp)).trans (hmq (Str.ofString "kind") (by simp))
      · exact (hmi _ (by simp)).trans (hmq (Str.ofString "own") (by simp))
      · exact (hmi _ (by simp)).trans (hmq (Str.ofString "newer") (by simp))
      · exact (hmi _ (by simp)).trans (hmq (Str.ofString "later") (by simp))
      · exact (hmi _ (by simp)).trans (hmq (Str.ofString "attribute") (by simp))
  case fin =>
    intro mq gq hq tkq hmq Gq
    obtain ⟨Tq, Fq, Nq, Bq, Xq, Pq, Dq⟩ := Gq
    have n0 := (hmq (Str.ofString "converter") (by simp)).trans (rfl : _ = some _)
    have n1 := (hmq (Str.ofString "kind") (by simp)).trans (rfl : _ = some _)
    have n2 := (hmq (Str.ofString "own") (by simp)).trans (rfl : _ = some _)
    have n3 := (hmq (Str.ofString "newer") (by simp)).trans (rfl : _ = some _)
    have n4 := (hmq (Str.ofString "later") (by simp)).trans (rfl : _ = some _)
    have n5 := (hmq (Str.ofString "attribute") (by simp)).trans (rfl : _ = some _)
    have hd0 := hdue false
    (try k_lift Bq)
    k_steps
    unfold Stop
    refine join_val (cvtOf own) (fun Q' hQ' => ?_) ?_
    · have mk : MkIf := trivial
      cases own
      · k_steps
        exact hQ'
      · k_steps
        exact hQ'
    k_steps
    exact hret _ [] _ _ _ (by assumption) (by assumption) (Mine.News.subl (by assumption) (fun p (hp : p ∈ news) => by (repeat first | (with_reducible exact hp) | (with_reducible refine List.mem_cons_of_mem _ ?_) | (with_reducible refine List.mem_append_right _ ?_)))) (by assumption) (by assumption) (by assumption) (by assumption) ⟨rfl, rfl⟩
end Mine
namespace Mine
open PySem PySem.W PyProof.Rows PySem.Calls
set_option maxHeartbeats 1500000
end Mine
local macro_rules | `(tactic| k_inst) => `(tactic| first | (refine' InstAt.of_news ?N ?h1 ?h2; (case N => k_asm); (case h1 => k_mem); (case h2 => k_mem)) | (refine' InstAt.of_K ?X ?h1 ?h2; (case X => first | assumption | exact Frag.In.keeps (by k_asm) (Fr.keep (by k_asm))); (case h1 => k_is); (case h2 => k_is)))
namespace Mine
open PySem PySem.W PyProof.Rows PySem.Calls
set_option maxHeartbeats 1500000
local macro_rules | `(tactic| k_inst) => `(tactic| first | (refine' InstAt.of_news ?N ?h1 ?h2; (case N => k_asm); (case h1 => k_mem); (case h2 => k_mem)) | (refine' InstAt.of_K ?X ?h1 ?h2; (case X => first | assumption | exact Frag.In.keeps (by k_asm) (Fr.keep (by k_asm))); (case h1 => k_is); (case h2 => k_is)))
local macro_rules | `(tactic| walk_at "exec For Name Name cons nil") => `(tactic| (k_here; (rename Fr _ _ _ _ => lF'); (with_unfolding_all refine' For_turns lF' ?_); k_whole))
local macro_rules | `(tactic| walk_at "getMethod ref") => `(tactic| (k_here; (with_reducible show wpAny _ _ (getMethod (Value.ref _) (PySem.Str.ofString "insert") _) _ _ _); k_dflt (refine' kl_method ?N ?m PySem.F.slot_list_insert PySem.F.type_list_insert ?_; (case N => k_asm); (case m => k_mem))))
local macro_rules | `(tactic| walk_at "callWith ref") => `(tactic| (k_here; (with_reducible show wpAny _ _ (callWith _ (Value.ref _) _ (backTo _ (starEach [] _)) []) _ _ _); k_dflt (refine' callWith_K0' ?k1 ?k3 ?k2 ?_; (case k1 => k_asm); (case k3 => k_asm); (case k2 => k_is); k_whole; (try dsimp only [List.nil_append, List.append_nil]))))
local macro_rules | `(tactic| walk_at "callWith ref cons nil") => `(tactic| (k_here; (with_reducible show wpAny _ _ (callWith _ (Value.ref _) _ (backTo _ (starEach [] _)) []) _ _ _); k_dflt (refine' callWith_K0' ?k1 ?k3 ?k2 ?_; (case k1 => k_asm); (case k3 => k_asm); (case k2 => k_is); k_whole; (try dsimp only [List.nil_append, List.append_nil]))))
local macro_rules | `(tactic| walk_at "call ref") => `(tactic| (k_here; k_dflt (refine wpAny_call ?_; (refine' code_def ?k1 ?k2 ?k3 ?k4 ?k5 ?kA ?kF ?kK ?k6 ?k7 ?k8 ?k9 ?kB ?_ ?c2 ?c3 ?c4 ?c5; (case k3 => k_asm); (case k6 => k_is); (case kA => exact rfl); (case kF => exact rfl); (case kK => first | assumption | exact rfl); (case k2 => k_asm); (case k1 => k_asm); (case k4 => k_asm); (case k5 => k_asm); (case k7 => k_is); (case k8 => k_room); (case k9 => first | exact BindsTo.of_eq rfl | exact binds_K (by k_in) rfl (by k_is) rfl rfl rfl); (case c5 => decide); (case kB => exact locs rfl); (case c2 => exact rfl); (case c3 => exact rfl); (case c4 => exact rfl); k_whole; intro g' L' h' FG' F' N' B' X' T'; (conv at F' => enter [4, y, 2]; whnf); (try dsimp only); (try k_lift B'); (try k_fold)))))
end Mine
local macro_rules | `(tactic| k_all) => `(tactic| with_reducible assumption)
namespace Mine
open PySem PySem.W PyProof.Rows PySem.Calls
set_option maxHeartbeats 1500000
local macro_rules | `(tactic| k_inst) => `(tactic| first | (refine' InstAt.of_news ?N ?h1 ?h2; (case N => k_asm); (case h1 => k_mem); (case h2 => k_mem)) | (refine' InstAt.of_K ?X ?h1 ?h2; (case X => first | assumption | exact Frag.In.keeps (by k_asm) (Fr.keep (by k_asm))); (case h1 => k_is); (case h2 => k_is)))
local macro_rules | `(tactic| walk_at "exec For Name Name cons nil") => `(tactic| (k_here; (rename Fr _ _ _ _ => lF'); (with_unfolding_all refine' For_turns lF' ?_); k_whole))
local macro_rules | `(tactic| walk_at "getMethod ref") => `(tactic| (k_here; (with_reducible show wpAny _ _ (getMethod (Value.ref _) (PySem.Str.ofString "insert") _) _ _ _); k_dflt (refine' kl_method ?N ?m PySem.F.slot_list_insert PySem.F.type_list_insert ?_; (case N => k_asm); (case m => k_mem))))
local macro_rules | `(tactic| walk_at "callWith ref") => `(tactic| (k_here; (with_reducible show wpAny _ _ (callWith _ (Value.ref _) _ (backTo _ (starEach [] _)) []) _ _ _); k_dflt (refine' callWith_K0' ?k1 ?k3 ?k2 ?_; (case k1 => k_asm); (case k3 => k_asm); (case k2 => k_is); k_whole; (try dsimp only [List.nil_append, List.append_nil]))))
local macro_rules | `(tactic| walk_at "callWith ref cons nil") => `(tactic| (k_here; (with_reducible show wpAny _ _ (callWith _ (Value.ref _) _ (backTo _ (starEach [] _)) []) _ _ _); k_dflt (refine' callWith_K0' ?k1 ?k3 ?k2 ?_; (case k1 => k_asm); (case k3 => k_asm); (case k2 => k_is); k_whole; (try dsimp only [List.nil_append, List.append_nil]))))
local macro_rules | `(tactic| walk_at "call ref") => `(tactic| (k_here; k_dflt (refine wpAny_call ?_; (refine' code_def ?k1 ?k2 ?k3 ?k4 ?k5 ?kA ?kF ?kK ?k6 ?k7 ?k8 ?k9 ?kB ?_ ?c2 ?c3 ?c4 ?c5; (case k3 => k_asm); (case k6 => k_is); (case kA => exact rfl); (case kF => exact rfl); (case kK => first | assumption | exact rfl); (case k2 => k_asm); (case k1 => k_asm); (case k4 => k_asm); (case k5 => k_asm); (case k7 => k_is); (case k8 => k_room); (case k9 => first | exact BindsTo.of_eq rfl | exact binds_K (by k_in) rfl (by k_is) rfl rfl rfl); (case c5 => decide); (case kB => exact locs rfl); (case c2 => exact rfl); (case c3 => exact rfl); (case c4 => exact rfl); k_whole; intro g' L' h' FG' F' N' B' X' T'; (conv at F' => enter [4, y, 2]; whnf); (try dsimp only); (try k_lift B'); (try k_fold)))))
local macro_rules | `(tactic| k_all) => `(tactic| with_reducible assumption)
theorem kl_ins0 (vs : List Value) (y : Value) : kl_ins vs.toArray.toList 0 y = y :: vs := by simp [kl_ins]
theorem unr_perm {g h : Heap} {L : Addr} {a b : Addr × Obj} {rest : List (Addr × Obj)} (N : News g L h (a :: b :: rest)) : News g L h ([b] ++ (a :: rest)) := fun q hq => by
  rcases List.mem_cons.mp hq with rfl | hq
  · exact N _ (.tail _ (.head _))
  · rcases List.mem_cons.mp hq with rfl | hq
    · exact N _ (.head _)
    · exact N _ (.tail _ (.tail _ hq))
theorem allLt_mem {d : Nat} : ∀ {l : List (Addr × Obj)}, AllLt d l → ∀ p ∈ l, @LT.lt Nat _ p.1 d
  | [], _, p, hp => nomatch hp
  | q :: r, h, p, hp => by
    rcases List.mem_cons.mp hp with rfl | hp
    · exact h.1
    · exact allLt_mem h.2 p hp
theorem unr_fresh {D I lst dd : Addr} {o1 o2 o3 o4 : Obj} {news : List (Addr × Obj)} (h1 : @LT.lt Nat _ I D) (h2 : @LT.lt Nat _ lst I) (h3 : @LT.lt Nat _ dd I) (h4 : AllLt I news) : ∀ p ∈ (D, o1) :: (lst, o2) :: (dd, o3) :: news, ∀ q ∈ [(I, o4)], p.1 ≠ q.1 := fun p hp q hq => by
  rw [List.mem_singleton.mp hq]
  rcases List.mem_cons.mp hp with rfl | hp
  · exact Nat.ne_of_gt h1
  · rcases List.mem_cons.mp hp with rfl | hp
    · exact Nat.ne_of_lt h2
    · rcases List.mem_cons.mp hp with rfl | hp
      · exact Nat.ne_of_lt h3
      · exact Nat.ne_of_lt (allLt_mem h4 p hp)
theorem fresh3 {D lst dd : Addr} {o1 o2 : Obj} {news : List (Addr × Obj)} (h1 : @LT.lt Nat _ lst D) (h2 : @LT.lt Nat _ dd D) (h3 : AllLt D news) : ∀ q ∈ (lst, o1) :: (dd, o2) :: news, q.1 < D := fun q hq => by
  rcases List.mem_cons.mp hq with rfl | hq
  · exact h1
  · rcases List.mem_cons.mp hq with rfl | hq
    · exact h2
    · exact allLt_mem h3 q hq
theorem rfl2 {w : World} {mean : ExcName → Option Value} {mg mb : Str → Option Value} {dp un : Nat} {gd : Option (List Code)} {cn : Str} {cs : Scope} {a : Addr} {ccd : Value} {cl : List (Str × Addr)} {outer : List Env} {A₀ : Around} {base h₀ : Heap} {L : Addr} {m : Str → Option Value} {s : Shared} {R : Result → Shared → Prop} {news : List (Addr × Obj)}
  {ms mdx dd fd bm fdx c lst lp tp pf : Addr} {od : Obj} {vs : List Value} {nl n1 n2 : Nat} {hdv fb : Value} {i1 i2 i3 i4 j1 j2 : Int} {t1 t2 t3 t4 u1 u2 : Nat}
  (B : Below A₀ base outer h₀) (F : Fr h₀ L s.heap m) (X : (Mine.hd.heap_39 w.params).In h₀) (N : News h₀ L s.heap ((lst, listOf vs.toArray nl) :: (dd, od) :: news)) (T : Top topProg LO mean mg mb h₀) (hk : cs.kind = .function) (hdp : dp + 20 < recursionLimit) (hun : un + 200 < cLine)
  (hms : (ms, msObj mdx) ∈ news) (hmdx : (mdx, msDict i1 i2 i3 i4 t1 t2 t3 t4 fb dd fd bm) ∈ news) (hfd : (fd, fdObj fdx) ∈ news) (hfdx : (fdx, fdDict j1 j2 u1 u2 c lst) ∈ news)
  (hlp : (lp, listOf #[.ref tp] n1) ∈ news) (htp : (tp, ({ cls := .type "tuple", data := .seq #[.ref pf, hdv] n2 } : Obj)) ∈ news)
  (hod : od.IsDictOf (PySem.strKind PySem.Challenge.rw_fq0010_01.row.prog w) []) (hfl : PyProof.V.FlatPairs PyData.str ([] : List (Str × Value)) []) (lod : (dd == sysModules) = false) (hlt : dd < lst) (hx1 : ∀ p ∈ news, p.1 ≠ lst) (hx2 : ∀ p ∈ news, p.1 ≠ dd) (hvs : vs.length ≤ 100)
  (hret : ∀ p n3 od' h' tk', Fr h₀ L h' m → News h₀ L h' ((p, tupObj #[.ref pf, hdv, .bool false, .bool false] n3) :: (lst, listOf (Value.ref p :: vs).toArray (nl + 1)) :: (dd, od') :: news) → od'.IsDictOf (PySem.strKind PySem.Challenge.rw_fq0010_01.row.prog w) [] → (∀ q ∈ (lst, listOf vs.toArray nl) :: (dd, od) :: news, q.1 < p) → R (.ok (.ret .none)) { s with heap := h', toks := tk' }) :
  codeAny (model PySem.Challenge.rw_fq0010_01.row.prog w) (ktrTop dp un gd cn cs L a ccd cl outer) (.call (.ref 209) ⟨[.ref ms, .ref lp], []⟩) R s := by
  (try refine wpAny_call ?_)
  k_dflt (refine' code_def ?k1 ?k2 ?k3 ?k4 ?k5 ?kA ?kF ?kK ?k6 ?k7 ?k8 ?k9 ?kB ?_ ?c2 ?c3 ?c4 ?c5; (case kA => exact rfl); (case kF => exact rfl); (case kK => assumption); (case k1 => k_asm); (case k2 => k_asm); (case k3 => k_asm); (case k4 => k_asm); (case k5 => k_asm); (case k6 => k_is); (case k7 => k_is); (case k8 => ktr_room); (case k9 => first | exact BindsTo.of_eq rfl | exact binds_K (by k_in) rfl (by k_is) rfl rfl rfl); (case c5 => decide); (case kB => exact locs rfl); (case c2 => exact rfl); (case c3 => exact rfl); (case c4 => exact rfl); k_whole; intro g' L' h' FG' F' N' B' X' T'; (conv at F' => enter [4, y, 2]; whnf); (try dsimp only); (try k_fold))
  k_steps
  (rename Fr _ _ _ _ => F1)
  (rename News _ _ _ _ => N1)
  refine iter_listTurns (vs := [.ref tp]) rfl F1 N1 (.tail _ (.tail _ hlp)) rfl rfl fun I lI => ?_
  (try k_lt lI)
  (try dsimp only [List.map])
  k_steps
  (rename Fr _ _ _ _ => F4)
  (rename News _ _ _ _ => N4)
  refine kl_insert (its := vs.toArray) (n := nl) (x := 0) F4 N4 rfl (kl_ins0 vs _) (Upd.tail (by k_ne) (Upd.tail (by k_ne) (Upd.head (List.forall_mem_cons.mpr ⟨Nat.ne_of_lt hlt, hx1⟩)))) (by rw [sizeLine_eq]; simp; omega) ?_
  intro h5 F5 N5
  (try dsimp only [List.nil_append, List.cons_append] at N5)
  k_steps
  (rename Fr _ _ _ _ => F9)
  (rename News _ _ _ _ => N9)
  refine ⟨_, _, _, _, rfl, F9, unr_perm N9, unr_fresh (by omega) lI.1 lI.2.1 lI.2.2, ⟨.tail _ (.tail _ (.tail _ hlp)), trivial⟩, ?_⟩
  k_steps
  (rename Fr _ _ _ _ => F8)
  (rename News _ _ _ _ => N8)
  refine kt_clear_K (knd := PySem.strKind _ _) (enc := PyData.str) F8 N8 (UpdF.tail (by k_ne) (UpdF.tail (Nat.ne_of_gt hlt) (UpdF.head hx2))) hod hfl ?_ (Nat.zero_le _)
  intro h7 od' F7 N7 hod' hfl'
  k_steps
  (rename _ ∧ _ ∧ _ ∧ AllLt _ _ => l9)
  exact hret _ _ od' h7 _ (by assumption) (by assumption) hod' (fresh3 l9.2.1 l9.2.2.1 l9.2.2.2)
end Mine
namespace Mine
open PySem PySem.W PyProof.Rows PySem.Calls
set_option maxHeartbeats 1500000
local macro_rules | `(tactic| walk_at "exec For Name Name cons nil") => `(tactic| (k_here; (rename Fr _ _ _ _ => lF'); (with_unfolding_all refine' For_turns lF' ?_); k_whole))
local macro_rules | `(tactic| walk_at "getMethod ref") => `(tactic| (k_here; (with_reducible show wpAny _ _ (getMethod (Value.ref _) (PySem.Str.ofString "insert") _) _ _ _); k_dflt (refine' kl_method ?N ?m PySem.F.slot_list_insert PySem.F.type_list_insert ?_; (case N => k_asm); (case m => k_mem))))
local macro_rules | `(tactic| walk_at "callWith ref") => `(tactic| (k_here; (with_reducible show wpAny _ _ (callWith _ (Value.ref _) _ (backTo _ (starEach [] _)) []) _ _ _); k_dflt (refine' callWith_K0' ?k1 ?k3 ?k2 ?_; (case k1 => k_asm); (case k3 => k_asm); (case k2 => k_is); k_whole; (try dsimp only [List.nil_append, List.append_nil]))))
local macro_rules | `(tactic| walk_at "callWith ref cons nil") => `(tactic| (k_here; (with_reducible show wpAny _ _ (callWith _ (Value.ref _) _ (backTo _ (starEach [] _)) []) _ _ _); k_dflt (refine' callWith_K0' ?k1 ?k3 ?k2 ?_; (case k1 => k_asm); (case k3 => k_asm); (case k2 => k_is); k_whole; (try dsimp only [List.nil_append, List.append_nil]))))
local macro_rules | `(tactic| walk_at "call ref") => `(tactic| (k_here; k_dflt (refine wpAny_call ?_; (refine' code_def ?k1 ?k2 ?k3 ?k4 ?k5 ?kA ?kF ?kK ?k6 ?k7 ?k8 ?k9 ?kB ?_ ?c2 ?c3 ?c4 ?c5; (case k3 => k_asm); (case k6 => k_is); (case kA => exact rfl); (case kF => exact rfl); (case kK => first | assumption | exact rfl); (case k2 => k_asm); (case k1 => k_asm); (case k4 => k_asm); (case k5 => k_asm); (case k7 => k_is); (case k8 => k_room); (case k9 => first | exact BindsTo.of_eq rfl | exact binds_K (by k_in) rfl (by k_is) rfl rfl rfl); (case c5 => decide); (case kB => exact locs rfl); (case c2 => exact rfl); (case c3 => exact rfl); (case c4 => exact rfl); k_whole; intro g' L' h' FG' F' N' B' X' T'; (conv at F' => enter [4, y, 2]; whnf); (try dsimp only); (try k_lift B'); (try k_fold)))))
theorem rfl3 {w : World} {mean : ExcName → Option Value} {mg mb : Str → Option Value} {dp un : Nat} {gd : Option (List Code)} {cn : Str} {cs : Scope} {a : Addr} {ccd : Value} {cl : List (Str × Addr)} {outer : List Env} {A₀ : Around} {base h₀ : Heap} {L : Addr} {m : Str → Option Value} {s : Shared} {R : Result → Shared → Prop} {news : List (Addr × Obj)}
  {ms mdx dd fd bm fdx c lst lp tp pf : Addr} {od : Obj} {vs : List Value} {nl n1 n2 : Nat} {hdv fb : Value} {i1 i2 i3 i4 j1 j2 : Int} {t1 t2 t3 t4 u1 u2 : Nat}
  (B : Below A₀ base outer h₀) (F : Fr h₀ L s.heap m) (X : (Mine.hd.heap_39 w.params).In h₀) (N : News h₀ L s.heap ((lst, listOf vs.toArray nl) :: (dd, od) :: news)) (T : Top topProg LO mean mg mb h₀) (hk : cs.kind = .function) (hdp : dp + 20 < recursionLimit) (hun : un + 200 < cLine)
  (hms : (ms, msObj mdx) ∈ news) (hmdx : (mdx, msDict i1 i2 i3 i4 t1 t2 t3 t4 fb dd fd bm) ∈ news) (hfd : (fd, fdObj fdx) ∈ news) (hfdx : (fdx, fdDict j1 j2 u1 u2 c lst) ∈ news)
  (hlp : (lp, listOf #[.ref tp] n1) ∈ news) (htp : (tp, ({ cls := .type "tuple", data := .seq #[.ref pf, hdv, .bool true] n2 } : Obj)) ∈ news)
  (hod : od.IsDictOf (PySem.strKind PySem.Challenge.rw_fq0010_01.row.prog w) []) (hfl : PyProof.V.FlatPairs PyData.str ([] : List (Str × Value)) []) (lod : (dd == sysModules) = false) (hlt : dd < lst) (hx1 : ∀ p ∈ news, p.1 ≠ lst) (hx2 : ∀ p ∈ news, p.1 ≠ dd) (hvs : vs.length ≤ 100)
  (hret : ∀ p n3 od' h' tk', Fr h₀ L h' m → News h₀ L h' ((p, tupObj #[.ref pf, hdv, .bool true, .bool false] n3) :: (lst, listOf (Value.ref p :: vs).toArray (nl + 1)) :: (dd, od') :: news) → od'.IsDictOf (PySem.strKind PySem.Challenge.rw_fq0010_01.row.prog w) [] → (∀ q ∈ (lst, listOf vs.toArray nl) :: (dd, od) :: news, q.1 < p) → R (.ok (.ret .none)) { s with heap := h', toks := tk' }) :
  codeAny (model PySem.Challenge.rw_fq0010_01.row.prog w) (ktrTop dp un gd cn cs L a ccd cl outer) (.call (.ref 209) ⟨[.ref ms, .ref lp], []⟩) R s := by
  (try refine wpAny_call ?_)
  k_dflt (refine' code_def ?k1 ?k2 ?k3 ?k4 ?k5 ?kA ?kF ?kK ?k6 ?k7 ?k8 ?k9 ?kB ?_ ?c2 ?c3 ?c4 ?c5; (case kA => exact rfl); (case kF => exact rfl); (case kK => assumption); (case k1 => k_asm); (case k2 => k_asm); (case k3 => k_asm); (case k4 => k_asm); (case k5 => k_asm); (case k6 => k_is); (case k7 => k_is); (case k8 => ktr_room); (case k9 => first | exact BindsTo.of_eq rfl | exact binds_K (by k_in) rfl (by k_is) rfl rfl rfl); (case c5 => decide); (case kB => exact locs rfl); (case c2 => exact rfl); (case c3 => exact rfl); (case c4 => exact rfl); k_whole; intro g' L' h' FG' F' N' B' X' T'; (conv at F' => enter [4, y, 2]; whnf); (try dsimp only); (try k_fold))
  k_steps
  (rename Fr _ _ _ _ => F1)
  (rename News _ _ _ _ => N1)
  refine iter_listTurns (vs := [.ref tp]) rfl F1 N1 (.tail _ (.tail _ hlp)) rfl rfl fun I lI => ?_
  (try k_lt lI)
  (try dsimp only [List.map])
  k_steps
  (rename Fr _ _ _ _ => F4)
  (rename News _ _ _ _ => N4)
  refine kl_insert (its := vs.toArray) (n := nl) (x := 0) F4 N4 rfl (kl_ins0 vs _) (Upd.tail (by k_ne) (Upd.tail (by k_ne) (Upd.head (List.forall_mem_cons.mpr ⟨Nat.ne_of_lt hlt, hx1⟩)))) (by rw [sizeLine_eq]; simp; omega) ?_
  intro h5 F5 N5
  (try dsimp only [List.nil_append, List.cons_append] at N5)
  k_steps
  (rename Fr _ _ _ _ => F9)
  (rename News _ _ _ _ => N9)
  refine ⟨_, _, _, _, rfl, F9, unr_perm N9, unr_fresh (by omega) lI.1 lI.2.1 lI.2.2, ⟨.tail _ (.tail _ (.tail _ hlp)), trivial⟩, ?_⟩
  k_steps
  (rename Fr _ _ _ _ => F8)
  (rename News _ _ _ _ => N8)
  refine kt_clear_K (knd := PySem.strKind _ _) (enc := PyData.str) F8 N8 (UpdF.tail (by k_ne) (UpdF.tail (Nat.ne_of_gt hlt) (UpdF.head hx2))) hod hfl ?_ (Nat.zero_le _)
  intro h7 od' F7 N7 hod' hfl'
  k_steps
  (rename _ ∧ _ ∧ _ ∧ AllLt _ _ => l9)
  exact hret _ _ od' h7 _ (by assumption) (by assumption) hod' (fresh3 l9.2.1 l9.2.2.1 l9.2.2.2)
end Mine
namespace Mine
open PySem PySem.W PyProof.Rows PySem.Calls
set_option maxHeartbeats 1500000
def StopM (p : Prop) : Prop := p
theorem stopM {p : Prop} (h : StopM p) : p := h
theorem perm22 {g h : Heap} {L : Addr} {a b c d : Addr × Obj} {rest : List (Addr × Obj)} (N : News g L h (a :: b :: c :: d :: rest)) : News g L h (c :: d :: a :: b :: rest) := fun q hq => by
  rcases List.mem_cons.mp hq with rfl | hq
  · exact N _ (.tail _ (.tail _ (.head _)))
  · rcases List.mem_cons.mp hq with rfl | hq
    · exact N _ (.tail _ (.tail _ (.tail _ (.head _))))
    · rcases List.mem_cons.mp hq with rfl | hq
      · exact N _ (.head _)
      · rcases List.mem_cons.mp hq with rfl | hq
        · exact N _ (.tail _ (.head _))
        · exact N _ (.tail _ (.tail _ (.tail _ (.tail _ hq))))
theorem drop34 {g h : Heap} {L : Addr} {a b c d e : Addr × Obj} {rest : List (Addr × Obj)} (N : News g L h (a :: b :: c :: d :: e :: rest)) : News g L h (a :: b :: c :: rest) := fun q hq => by
  rcases List.mem_cons.mp hq with rfl | hq
  · exact N _ (.head _)
  · rcases List.mem_cons.mp hq with rfl | hq
    · exact N _ (.tail _ (.head _))
    · rcases List.mem_cons.mp hq with rfl | hq
      · exact N _ (.tail _ (.tail _ (.head _)))
      · exact N _ (.tail _ (.tail _ (.tail _ (.tail _ (.tail _ hq)))))
local macro_rules | `(tactic| walk_at "call ref") => `(tactic| ((with_reducible show wpAny _ _ (call (Value.ref 209) _ _) _ _ _); refine stopM ?_))
local macro_rules | `(tactic| walk_at "getMethod ref") => `(tactic| (k_here; (with_reducible show wpAny _ _ (getMethod (Value.ref _) (PySem.Str.ofString "insert") _) _ _ _); k_dflt (refine' kl_method ?N ?m PySem.F.slot_list_insert PySem.F.type_list_insert ?_; (case N => k_asm); (case m => k_mem))))
local macro_rules | `(tactic| walk_at "callWith ref") => `(tactic| (k_here; (with_reducible show wpAny _ _ (callWith _ (Value.ref _) _ (backTo _ (starEach [] _)) []) _ _ _); k_dflt (refine' callWith_K0' ?k1 ?k3 ?k2 ?_; (case k1 => k_asm); (case k3 => k_asm); (case k2 => k_is); k_whole; (try dsimp only [List.nil_append, List.append_nil]))))
local macro_rules | `(tactic| walk_at "callWith ref cons nil") => `(tactic| (k_here; (with_reducible show wpAny _ _ (callWith _ (Value.ref _) _ (backTo _ (starEach [] _)) []) _ _ _); k_dflt (refine' callWith_K0' ?k1 ?k3 ?k2 ?_; (case k1 => k_asm); (case k3 => k_asm); (case k2 => k_is); k_whole; (try dsimp only [List.nil_append, List.append_nil]))))
theorem hook_func {w : World} {mean : ExcName → Option Value} {mg mb : Str → Option Value} {dp un : Nat} {gd : Option (List Code)} {cn : Str} {cs : Scope} {a : Addr} {ccd : Value} {cl : List (Str × Addr)} {outer : List Env} {A₀ : Around} {base h₀ : Heap} {L : Addr} {m : Str → Option Value} {s : Shared} {R : Result → Shared → Prop} {news : List (Addr × Obj)}
  {cv cdx to mu ms mdx dd fd bm fdx c lst pf : Addr} {od : Obj} {w1 w2 w3 w4 w5 w6 w7 : Option Value} {vs : List Value} {nl : Nat} {hdv fb : Value} {i1 i2 i3 i4 j1 j2 : Int} {t1 t2 t3 t4 u1 u2 : Nat}
  (B : Below A₀ base outer h₀) (F : Fr h₀ L s.heap m) (X : (Mine.hd.heap_39 w.params).In h₀) (N : News h₀ L s.heap ((lst, listOf vs.toArray nl) :: (dd, od) :: news)) (T : Top topProg LO mean mg mb h₀) (hk : cs.kind = .function) (hdp : dp + 30 < recursionLimit) (hun : un + 300 < cLine)
  (hms : (ms, msObj mdx) ∈ news) (hmdx : (mdx, msDict i1 i2 i3 i4 t1 t2 t3 t4 fb dd fd bm) ∈ news) (hfd : (fd, fdObj fdx) ∈ news) (hfdx : (fdx, fdDict j1 j2 u1 u2 c lst) ∈ news)
  (hcd : (cdx, dictOf [] 0) ∈ news) (hcv : (cv, convObj cdx ms mu to w1 w2 w3 w4 w5 w6 w7) ∈ news)
  (hod : od.IsDictOf (PySem.strKind PySem.Challenge.rw_fq0010_01.row.prog w) []) (hfl : PyProof.V.FlatPairs PyData.str ([] : List (Str × Value)) []) (lod : (dd == sysModules) = false) (hlt : dd < lst) (hx1 : ∀ p ∈ news, p.1 ≠ lst) (hx2 : ∀ p ∈ news, p.1 ≠ dd) (hvs : vs.length ≤ 100)
  (hret : ∀ p n3 od' h' tk', Fr h₀ L h' m → News h₀ L h' ((p, tupObj #[.ref pf, hdv, .bool false, .bool false] n3) :: (lst, listOf (Value.ref p :: vs).toArray (nl + 1)) :: (dd, od') :: news) → od'.IsDictOf (PySem.strKind PySem.Challenge.rw_fq0010_01.row.prog w) [] → (∀ q ∈ (lst, listOf vs.toArray nl) :: (dd, od) :: news, q.1 < p) → R (.ok (.ret .none)) { s with heap := h', toks := tk' }) :
  codeAny (model PySem.Challenge.rw_fq0010_01.row.prog w) (ktrTop dp un gd cn cs L a ccd cl outer) (.call (.ref 313) ⟨[.ref cv, .ref pf, hdv], []⟩) R s := by
  (try refine wpAny_call ?_)
  k_dflt (refine' code_def ?k1 ?k2 ?k3 ?k4 ?k5 ?kA ?kF ?kK ?k6 ?k7 ?k8 ?k9 ?kB ?_ ?c2 ?c3 ?c4 ?c5; (case kA => exact rfl); (case kF => exact rfl); (case kK => assumption); (case k1 => k_asm); (case k2 => k_asm); (case k3 => k_asm); (case k4 => k_asm); (case k5 => k_asm); (case k6 => k_is); (case k7 => k_is); (case k8 => ktr_room); (case k9 => first | exact BindsTo.of_eq rfl | exact binds_K (by k_in) rfl (by k_is) rfl rfl rfl); (case c5 => decide); (case kB => exact locs rfl); (case c2 => exact rfl); (case c3 => exact rfl); (case c4 => exact rfl); k_whole; intro g' L' h' FG' F' N' B' X' T'; (conv at F' => enter [4, y, 2]; whnf); (try dsimp only); (try k_fold))
  k_steps
  unfold StopM
  (rename Fr _ _ _ _ => F5)
  (rename News _ _ _ _ => N5)
  (rename _ ∧ _ ∧ _ ∧ AllLt _ _ => l9)
  (rename _ ∧ _ ∧ AllLt _ _ => l8)
  k_dflt (refine' wpAny_call (rfl2 ?B F5 ?X (perm22 N5) ?T ?kk ?kd ?ku (.tail _ (.tail _ hms)) (.tail _ (.tail _ hmdx)) (.tail _ (.tail _ hfd)) (.tail _ (.tail _ hfdx)) (.head _) (.tail _ (.head _)) hod hfl lod hlt (List.forall_mem_cons.mpr ⟨Nat.ne_of_gt l9.2.1, List.forall_mem_cons.mpr ⟨Nat.ne_of_gt l8.1, hx1⟩⟩) (List.forall_mem_cons.mpr ⟨Nat.ne_of_gt l9.2.2.1, List.forall_mem_cons.mpr ⟨Nat.ne_of_gt l8.2.1, hx2⟩⟩) hvs ?_); (case B => assumption); (case X => assumption); (case T => assumption); (case kk => first | exact rfl | assumption); (case kd => ktr_room); (case ku => ktr_units))
  intro p n3 od' h7 tk7 F6 N6 hod' hfr
  k_steps
  exact hret p n3 od' _ _ (by assumption) (drop34 (by assumption)) hod' (fun q hq => hfr q (by
    rcases List.mem_cons.mp hq with rfl | hq
    · exact .head _
    · rcases List.mem_cons.mp hq with rfl | hq
      · exact .tail _ (.head _)
      · exact .tail _ (.tail _ (.tail _ (.tail _ hq)))))
end Mine
namespace Mine
open PySem PySem.W PyProof.Rows PySem.Calls
set_option maxHeartbeats 1500000
local macro_rules | `(tactic| walk_at "call ref") => `(tactic| ((with_reducible show wpAny _ _ (call (Value.ref 209) _ _) _ _ _); refine stopM ?_))
local macro_rules | `(tactic| walk_at "getMethod ref") => `(tactic| (k_here; (with_reducible show wpAny _ _ (getMethod (Value.ref _) (PySem.Str.ofString "insert") _) _ _ _); k_dflt (refine' kl_method ?N ?m PySem.F.slot_list_insert PySem.F.type_list_insert ?_; (case N => k_asm); (case m => k_mem))))
local macro_rules | `(tactic| walk_at "callWith ref") => `(tactic| (k_here; (with_reducible show wpAny _ _ (callWith _ (Value.ref _) _ (backTo _ (starEach [] _)) []) _ _ _); k_dflt (refine' callWith_K0' ?k1 ?k3 ?k2 ?_; (case k1 => k_asm); (case k3 => k_asm); (case k2 => k_is); k_whole; (try dsimp only [List.nil_append, List.append_nil]))))
local macro_rules | `(tactic| walk_at "callWith ref cons nil") => `(tactic| (k_here; (with_reducible show wpAny _ _ (callWith _ (Value.ref _) _ (backTo _ (starEach [] _)) []) _ _ _); k_dflt (refine' callWith_K0' ?k1 ?k3 ?k2 ?_; (case k1 => k_asm); (case k3 => k_asm); (case k2 => k_is); k_whole; (try dsimp only [List.nil_append, List.append_nil]))))
theorem base_factory {w : World} {mean : ExcName → Option Value} {mg mb : Str → Option Value} {dp un : Nat} {gd : Option (List Code)} {cn : Str} {cs : Scope} {a : Addr} {ccd : Value} {cl : List (Str × Addr)} {outer : List Env} {A₀ : Around} {base h₀ : Heap} {L : Addr} {m : Str → Option Value} {s : Shared} {R : Result → Shared → Prop} {news : List (Addr × Obj)}
  {cv cdx to mu ms mdx dd fd bm fdx c lst pf : Addr} {od : Obj} {w1 w2 w3 w4 w5 w6 w7 : Option Value} {vs : List Value} {nl : Nat} {hdv fb : Value} {i1 i2 i3 i4 j1 j2 : Int} {t1 t2 t3 t4 u1 u2 : Nat}
  (B : Below A₀ base outer h₀) (F : Fr h₀ L s.heap m) (X : (Mine.hd.heap_39 w.params).In h₀) (N : News h₀ L s.heap ((lst, listOf vs.toArray nl) :: (dd, od) :: news)) (T : Top topProg LO mean mg mb h₀) (hk : cs.kind = .function) (hdp : dp + 30 < recursionLimit) (hun : un + 300 < cLine)
  (hms : (ms, msObj mdx) ∈ news) (hmdx : (mdx, msDict i1 i2 i3 i4 t1 t2 t3 t4 fb dd fd bm) ∈ news) (hfd : (fd, fdObj fdx) ∈ news) (hfdx : (fdx, fdDict j1 j2 u1 u2 c lst) ∈ news)
  (hcd : (cdx, dictOf [] 0) ∈ news) (hcv : (cv, convObj cdx ms mu to w1 w2 w3 w4 w5 w6 w7) ∈ news)
  (hod : od.IsDictOf (PySem.strKind PySem.Challenge.rw_fq0010_01.row.prog w) []) (hfl : PyProof.V.FlatPairs PyData.str ([] : List (Str × Value)) []) (lod : (dd == sysModules) = false) (hlt : dd < lst) (hx1 : ∀ p ∈ news, p.1 ≠ lst) (hx2 : ∀ p ∈ news, p.1 ≠ dd) (hvs : vs.length ≤ 100)
  (hret : ∀ p n3 od' h' tk', Fr h₀ L h' m → News h₀ L h' ((p, tupObj #[.ref pf, hdv, .bool true, .bool false] n3) :: (lst, listOf (Value.ref p :: vs).toArray (nl + 1)) :: (dd, od') :: news) → od'.IsDictOf (PySem.strKind PySem.Challenge.rw_fq0010_01.row.prog w) [] → (∀ q ∈ (lst, listOf vs.toArray nl) :: (dd, od) :: news, q.1 < p) → R (.ok (.ret hdv)) { s with heap := h', toks := tk' }) :
  codeAny (model PySem.Challenge.rw_fq0010_01.row.prog w) (ktrTop dp un gd cn cs L a ccd cl outer) (.call (.ref 321) ⟨[.ref cv, .ref pf, hdv], []⟩) R s := by
  (try refine wpAny_call ?_)
  k_dflt (refine' code_def ?k1 ?k2 ?k3 ?k4 ?k5 ?kA ?kF ?kK ?k6 ?k7 ?k8 ?k9 ?kB ?_ ?c2 ?c3 ?c4 ?c5; (case kA => exact rfl); (case kF => exact rfl); (case kK => assumption); (case k1 => k_asm); (case k2 => k_asm); (case k3 => k_asm); (case k4 => k_asm); (case k5 => k_asm); (case k6 => k_is); (case k7 => k_is); (case k8 => ktr_room); (case k9 => first | exact BindsTo.of_eq rfl | exact binds_K (by k_in) rfl (by k_is) rfl rfl rfl); (case c5 => decide); (case kB => exact locs rfl); (case c2 => exact rfl); (case c3 => exact rfl); (case c4 => exact rfl); k_whole; intro g' L' h' FG' F' N' B' X' T'; (conv at F' => enter [4, y, 2]; whnf); (try dsimp only); (try k_fold))
  k_steps
  unfold StopM
  (rename Fr _ _ _ _ => F5)
  (rename News _ _ _ _ => N5)
  (rename _ ∧ _ ∧ _ ∧ AllLt _ _ => l9)
  (rename _ ∧ _ ∧ AllLt _ _ => l8)
  k_dflt (refine' wpAny_call (rfl3 ?B F5 ?X (perm22 N5) ?T ?kk ?kd ?ku (.tail _ (.tail _ hms)) (.tail _ (.tail _ hmdx)) (.tail _ (.tail _ hfd)) (.tail _ (.tail _ hfdx)) (.head _) (.tail _ (.head _)) hod hfl lod hlt (List.forall_mem_cons.mpr ⟨Nat.ne_of_gt l9.2.1, List.forall_mem_cons.mpr ⟨Nat.ne_of_gt l8.1, hx1⟩⟩) (List.forall_mem_cons.mpr ⟨Nat.ne_of_gt l9.2.2.1, List.forall_mem_cons.mpr ⟨Nat.ne_of_gt l8.2.1, hx2⟩⟩) hvs ?_); (case B => assumption); (case X => assumption); (case T => assumption); (case kk => first | exact rfl | assumption); (case kd => ktr_room); (case ku => ktr_units))
  intro p n3 od' h7 tk7 F6 N6 hod' hfr
  k_steps
  exact hret p n3 od' _ _ (by assumption) (drop34 (by assumption)) hod' (fun q hq => hfr q (by
    rcases List.mem_cons.mp hq with rfl | hq
    · exact .head _
    · rcases List.mem_cons.mp hq with rfl | hq
      · exact .tail _ (.head _)
      · exact .tail _ (.tail _ (.tail _ (.tail _ hq)))))
end Mine
namespace Mine
open PySem PySem.W PyProof.Rows PySem.Calls
set_option maxHeartbeats 1500000
local macro_rules | `(tactic| walk_at "call ref") => `(tactic| ((with_reducible show wpAny _ _ (call (Value.ref _) _ _) _ _ _); refine stopM ?_))
local macro_rules | `(tactic| walk_at "getMethod ref") => `(tactic| (k_here; (with_reducible show wpAny _ _ (getMethod (Value.ref _) (PySem.Str.ofString "insert") _) _ _ _); k_dflt (refine' kl_method ?N ?m PySem.F.slot_list_insert PySem.F.type_list_insert ?_; (case N => k_asm); (case m => k_mem))))
local macro_rules | `(tactic| walk_at "callWith ref") => `(tactic| (k_here; (with_reducible show wpAny _ _ (callWith _ (Value.ref _) _ (backTo _ (starEach [] _)) []) _ _ _); k_dflt (refine' callWith_K0' ?k1 ?k3 ?k2 ?_; (case k1 => k_asm); (case k3 => k_asm); (case k2 => k_is); k_whole; (try dsimp only [List.nil_append, List.append_nil]))))
local macro_rules | `(tactic| walk_at "callWith ref cons nil") => `(tactic| (k_here; (with_reducible show wpAny _ _ (callWith _ (Value.ref _) _ (backTo _ (starEach [] _)) []) _ _ _); k_dflt (refine' callWith_K0' ?k1 ?k3 ?k2 ?_; (case k1 => k_asm); (case k3 => k_asm); (case k2 => k_is); k_whole; (try dsimp only [List.nil_append, List.append_nil]))))
local macro_rules | `(tactic| walk_at "zz pad") => `(tactic| skip)
theorem conv_factory {w : World} {mean : ExcName → Option Value} {mg mb : Str → Option Value} {dp un : Nat} {gd : Option (List Code)} {cn : Str} {cs : Scope} {a : Addr} {ccd : Value} {cl : List (Str × Addr)} {outer : List Env} {A₀ : Around} {base h₀ : Heap} {L : Addr} {m : Str → Option Value} {s : Shared} {R : Result → Shared → Prop} {news : List (Addr × Obj)}
  {cv cdx to mu ms mdx dd fd bm fdx c lst pf : Addr} {od : Obj} {w1 w2 w3 w4 w5 w6 w7 : Option Value} {vs : List Value} {nl : Nat} {hdv fb : Value} {i1 i2 i3 i4 j1 j2 : Int} {t1 t2 t3 t4 u1 u2 : Nat}
  (B : Below A₀ base outer h₀) (F : Fr h₀ L s.heap m) (X : (Mine.hd.heap_39 w.params).In h₀) (N : News h₀ L s.heap ((lst, listOf vs.toArray nl) :: (dd, od) :: news)) (T : Top topProg LO mean mg mb h₀) (hk : cs.kind = .function) (hdp : dp + 40 < recursionLimit) (hun : un + 400 < cLine)
  (hms : (ms, msObj mdx) ∈ news) (hmdx : (mdx, msDict i1 i2 i3 i4 t1 t2 t3 t4 fb dd fd bm) ∈ news) (hfd : (fd, fdObj fdx) ∈ news) (hfdx : (fdx, fdDict j1 j2 u1 u2 c lst) ∈ news)
  (hcd : (cdx, dictOf [] 0) ∈ news) (hcv : (cv, convObj cdx ms mu to w1 w2 w3 w4 w5 w6 w7) ∈ news)
  (hod : od.IsDictOf (PySem.strKind PySem.Challenge.rw_fq0010_01.row.prog w) []) (hfl : PyProof.V.FlatPairs PyData.str ([] : List (Str × Value)) []) (lod : (dd == sysModules) = false) (hlt : dd < lst) (hx1 : ∀ p ∈ news, p.1 ≠ lst) (hx2 : ∀ p ∈ news, p.1 ≠ dd) (hvs : vs.length ≤ 100)
  (hret : ∀ p n3 od' h' tk', Fr h₀ L h' m → News h₀ L h' ((p, tupObj #[.ref pf, hdv, .bool true, .bool false] n3) :: (lst, listOf (Value.ref p :: vs).toArray (nl + 1)) :: (dd, od') :: news) → od'.IsDictOf (PySem.strKind PySem.Challenge.rw_fq0010_01.row.prog w) [] → (∀ q ∈ (lst, listOf vs.toArray nl) :: (dd, od) :: news, q.1 < p) → R (.ok (.ret hdv)) { s with heap := h', toks := tk' }) :
  codeAny (model PySem.Challenge.rw_fq0010_01.row.prog w) (ktrTop dp un gd cn cs L a ccd cl outer) (.call (.ref 427) ⟨[.ref cv, .ref pf, hdv], []⟩) R s := by
  k_dflt (refine' ks_code_super ?k1 ?k2 ?k3 ?k4 ?k5 ?kA ?kF ?kK ?k6 ?k7 ?k8 ?k9 ?kB ?_ ?c1 ?c2 ?c3 ?c4; (case kA => exact rfl); (case kF => exact rfl); (case kK => first | assumption | exact rfl); (case k1 => k_asm); (case k2 => k_asm); (case k3 => k_asm); (case k4 => k_asm); (case k5 => k_asm); (case k6 => k_is); (case k7 => k_is); (case k8 => k_room); (case k9 => first | exact BindsTo.of_eq rfl | exact binds_K (by k_in) rfl (by k_is) rfl rfl rfl); (case kB => exact locs rfl); (case c1 => decide); (case c2 => exact rfl); (case c3 => exact rfl); (case c4 => exact rfl); intro g' L' h' FG' F' N' B' X' T' l1'; (conv at F' => enter [4, y, 2]; whnf); (try dsimp only))
  k_steps
  unfold StopM
  (rename Fr _ _ _ _ => F5)
  (rename News _ _ _ _ => N5)
  (rename _ ∧ _ ∧ _ ∧ AllLt _ _ => l9)
  (rename _ ∧ _ ∧ AllLt _ _ => l8)
  k_dflt (refine' wpAny_call (method_call (N5 _ (.head _)).1 (base_factory ?B F5 ?X (perm22 N5) ?T ?kk ?kd ?ku (.tail _ (.tail _ hms)) (.tail _ (.tail _ hmdx)) (.tail _ (.tail _ hfd)) (.tail _ (.tail _ hfdx)) (.tail _ (.tail _ hcd)) (.tail _ (.tail _ hcv)) hod hfl lod hlt (List.forall_mem_cons.mpr ⟨Nat.ne_of_gt l9.2.1, List.forall_mem_cons.mpr ⟨Nat.ne_of_gt l8.1, hx1⟩⟩) (List.forall_mem_cons.mpr ⟨Nat.ne_of_gt l9.2.2.1, List.forall_mem_cons.mpr ⟨Nat.ne_of_gt l8.2.1, hx2⟩⟩) hvs ?_)); (case B => assumption); (case X => assumption); (case T => assumption); (case kk => first | exact rfl | assumption); (case kd => ktr_room); (case ku => ktr_units))
  intro p n3 od' h7 tk7 F6 N6 hod' hfr
  k_steps
  exact hret p n3 od' _ _ (by assumption) (drop34 (by assumption)) hod' (fun q hq => hfr q (by
    rcases List.mem_cons.mp hq with rfl | hq
    · exact .head _
    · rcases List.mem_cons.mp hq with rfl | hq
      · exact .tail _ (.head _)
      · exact .tail _ (.tail _ (.tail _ (.tail _ hq)))))
end Mine
namespace Mine
open PySem PySem.W PyProof.Rows PySem.Calls
set_option maxHeartbeats 2000000
local macro_rules | `(tactic| walk_at "getMethod ref") => `(tactic| (k_here; (with_reducible show wpAny _ _ (getMethod (Value.ref _) (PySem.Str.ofString "insert") _) _ _ _); k_dflt (refine' kl_method ?N ?m PySem.F.slot_list_insert PySem.F.type_list_insert ?_; (case N => k_asm); (case m => k_mem))))
local macro_rules | `(tactic| walk_at "callWith ref") => `(tactic| (k_here; (with_reducible show wpAny _ _ (callWith _ (Value.ref _) _ (backTo _ (starEach [] _)) []) _ _ _); k_dflt (refine' callWith_K0' ?k1 ?k3 ?k2 ?_; (case k1 => k_asm); (case k3 => k_asm); (case k2 => k_is); k_whole; (try dsimp only [List.nil_append, List.append_nil]))))
local macro_rules | `(tactic| walk_at "callWith ref cons nil") => `(tactic| (k_here; (with_reducible show wpAny _ _ (callWith _ (Value.ref _) _ (backTo _ (starEach [] _)) []) _ _ _); k_dflt (refine' callWith_K0' ?k1 ?k3 ?k2 ?_; (case k1 => k_asm); (case k3 => k_asm); (case k2 => k_is); k_whole; (try dsimp only [List.nil_append, List.append_nil]))))
local macro_rules | `(tactic| walk_at "call ref") => `(tactic| (k_here; k_dflt (refine wpAny_call ?_; (refine' code_def ?k1 ?k2 ?k3 ?k4 ?k5 ?kA ?kF ?kK ?k6 ?k7 ?k8 ?k9 ?kB ?_ ?c2 ?c3 ?c4 ?c5; (case k3 => k_asm); (case k6 => k_is); (case kA => exact rfl); (case kF => exact rfl); (case kK => first | assumption | exact rfl); (case k2 => k_asm); (case k1 => k_asm); (case k4 => k_asm); (case k5 => k_asm); (case k7 => k_is); (case k8 => k_room); (case k9 => first | exact BindsTo.of_eq rfl | exact binds_K (by k_in) rfl (by k_is) rfl rfl rfl); (case c5 => decide); (case kB => exact locs rfl); (case c2 => exact rfl); (case c3 => exact rfl); (case c4 => exact rfl); k_whole; intro g' L' h' FG' F' N' B' X' T'; (conv at F' => enter [4, y, 2]; whnf); (try dsimp only); (try k_lift B'); (try k_fold)))))
theorem msd_new {w : World} {mean : ExcName → Option Value} {mg mb : Str → Option Value} {dp un : Nat} {gd : Option (List Code)} {cn : Str} {cs : Scope} {a : Addr} {ccd : Value} {cl : List (Str × Addr)} {outer : List Env} {A₀ : Around} {base h₀ : Heap} {L : Addr} {m : Str → Option Value} {news : List (Addr × Obj)} {s : Shared} {Q E : Value → Shared → Prop}
  (B : Below A₀ base outer h₀) (F : Fr h₀ L s.heap m) (X : (Mine.hd.heap_39 w.params).In h₀) (N : News h₀ L s.heap news) (T : Top topProg LO mean mg mb h₀) (hk : cs.kind = .function) (hdp : dp + 40 < recursionLimit) (hun : un + 400 < cLine) {fb : Value} {c : Addr} (hfb : handedIn fb = true)
  (hret : ∀ bm lst fd fdx dd od ms mdx i1 i2 i3 i4 j1 j2 t1 t2 t3 t4 u1 u2 h' tk', Fr h₀ L h' m → News h₀ L h' ((bm, methodObj (.ref 194) (.ref ms)) :: (lst, listOf #[] 0) :: (fd, fdObj fdx) :: (fdx, fdDict j1 j2 u1 u2 c lst) :: (dd, od) :: (ms, msObj mdx) :: (mdx, msDict i1 i2 i3 i4 t1 t2 t3 t4 fb dd fd bm) :: news) →
    od.IsDictOf (PySem.strKind PySem.Challenge.rw_fq0010_01.row.prog w) [] → PyProof.V.FlatPairs PyData.str ([] : List (Str × Value)) [] → (dd == sysModules) = false → (∀ p ∈ news, p.1 < mdx) → @LT.lt Nat _ mdx ms → @LT.lt Nat _ ms dd → @LT.lt Nat _ dd fdx → @LT.lt Nat _ fdx fd → @LT.lt Nat _ fd lst → @LT.lt Nat _ lst bm → Q (.ref ms) {s with heap := h', toks := tk'}) :
  wpAny (model PySem.Challenge.rw_fq0010_01.row.prog w) (ktrTop dp un gd cn cs L a ccd cl outer) (call (.ref 241) [fb, .ref c]) Q E s := by
  k_dflt (refine' call_cls ?k1 ?k2 ?k3 ?k4 ?k5 ?k6 ?_; (case k1 => k_asm); (case k2 => k_asm); (case k3 => k_asm); (case k4 => k_is); (case k5 => k_is); (case k6 => k_is); intro x' d' h' F' N' lq1 lq2; (try k_lt2 lq2))
  k_dflt (refine' code_def ?k1 ?k2 ?k3 ?k4 ?k5 ?kA ?kF ?kK ?k6 ?k7 ?k8 ?k9 ?kB ?_ ?c2 ?c3 ?c4 ?c5; (case k3 => k_asm); (case k6 => k_is); (case kA => exact rfl); (case kF => exact rfl); (case kK => first | assumption | exact rfl); (case k2 => k_asm); (case k1 => k_asm); (case k4 => k_asm); (case k5 => k_asm); (case k7 => k_is); (case k8 => k_room); (case k9 => first | exact BindsTo.of_eq rfl | exact binds_K (by k_in) rfl (by k_is) rfl rfl rfl); (case c5 => decide); (case kB => exact locs rfl); (case c2 => exact rfl); (case c3 => exact rfl); (case c4 => exact rfl); k_whole; intro g' L' h' FG' F' N' B' X' T'; (conv at F' => enter [4, y, 2]; whnf); (try dsimp only); (try k_lift B'); (try k_fold))
  k_steps
  exact hret _ _ _ _ _ _ _ _ _ _ _ _ _ _ _ _ _ _ _ _ _ _ (by assumption) (by assumption) (by assumption) (by assumption) (by assumption) lq1 lq2 (And.left (by assumption)) (And.left (by assumption)) (by assumption) (And.left (by assumption)) (And.left (by assumption))
end Mine
namespace Mine
open PySem PySem.W PyProof.Rows PySem.Calls
set_option maxHeartbeats 2000000
theorem updF_mem {d : Addr} {o o' : Obj} : ∀ {l : List (Addr × Obj)} {g : Obj → List (Addr × Obj)}, UpdF d o l g → ∀ q, q ∈ g o' ↔ (q = (d, o') ∨ (q ∈ l ∧ q.1 ≠ d))
  | _, _, .head h, q => by
    constructor
    · intro hq
      rcases List.mem_cons.mp hq with rfl | hq
      · exact .inl rfl
      · exact .inr ⟨.tail _ hq, h q hq⟩
    · rintro (rfl | ⟨hq, hn⟩)
      · exact .head _
      · rcases List.mem_cons.mp hq with rfl | hq
        · exact absurd rfl hn
        · exact .tail _ hq
  | _, _, .tail hn r, q => by
    have ih := updF_mem (o' := o') r q
    constructor
    · intro hq
      rcases List.mem_cons.mp hq with rfl | hq
      · exact .inr ⟨.head _, hn⟩
      · rcases ih.mp hq with rfl | ⟨h1, h2⟩
        · exact .inl rfl
        · exact .inr ⟨.tail _ h1, h2⟩
    · rintro (rfl | ⟨hq, hn'⟩)
      · exact .tail _ (ih.mpr (.inl rfl))
      · rcases List.mem_cons.mp hq with rfl | hq
        · exact .head _
        · exact .tail _ (ih.mpr (.inr ⟨hq, hn'⟩))
theorem updF_old {d : Addr} {o : Obj} : ∀ {l : List (Addr × Obj)} {g : Obj → List (Addr × Obj)}, UpdF d o l g → (d, o) ∈ l ∧ ∀ q ∈ l, q = (d, o) ∨ q.1 ≠ d
  | _, _, .head h => ⟨.head _, fun q hq => (List.mem_cons.mp hq).elim .inl fun hq => .inr (h q hq)⟩
  | _, _, .tail hn r => ⟨.tail _ (updF_old r).1, fun q hq => by
    rcases List.mem_cons.mp hq with rfl | hq
    · exact .inr hn
    · exact (updF_old r).2 q hq⟩
/-- two objects of a ledger change: the rest of it -/
structure Two (lst dd : Addr) (o1 o2 : Obj) (news : List (Addr × Obj)) (g : Obj → Obj → List (Addr × Obj)) (rest : List (Addr × Obj)) : Prop where
  inn : ∀ q ∈ news, q.1 ≠ lst ∧ q.1 ≠ dd → q ∈ rest
  all : ∀ q ∈ (lst, o1) :: (dd, o2) :: rest, q ∈ news
  back : ∀ q ∈ news, q ∈ (lst, o1) :: (dd, o2) :: rest
  x1 : ∀ p ∈ rest, p.1 ≠ lst
  x2 : ∀ p ∈ rest, p.1 ≠ dd
  out : ∀ n1 n2, ∀ q ∈ g n1 n2, q ∈ (lst, n1) :: (dd, n2) :: rest
theorem two {lst dd : Addr} {o1 o2 : Obj} {news : List (Addr × Obj)} {g1 : Obj → List (Addr × Obj)} {g : Obj → Obj → List (Addr × Obj)} (U1 : UpdF lst o1 news g1) (U2 : ∀ o', UpdF dd o2 (g1 o') (g o')) (hne : dd ≠ lst) :
    Two lst dd o1 o2 news g (news.filter fun p => decide (p.1 ≠ lst ∧ p.1 ≠ dd)) := by
  have h2 : (dd, o2) ∈ news := by
    have := (updF_old (U2 o1)).1
    rcases (updF_mem U1 _).mp this with e | e
    · exact absurd (congrArg Prod.fst e) hne
    · exact e.1
  have h3 : ∀ q ∈ news, q = (dd, o2) ∨ q.1 ≠ dd := fun q hq => by
    by_cases e : q.1 = lst
    · exact .inr (fun e' => hne (e'.symm.trans e))
    · exact (updF_old (U2 o1)).2 q ((updF_mem U1 _).mpr (.inr ⟨hq, e⟩))
  refine ⟨fun q hq hn => List.mem_filter.mpr ⟨hq, decide_eq_true hn⟩, fun q hq => ?_, fun q hq => ?_, fun p hp => (of_decide_eq_true (List.mem_filter.mp hp).2).1, fun p hp => (of_decide_eq_true (List.mem_filter.mp hp).2).2, fun n1 n2 q hq => ?_⟩
  · rcases List.mem_cons.mp hq with rfl | hq
    · exact (updF_old U1).1
    · rcases List.mem_cons.mp hq with rfl | hq
      · exact h2
      · exact (List.mem_filter.mp hq).1
  · rcases (updF_old U1).2 q hq with rfl | e1
    · exact .head _
    · rcases h3 q hq with rfl | e2
      · exact .tail _ (.head _)
      · exact .tail _ (.tail _ (List.mem_filter.mpr ⟨hq, decide_eq_true ⟨e1, e2⟩⟩))
  · rcases (updF_mem (U2 n1) q).mp hq with rfl | ⟨hq, e2⟩
    · exact .tail _ (.head _)
    · rcases (updF_mem U1 q).mp hq with rfl | ⟨hq, e1⟩
      · exact .head _
      · exact .tail _ (.tail _ (List.mem_filter.mpr ⟨hq, decide_eq_true ⟨e1, e2⟩⟩))
theorem ne_up {news : List (Addr × Obj)} {b x : Nat} (h : ∀ p ∈ news, @LT.lt Nat _ p.1 b) (h2 : b ≤ x) : ∀ p ∈ news, p.1 ≠ x := fun p hp => Nat.ne_of_lt (Nat.lt_of_lt_of_le (h p hp) h2)
theorem rfl2U {w : World} {mean : ExcName → Option Value} {mg mb : Str → Option Value} {dp un : Nat} {gd : Option (List Code)} {cn : Str} {cs : Scope} {a : Addr} {ccd : Value} {cl : List (Str × Addr)} {outer : List Env} {A₀ : Around} {base h₀ : Heap} {L : Addr} {m : Str → Option Value} {news : List (Addr × Obj)} {s : Shared} {Q E : Value → Shared → Prop}
  (B : Below A₀ base outer h₀) (F : Fr h₀ L s.heap m) (X : (Mine.hd.heap_39 w.params).In h₀) (N : News h₀ L s.heap news) (T : Top topProg LO mean mg mb h₀) (hk : cs.kind = .function) (hdp : dp + 40 < recursionLimit) (hun : un + 400 < cLine)
  {ms mdx dd fd bm fdx c lst lp tp pf : Addr} {od : Obj} {vs : List Value} {nl n1 n2 : Nat} {hdv fb : Value} {i1 i2 i3 i4 j1 j2 : Int} {t1 t2 t3 t4 u1 u2 : Nat} {g1 : Obj → List (Addr × Obj)} {g : Obj → Obj → List (Addr × Obj)}
  (hms : (ms, msObj mdx) ∈ news) (hmdx : (mdx, msDict i1 i2 i3 i4 t1 t2 t3 t4 fb dd fd bm) ∈ news) (hfd : (fd, fdObj fdx) ∈ news) (hfdx : (fdx, fdDict j1 j2 u1 u2 c lst) ∈ news)
  (hlp : (lp, listOf #[.ref tp] n1) ∈ news) (htp : (tp, ({ cls := .type "tuple", data := .seq #[.ref pf, hdv] n2 } : Obj)) ∈ news)
  (U1 : UpdF lst (listOf vs.toArray nl) news g1) (U2 : ∀ o', UpdF dd od (g1 o') (g o'))
  (hod : od.IsDictOf (PySem.strKind PySem.Challenge.rw_fq0010_01.row.prog w) []) (lod : (dd == sysModules) = false) (hlt : @LT.lt Nat _ dd lst)
  (q1 : @Ne Nat ms lst ∧ @Ne Nat ms dd) (q2 : @Ne Nat mdx lst ∧ @Ne Nat mdx dd) (q3 : @Ne Nat fd lst ∧ @Ne Nat fd dd) (q4 : @Ne Nat fdx lst ∧ @Ne Nat fdx dd) (q5 : @Ne Nat lp lst ∧ @Ne Nat lp dd) (q6 : @Ne Nat tp lst ∧ @Ne Nat tp dd) (hvs : vs.length ≤ 100)
  (hret : ∀ p n3 od' h' tk', Fr h₀ L h' m → News h₀ L h' ((p, tupObj #[.ref pf, hdv, .bool false, .bool false] n3) :: g (listOf (Value.ref p :: vs).toArray (nl + 1)) od') → od'.IsDictOf (PySem.strKind PySem.Challenge.rw_fq0010_01.row.prog w) [] → (∀ q ∈ news, q.1 < p) → Q .none { s with heap := h', toks := tk' }) :
  wpAny (model PySem.Challenge.rw_fq0010_01.row.prog w) (ktrTop dp un gd cn cs L a ccd cl outer) (call (.ref 209) [.ref ms, .ref lp]) Q E s := by
  have W := two U1 U2 (Nat.ne_of_lt hlt)
  refine wpAny_call (rfl2 B F X (fun q hq => N q (W.all q hq)) T hk (by omega) (by omega) (W.inn _ hms q1) (W.inn _ hmdx q2) (W.inn _ hfd q3) (W.inn _ hfdx q4) (W.inn _ hlp q5) (W.inn _ htp q6) hod .nil lod hlt W.x1 W.x2 hvs fun p n3 od' h' tk' F' N' hod' hfr => ?_)
  exact hret p n3 od' h' tk' F' (fun q hq => by
    rcases List.mem_cons.mp hq with rfl | hq
    · exact N' _ (.head _)
    · exact N' _ (.tail _ (W.out _ _ q hq))) hod' (fun q hq => hfr q (W.back q hq))
end Mine
namespace Mine
open PySem PySem.W PyProof.Rows PySem.Calls
set_option maxHeartbeats 1000000
/-- a hook of a converter's list: the pair's address, its kind, its handler, whether it is a factory -/
abbrev Hk := Addr × Str × Value × Bool
structure HookIn (nd : List (Addr × Obj)) (h : Hk) : Prop where
  ex : ∃ (pf kc c' : Addr) (pm ctv : Value) (oc ok : Obj) (vs : Array Value) (n t tk : Nat), (h.1, tupObj #[.ref pf, h.2.2.1, .bool h.2.2.2, .bool false] n) ∈ nd ∧ (pf, isFn kc pm c' ctv) ∈ nd ∧ (c', oc) ∈ nd ∧ oc.data = .fields vs ∧ vs[1]? = some (.str "_law_is.<locals>.<lambda>" t) ∧ (kc, ok) ∈ nd ∧ ok.data = .cell (some (.str h.2.1 tk))
structure BaseIn (nd : List (Addr × Obj)) (p : Addr) (i : Nat) : Prop where
  ex : ∃ (pf c' : Addr) (pm ctv hd : Value) (oc : Obj) (vs : Array Value) (n t : Nat), (p, tupObj #[.ref pf, hd, .bool false, .bool false] n) ∈ nd ∧ (pf, initFn i pm c' ctv) ∈ nd ∧ (c', oc) ∈ nd ∧ oc.data = .fields vs ∧ vs[1]? = some (.str initQ t)
theorem HookIn.mono {nd nd' : List (Addr × Obj)} {h : Hk} (H : HookIn nd h) (hs : ∀ p ∈ nd, p ∈ nd') : HookIn nd' h :=
  let ⟨a, b, c, d, e, f, g, i, j, k, l, h1, h2, h3, h4, h5, h6, h7⟩ := H.ex
  ⟨a, b, c, d, e, f, g, i, j, k, l, hs _ h1, hs _ h2, hs _ h3, h4, h5, hs _ h6, h7⟩
theorem BaseIn.mono {nd nd' : List (Addr × Obj)} {p : Addr} {i : Nat} (H : BaseIn nd p i) (hs : ∀ p ∈ nd, p ∈ nd') : BaseIn nd' p i :=
  let ⟨a, c, d, e, b, f, g, i, j, h1, h2, h3, h4, h5⟩ := H.ex
  ⟨a, c, d, e, b, f, g, i, j, hs _ h1, hs _ h2, hs _ h3, h4, h5⟩
theorem HookIn.pair {w : World} {mean : ExcName → Option Value} {mg mb : Str → Option Value} {nd : List (Addr × Obj)} {h : Hk} (H : HookIn nd h) (k' : Str) (tq : Nat) :
    ∃ x : PairD, x.p = h.1 ∧ x.hd = h.2.2.1 ∧ x.gen = h.2.2.2 ∧ x.tk = false ∧ x.b = (k' == h.2.1) ∧ PairOk w mean mg mb nd (.str k' tq) x := by
  obtain ⟨pf, kc, c', pm, ctv, oc, ok, vs, n, t, tk, h1, h2, h3, h4, h5, h6, h7⟩ := H.ex
  refine ⟨⟨h.1, pf, h.2.2.1, h.2.2.2, false, n, k' == h.2.1, [(pf, isFn kc pm c' ctv), (c', oc), (kc, ok)]⟩, rfl, rfl, rfl, rfl, rfl, h1, ⟨_, _, _, _, h2⟩, tell_is h4 h5 h7, fun q hq => ?_⟩
  rcases List.mem_cons.mp hq with rfl | hq
  · exact h2
  · rcases List.mem_cons.mp hq with rfl | hq
    · exact h3
    · rw [List.mem_singleton.mp hq]; exact h6
theorem BaseIn.pair {w : World} {mean : ExcName → Option Value} {mg mb : Str → Option Value} {nd : List (Addr × Obj)} {p : Addr} {i : Nat} (H : BaseIn nd p i) (hi : i = 5 ∨ i = 6) (k' : Str) (tq : Nat) (hk' : k' ∈ K6) :
    ∃ x : PairD, x.p = p ∧ x.b = false ∧ PairOk w mean mg mb nd (.str k' tq) x := by
  obtain ⟨pf, c', pm, ctv, hd, oc, vs, n, t, h1, h2, h3, h4, h5⟩ := H.ex
  refine ⟨⟨p, pf, hd, false, false, n, false, [(pf, initFn i pm c' ctv), (c', oc)]⟩, rfl, rfl, h1, ⟨_, _, _, _, h2⟩, ?_, fun q hq => ?_⟩
  · rcases hi with rfl | rfl
    · exact tell_anies h4 h5 hk'
    · exact tell_called h4 h5 hk'
  · rcases List.mem_cons.mp hq with rfl | hq
    · exact h2
    · rw [List.mem_singleton.mp hq]; exact h3
theorem pairs_no {w : World} {mean : ExcName → Option Value} {mg mb : Str → Option Value} {nd : List (Addr × Obj)} {k' : Str} {tq : Nat} : ∀ hs : List Hk, (∀ h ∈ hs, HookIn nd h ∧ (k' == h.2.1) = false) →
    ∃ xs : List PairD, xs.map (fun y => Value.ref y.p) = hs.map (fun h => Value.ref h.1) ∧ ∀ x ∈ xs, PairOk w mean mg mb nd (.str k' tq) x ∧ x.b = false
  | [], _ => ⟨[], rfl, fun x hx => nomatch hx⟩
  | h :: r, H => by
    obtain ⟨xs, e, hx⟩ := pairs_no (w := w) (mean := mean) (mg := mg) (mb := mb) (tq := tq) r fun y hy => H y (.tail _ hy)
    obtain ⟨x, e1, _, _, _, e5, ok⟩ := (H h (.head _)).1.pair (w := w) (mean := mean) (mg := mg) (mb := mb) k' tq
    refine ⟨x :: xs, by rw [List.map_cons, List.map_cons, e, e1], fun y hy => ?_⟩
    rcases List.mem_cons.mp hy with rfl | hy
    · exact ⟨ok, e5.trans (H h (.head _)).2⟩
    · exact hx y hy
structure ConvD where
  cv : Addr
  cdx : Addr
  to : Addr
  mu : Addr
  ms : Addr
  mdx : Addr
  dd : Addr
  fd : Addr
  bm : Addr
  fdx : Addr
  lst : Addr
  od : Obj
  nl : Nat
  hooks : List Hk
  pc : Addr
  pa : Addr
abbrev ConvD.items (c : ConvD) : List Value := c.hooks.map (fun h => Value.ref h.1) ++ [.ref c.pc, .ref c.pa]
/-- the converter c is in the ledger -/
structure ConvIn (w : World) (nd : List (Addr × Obj)) (c : ConvD) : Prop where
  hcd : (c.cdx, dictOf [] 0) ∈ nd
  hcv : ∃ w1 w2 w3 w4 w5 w6 w7, (c.cv, convObj c.cdx c.ms c.mu c.to w1 w2 w3 w4 w5 w6 w7) ∈ nd
  hms : (c.ms, msObj c.mdx) ∈ nd
  hmdx : ∃ i1 i2 i3 i4 t1 t2 t3 t4, (c.mdx, msDict i1 i2 i3 i4 t1 t2 t3 t4 (.ref 401) c.dd c.fd c.bm) ∈ nd
  hbm : (c.bm, methodObj (.ref 194) (.ref c.ms)) ∈ nd
  hdd : (c.dd, c.od) ∈ nd
  hod : c.od.IsDictOf (PySem.strKind PySem.Challenge.rw_fq0010_01.row.prog w) []
  lod : (c.dd == sysModules) = false
  hfd : (c.fd, fdObj c.fdx) ∈ nd
  hfdx : ∃ j1 j2 u1 u2, (c.fdx, fdDict j1 j2 u1 u2 c.cv c.lst) ∈ nd
  hlst : (c.lst, listOf c.items.toArray c.nl) ∈ nd
  hk : ∀ h ∈ c.hooks, HookIn nd h
  bc : BaseIn nd c.pc 6
  ba : BaseIn nd c.pa 5
section
variable {w : World} {mean : ExcName → Option Value} {mg mb : Str → Option Value} {nd : List (Addr × Obj)} {c : ConvD} {k : Str} {tq : Nat}
abbrev junk (p : Addr) : PairD := ⟨p, 0, .none, false, false, 0, false, []⟩
theorem ConvIn.cut (C : ConvIn w nd c) {pre post : List Hk} {h : Hk} (e : c.hooks = pre ++ h :: post) (hpre : ∀ y ∈ pre, (k == y.2.1) = false) (hk : (k == h.2.1) = true) :
    ∃ (xs ys : List PairD) (x : PairD), x.hd = h.2.2.1 ∧ x.gen = h.2.2.2 ∧ x.tk = false ∧ x.b = true ∧ PairOk w mean mg mb nd (.str k tq) x ∧ (∀ y ∈ xs, PairOk w mean mg mb nd (.str k tq) y ∧ y.b = false) ∧
      (c.lst, listOf ((xs ++ x :: ys).map fun y => Value.ref y.p).toArray c.nl) ∈ nd := by
  obtain ⟨xs, e1, hx⟩ := pairs_no (w := w) (mean := mean) (mg := mg) (mb := mb) (tq := tq) (k' := k) pre fun y hy => ⟨C.hk y (e ▸ List.mem_append_left _ hy), hpre y hy⟩
  obtain ⟨x, f1, f2, f3, f4, f5, f6⟩ := (C.hk h (e ▸ List.mem_append_right _ (.head _))).pair (w := w) (mean := mean) (mg := mg) (mb := mb) k tq
  refine ⟨xs, post.map (fun h => junk h.1) ++ [junk c.pc, junk c.pa], x, f2, f3, f4, f5.trans hk, f6, hx, ?_⟩
  have : (xs ++ x :: (post.map (fun h => junk h.1) ++ [junk c.pc, junk c.pa])).map (fun y => Value.ref y.p) = c.items := by
    simp only [ConvD.items, e, List.map_append, List.map_cons, List.map_map, List.append_assoc, List.cons_append, List.map_nil, e1, f1]
    rfl
  rw [this]
  exact C.hlst
theorem ConvIn.none_ (C : ConvIn w nd c) (hno : ∀ y ∈ c.hooks, (k == y.2.1) = false) (hk6 : k ∈ K6) : Tell w mean mg mb 8 (.ref 151) [.ref c.fd, .str k tq] [] nd (fun v tl => v = .none ∧ tl = []) := by
  obtain ⟨xs, e1, hx⟩ := pairs_no (w := w) (mean := mean) (mg := mg) (mb := mb) (tq := tq) (k' := k) c.hooks fun y hy => ⟨C.hk y hy, hno y hy⟩
  obtain ⟨x1, f1, f2, f3⟩ := C.bc.pair (w := w) (mean := mean) (mg := mg) (mb := mb) (.inr rfl) k tq hk6
  obtain ⟨x2, g1, g2, g3⟩ := C.ba.pair (w := w) (mean := mean) (mg := mg) (mb := mb) (.inl rfl) k tq hk6
  obtain ⟨j1, j2, u1, u2, hfdx⟩ := C.hfdx
  refine disp_none (xs := xs ++ [x1, x2]) (n := c.nl) C.hfd hfdx ?_ fun y hy => ?_
  · have : (xs ++ [x1, x2]).map (fun y => Value.ref y.p) = c.items := by
      simp only [ConvD.items, List.map_append, List.map_cons, List.map_nil, e1, f1, g1]
    rw [this]
    exact C.hlst
  · rcases List.mem_append.mp hy with hy | hy
    · exact hx y hy
    · rcases List.mem_cons.mp hy with rfl | hy
      · exact ⟨f3, f2⟩
      · rw [List.mem_singleton.mp hy]; exact ⟨g3, g2⟩
/-- the kind k has the hook r -/
abbrev GHook (w : World) (mean : ExcName → Option Value) (mg mb : Str → Option Value) (nd : List (Addr × Obj)) (cv : Addr) (k : Str) (tq : Nat) (r : Addr) : Prop :=
  Tell w mean mg mb 16 (.ref 336) [.ref cv, .str k tq] [(Str.ofString "cache_result", .bool false)] nd (fun v tl => v = .ref r ∧ tl = [])
abbrev GHook0 (w : World) (mean : ExcName → Option Value) (mg mb : Str → Option Value) (nd : List (Addr × Obj)) (cv : Addr) (k : Str) (tq : Nat) (r : Addr) : Prop :=
  Tell w mean mg mb 16 (.ref 336) [.ref cv, .str k tq] [] nd (fun v tl => v = .ref r ∧ tl = [])
theorem ConvIn.dhook (C : ConvIn w nd c) {pre post : List Hk} {h : Hk} {r : Addr} (e : c.hooks = pre ++ h :: post) (hpre : ∀ y ∈ pre, (k == y.2.1) = false) (hk : (k == h.2.1) = true) (hgen : h.2.2.2 = false) (hr : h.2.2.1 = .ref r) :
    Tell w mean mg mb 12 (.ref 194) [.ref c.ms, .str k tq] [] nd (fun v tl => v = .ref r ∧ tl = []) := by
  obtain ⟨xs, ys, x, a1, a2, a3, a4, a5, a6, a7⟩ := C.cut (mean := mean) (mg := mg) (mb := mb) (tq := tq) e hpre hk
  obtain ⟨j1, j2, u1, u2, hfdx⟩ := C.hfdx
  obtain ⟨i1, i2, i3, i4, t1, t2, t3, t4, hmdx⟩ := C.hmdx
  have hd := disp_hit C.hfd hfdx a7 a6 a5 a4 (a2.trans hgen)
  rw [a1.trans hr] at hd
  exact dwc_val C.hms hmdx C.hdd C.hod C.lod C.hfd hfdx hd
theorem ConvIn.hook (C : ConvIn w nd c) {pre post : List Hk} {h : Hk} {r : Addr} (e : c.hooks = pre ++ h :: post) (hpre : ∀ y ∈ pre, (k == y.2.1) = false) (hk : (k == h.2.1) = true) (hgen : h.2.2.2 = false) (hr : h.2.2.1 = .ref r) :
    GHook w mean mg mb nd c.cv k tq r := by
  obtain ⟨i1, i2, i3, i4, t1, t2, t3, t4, hmdx⟩ := C.hmdx
  obtain ⟨w1, w2, w3, w4, w5, w6, w7, hcv⟩ := C.hcv
  exact gsh_val (cr := .none) C.hcd hcv C.hms hmdx C.hbm (C.dhook e hpre hk hgen hr)
theorem ConvIn.hook0 (C : ConvIn w nd c) {pre post : List Hk} {h : Hk} {r : Addr} (e : c.hooks = pre ++ h :: post) (hpre : ∀ y ∈ pre, (k == y.2.1) = false) (hk : (k == h.2.1) = true) (hgen : h.2.2.2 = false) (hr : h.2.2.1 = .ref r) :
    GHook0 w mean mg mb nd c.cv k tq r := by
  obtain ⟨i1, i2, i3, i4, t1, t2, t3, t4, hmdx⟩ := C.hmdx
  obtain ⟨w1, w2, w3, w4, w5, w6, w7, hcv⟩ := C.hcv
  exact gsh_val0 (cr := .none) C.hcd hcv C.hms hmdx C.hbm (C.dhook e hpre hk hgen hr)
theorem ConvIn.made (C : ConvIn w nd c) {pre post : List Hk} {h : Hk} (e : c.hooks = pre ++ h :: post) (hpre : ∀ y ∈ pre, (k == y.2.1) = false) (hk : (k == h.2.1) = true) (hgen : h.2.2.2 = true) (hr : h.2.2.1 = .ref 516) :
    GHook w mean mg mb nd c.cv k tq 488 := by
  obtain ⟨xs, ys, x, a1, a2, a3, a4, a5, a6, a7⟩ := C.cut (mean := mean) (mg := mg) (mb := mb) (tq := tq) e hpre hk
  obtain ⟨j1, j2, u1, u2, hfdx⟩ := C.hfdx
  obtain ⟨i1, i2, i3, i4, t1, t2, t3, t4, hmdx⟩ := C.hmdx
  obtain ⟨w1, w2, w3, w4, w5, w6, w7, hcv⟩ := C.hcv
  exact gsh_val (cr := .none) C.hcd hcv C.hms hmdx C.hbm (dwc_val C.hms hmdx C.hdd C.hod C.lod C.hfd hfdx (disp_made C.hfd hfdx a7 a6 a5 a4 (a2.trans hgen) a3 (a1.trans hr)))
abbrev GFall (w : World) (mean : ExcName → Option Value) (mg mb : Str → Option Value) (nd : List (Addr × Obj)) (cv : Addr) (k : Str) (tq : Nat) : Prop :=
  FallN w mean mg mb 20 (.ref 336) [.ref cv, .str k tq] [(Str.ofString "cache_result", .bool false)] nd (.type "RecursionError")
theorem ConvIn.falls (C : ConvIn w nd c) {pre post : List Hk} {h : Hk} (e : c.hooks = pre ++ h :: post) (hpre : ∀ y ∈ pre, (k == y.2.1) = false) (hk : (k == h.2.1) = true) (hgen : h.2.2.2 = true) (hr : h.2.2.1 = .ref 523) :
    GFall w mean mg mb nd c.cv k tq := by
  obtain ⟨xs, ys, x, a1, a2, a3, a4, a5, a6, a7⟩ := C.cut (mean := mean) (mg := mg) (mb := mb) (tq := tq) e hpre hk
  obtain ⟨j1, j2, u1, u2, hfdx⟩ := C.hfdx
  obtain ⟨i1, i2, i3, i4, t1, t2, t3, t4, hmdx⟩ := C.hmdx
  obtain ⟨w1, w2, w3, w4, w5, w6, w7, hcv⟩ := C.hcv
  exact gsh_falls (cr := .none) C.hcd hcv C.hms hmdx C.hbm (dwc_falls C.hms hmdx C.hdd C.hod C.lod C.hfd hfdx (disp_falls C.hfd hfdx a7 a6 a5 a4 (a2.trans hgen) a3 (a1.trans hr)))
abbrev GRef (w : World) (mean : ExcName → Option Value) (mg mb : Str → Option Value) (nd : List (Addr × Obj)) (cv : Addr) (k : Str) (tq : Nat) : Prop :=
  FallD w mean mg mb 76 (.ref 336) [.ref cv, .str k tq] [(Str.ofString "cache_result", .bool false)] nd (.str k tq)
theorem repr6 : ∀ k ∈ K6, (reprText k).length ≤ 32 := by decide +kernel
theorem ConvIn.refused (C : ConvIn w nd c) (hno : ∀ y ∈ c.hooks, (k == y.2.1) = false) (hk6 : k ∈ K6) : GRef w mean mg mb nd c.cv k tq := by
  obtain ⟨j1, j2, u1, u2, hfdx⟩ := C.hfdx
  obtain ⟨i1, i2, i3, i4, t1, t2, t3, t4, hmdx⟩ := C.hmdx
  obtain ⟨w1, w2, w3, w4, w5, w6, w7, hcv⟩ := C.hcv
  exact gsh_refused C.hcd hcv C.hms hmdx C.hbm (dwc_refused (repr6 k hk6) C.hms hmdx C.hdd C.hod C.lod C.hfd hfdx (C.none_ hno hk6))
end
end Mine
namespace Mine
open PySem PySem.W PyProof.Rows PySem.Calls
set_option maxHeartbeats 4000000
def CodeIn (nd : List (Addr × Obj)) (q : Str) (c : Addr) : Prop := ∃ oc vs t, (c, oc) ∈ nd ∧ oc.data = .fields vs ∧ vs[1]? = some (.str q t)
theorem CodeIn.mono {nd nd' : List (Addr × Obj)} {q : Str} {c : Addr} (H : CodeIn nd q c) (hs : ∀ p ∈ nd, p ∈ nd') : CodeIn nd' q c := let ⟨oc, vs, t, h1, h2, h3⟩ := H; ⟨oc, vs, t, hs _ h1, h2, h3⟩
abbrev tri4 (c1 c2 c3 c4 : Addr) : Array Value := #[rawInt 133, rawInt 52, .ref c1, rawInt 135, rawInt 50, .ref c2, rawInt 135, rawInt 88, .ref c3, rawInt 136, rawInt 50, .ref c4]
abbrev baseObj (cdx ms mu : Addr) (kA kB : Nat) : Obj := ⟨.ref 453, some cdx, .plain, #[none, none, none, none, none, none, some (.bool false), some (.int 2 kA), none, some (.ref ms), none, some (.int 1 kB), none, some (.ref mu), some (.bool true)]⟩
/-- a base converter, its seven objects that may yet change left out of nd -/
structure BOut (nd : List (Addr × Obj)) (cv cdx mu muX ddU fdU fdUx lstU ms mdx dd fd fdx lst pc pa : Addr) : Prop where
  hcd : (cdx, dictOf [] 0) ∈ nd
  hms : (ms, msObj mdx) ∈ nd
  hmdx : ∃ bm i1 i2 i3 i4 t1 t2 t3 t4, (mdx, msDict i1 i2 i3 i4 t1 t2 t3 t4 (.ref 401) dd fd bm) ∈ nd ∧ (bm, methodObj (.ref 194) (.ref ms)) ∈ nd
  hfd : (fd, fdObj fdx) ∈ nd
  hmu : (mu, msObj muX) ∈ nd
  hmuX : ∃ bm i1 i2 i3 i4 t1 t2 t3 t4, (muX, msDict i1 i2 i3 i4 t1 t2 t3 t4 (.ref 394) ddU fdU bm) ∈ nd
  hfdU : (fdU, fdObj fdUx) ∈ nd
  hlstU : ∃ p n, (lstU, listOf #[.ref p] n) ∈ nd
  bc : BaseIn nd pc 6
  ba : BaseIn nd pa 5
  sep : ∀ p ∈ nd, p.1 ≠ cv ∧ p.1 ≠ lst ∧ p.1 ≠ dd ∧ p.1 ≠ fdx ∧ p.1 ≠ ddU ∧ p.1 ≠ fdUx ∧ p.1 ≠ 270 ∧ p.1 ≠ 504
  o0 : @LT.lt Nat _ 270 cdx
  o00 : @LT.lt Nat _ 504 cdx
  o1 : @LT.lt Nat _ cdx cv
  o2 : @LT.lt Nat _ cv ddU
  o3 : @LT.lt Nat _ ddU fdUx
  o4 : @LT.lt Nat _ fdUx dd
  o5 : @LT.lt Nat _ dd fdx
  o6 : @LT.lt Nat _ fdx lst
  lod : (dd == sysModules) = false
  lodU : (ddU == sysModules) = false
theorem base_out {h₀ h : Heap} {L : Addr} {led news : List (Addr × Obj)} {cv cdx mu muX ddU fdU fdUx lstU bmU ms mdx dd fd fdx lst bm pc pa pU f2 f4 c1 c2 c3 c4 : Addr} {od odU o504 : Obj} {kA kB n7 n8 n9 n16 : Nat} {i1 i2 i3 i4 j1 j2 j3 j4 r1 r2 r3 r4 : Int} {t1 t2 t3 t4 u1 u2 u3 u4 v1 v2 v3 v4 : Nat} {q : Str} {pr2 pr4 : Arguments} {bd2 bd4 : Expr} {sc2 sc4 : Scope} {hd2 hd4 pm2 pm4 ctv2 ctv4 : Value} {ps : Array Value}
  (N : News h₀ L h led) (hnew : ∀ p ∈ news, p ∈ led) (hx1 : ∀ p ∈ news, @LT.lt Nat _ p.1 cdx) (hx2 : ∀ p ∈ news, p.1 ≠ 270 ∧ p.1 ≠ 504)
  (m1 : (cv, baseObj cdx ms mu kA kB) ∈ led) (m2 : (ms, msObj mdx) ∈ led) (m3 : (mdx, msDict i1 i2 i3 i4 t1 t2 t3 t4 (.ref 401) dd fd bm) ∈ led) (m4 : (bm, methodObj (.ref 194) (.ref ms)) ∈ led)
  (m5 : (fd, fdObj fdx) ∈ led) (m6 : (fdx, fdDict j1 j2 u1 u2 cv lst) ∈ led) (m7 : (lst, listOf #[.ref pc, .ref pa] n7) ∈ led)
  (m8 : (pc, tupObj #[.ref f4, hd4, .bool false, .bool false] n8) ∈ led) (m9 : (f4, kla_obj "<lambda>" q pr4 bd4 sc4 [] pm4 c4 ctv4) ∈ led)
  (m10 : (pa, tupObj #[.ref f2, hd2, .bool false, .bool false] n9) ∈ led) (m11 : (f2, kla_obj "<lambda>" q pr2 bd2 sc2 [] pm2 c2 ctv2) ∈ led)
  (m12 : (mu, msObj muX) ∈ led) (m13 : (muX, msDict r1 r2 r3 r4 v1 v2 v3 v4 (.ref 394) ddU fdU bmU) ∈ led) (m14 : (fdU, fdObj fdUx) ∈ led) (m15 : (fdUx, fdDict j3 j4 u3 u4 cv lstU) ∈ led) (m16 : (lstU, listOf #[.ref pU] n16) ∈ led)
  (m17 : (dd, od) ∈ led) (m18 : (ddU, odU) ∈ led) (m19 : (270, tabObj ps) ∈ led) (hps : ps = tri4 c1 c2 c3 c4) (m20 : (cdx, dictOf [] 0) ∈ led) (m21 : (504, o504) ∈ led)
  (hq : q = initQ) (e4 : (pr4, bd4, sc4) = pairLam 6) (e2 : (pr2, bd2, sc2) = pairLam 5)
  (hc : ∀ c ∈ [c1, c2, c3, c4], CodeIn led initQ c ∧ @Ne Nat c cv ∧ @Ne Nat c lst ∧ @Ne Nat c dd ∧ @Ne Nat c fdx ∧ @Ne Nat c ddU ∧ @Ne Nat c fdUx ∧ @Ne Nat c 270 ∧ @Ne Nat c 504)
  (lod : (dd == sysModules) = false) (lodU : (ddU == sysModules) = false)
  (o0 : @LT.lt Nat _ 270 cdx) (o00 : @LT.lt Nat _ 504 cdx) (o1 : @LT.lt Nat _ cdx cv) (o2 : @LT.lt Nat _ cv muX) (o3 : @LT.lt Nat _ muX mu) (o4 : @LT.lt Nat _ mu ddU) (o5 : @LT.lt Nat _ ddU fdUx) (o6 : @LT.lt Nat _ fdUx fdU) (o7 : @LT.lt Nat _ fdU lstU)
  (o8 : @LT.lt Nat _ lstU mdx) (o9 : @LT.lt Nat _ mdx ms) (o10 : @LT.lt Nat _ ms dd) (o11 : @LT.lt Nat _ dd fdx) (o12 : @LT.lt Nat _ fdx fd) (o13 : @LT.lt Nat _ fd lst) (o14 : @LT.lt Nat _ lst bm) (o15 : @LT.lt Nat _ lst f2) (o16 : @LT.lt Nat _ lst f4) (o17 : @LT.lt Nat _ lst pc) (o18 : @LT.lt Nat _ lst pa) :
  ∃ nd, News h₀ L h ((cv, baseObj cdx ms mu kA kB) :: (lst, listOf #[.ref pc, .ref pa] n7) :: (dd, od) :: (fdx, fdDict j1 j2 u1 u2 cv lst) :: (ddU, odU) :: (fdUx, fdDict j3 j4 u3 u4 cv lstU) :: (270, tabObj (tri4 c1 c2 c3 c4)) :: (504, o504) :: nd) ∧ (∀ p ∈ news, p ∈ nd) ∧
    BOut nd cv cdx mu muX ddU fdU fdUx lstU ms mdx dd fd fdx lst pc pa ∧ (∀ c ∈ [c1, c2, c3, c4], CodeIn nd initQ c) := by
  subst hq
  subst hps
  have hin : ∀ p ∈ led, (@Ne Nat p.1 cv ∧ @Ne Nat p.1 lst ∧ @Ne Nat p.1 dd ∧ @Ne Nat p.1 fdx ∧ @Ne Nat p.1 ddU ∧ @Ne Nat p.1 fdUx ∧ @Ne Nat p.1 270 ∧ @Ne Nat p.1 504) → p ∈ led.filter (fun p => decide (p.1 ≠ cv ∧ p.1 ≠ lst ∧ p.1 ≠ dd ∧ p.1 ≠ fdx ∧ p.1 ≠ ddU ∧ p.1 ≠ fdUx ∧ p.1 ≠ 270 ∧ p.1 ≠ 504)) := fun p hp h => List.mem_filter.mpr ⟨hp, decide_eq_true h⟩
  have hc' : ∀ c ∈ [c1, c2, c3, c4], CodeIn (led.filter (fun p => decide (p.1 ≠ cv ∧ p.1 ≠ lst ∧ p.1 ≠ dd ∧ p.1 ≠ fdx ∧ p.1 ≠ ddU ∧ p.1 ≠ fdUx ∧ p.1 ≠ 270 ∧ p.1 ≠ 504))) initQ c := fun c hcm => by
    obtain ⟨⟨oc, vs, t, h1, h2, h3⟩, h4⟩ := hc c hcm
    exact ⟨oc, vs, t, hin _ h1 h4, h2, h3⟩
  refine ⟨led.filter (fun p => decide (p.1 ≠ cv ∧ p.1 ≠ lst ∧ p.1 ≠ dd ∧ p.1 ≠ fdx ∧ p.1 ≠ ddU ∧ p.1 ≠ fdUx ∧ p.1 ≠ 270 ∧ p.1 ≠ 504)), fun p hp => ?_, fun p hp => ?_, ?_, hc'⟩
  · have sw : ∀ {x : Addr × Obj} {l : List (Addr × Obj)}, x ∈ led → (p ∈ l → p ∈ led) → p ∈ x :: l → p ∈ led := fun hx hl hp => (List.mem_cons.mp hp).elim (fun e => e ▸ hx) hl
    exact N p (sw m1 (sw m7 (sw m17 (sw m6 (sw m18 (sw m15 (sw m19 (sw m21 fun h => (List.mem_filter.mp h).1))))))) hp)
  · have h1 := hx1 p hp
    have h2 := hx2 p hp
    refine hin p (hnew p hp) ⟨?_, ?_, ?_, ?_, ?_, ?_, h2⟩ <;> omega
  · refine ⟨hin _ m20 (by dsimp only; omega), hin _ m2 (by dsimp only; omega), ⟨bm, i1, i2, i3, i4, t1, t2, t3, t4, hin _ m3 (by dsimp only; omega), hin _ m4 (by dsimp only; omega)⟩, hin _ m5 (by dsimp only; omega), hin _ m12 (by dsimp only; omega), ⟨bmU, r1, r2, r3, r4, v1, v2, v3, v4, hin _ m13 (by dsimp only; omega)⟩, hin _ m14 (by dsimp only; omega), ⟨pU, n16, hin _ m16 (by dsimp only; omega)⟩, ?_, ?_, fun p hp => of_decide_eq_true (List.mem_filter.mp hp).2, o0, o00, o1, by omega, o5, by omega, o11, by omega, lod, lodU⟩
    · obtain ⟨oc, vs, t, h1, h2, h3⟩ := hc' c4 (.tail _ (.tail _ (.tail _ (.head _))))
      refine ⟨f4, c4, pm4, ctv4, hd4, oc, vs, n8, t, hin _ m8 (by dsimp only; omega), ?_, h1, h2, h3⟩
      have e : kla_obj "<lambda>" initQ pr4 bd4 sc4 [] pm4 c4 ctv4 = initFn 6 pm4 c4 ctv4 := by
        unfold initFn
        rw [← e4]
      rw [← e]
      exact hin _ m9 (by dsimp only; omega)
    · obtain ⟨oc, vs, t, h1, h2, h3⟩ := hc' c2 (.tail _ (.head _))
      refine ⟨f2, c2, pm2, ctv2, hd2, oc, vs, n9, t, hin _ m10 (by dsimp only; omega), ?_, h1, h2, h3⟩
      have e : kla_obj "<lambda>" initQ pr2 bd2 sc2 [] pm2 c2 ctv2 = initFn 5 pm2 c2 ctv2 := by
        unfold initFn
        rw [← e2]
      rw [← e]
      exact hin _ m11 (by dsimp only; omega)
end Mine
namespace Mine
open PySem PySem.W PyProof.Rows PySem.Calls
set_option maxHeartbeats 4000000
def Stop2 (p : Prop) : Prop := p
theorem stopT2 {p : Prop} (h : Stop2 p) : p := h
end Mine
local macro_rules | `(tactic| k_all) => `(tactic| (refine' ne_up ?h ?_; (case h => with_reducible assumption); omega))
namespace Mine
open PySem PySem.W PyProof.Rows PySem.Calls
set_option maxHeartbeats 4000000
local macro_rules | `(tactic| k_all) => `(tactic| (refine' ne_up ?h ?_; (case h => with_reducible assumption); omega))
section
variable {prog : Program} {w : World} {A : Around} {E : Value → Shared → Prop} {s : Shared} {K : Frag} {h₀ : Heap} {L x C p : Addr} {m : Str → Option Value} {ox od : Obj} {name : Str} {expr : Bool} {Q : Value → Shared → Prop} {fv : Value} {rest : List Value}
theorem get_static0 (F : Fr h₀ L s.heap m) (X₀ : K.In h₀) (I : InstAt s.heap x ox C (some od)) (hg : plainGet K C name = true) (hh : noDictIn K C = true) (ha : findIn K (.ref C) name = some (some (.ref p))) 
    (hgf : specialIn K (.ref p) "__get__" = some (some (.builtin "staticmethod.__get__"))) (ht : takesIn K (.ref p) = some false) (hc : copiedNames.contains name = false) (hp : recIn K p "staticmethod" = some (fv :: rest)) (hv : handedIn fv = true)
    (h : Q fv { s with toks := s.toks + 1 }) : wpAny (model prog w) A (getAttr (.ref x) name expr) Q E s :=
  get_bind (X₀.keeps F.keep) I (plainGet_of hg).1 (findObj_fn0 hh ha hgf ht hc) (plainGet_of hg).2
    (wpAny_call (sm_get (s := { s with toks := s.toks + 1 }) (X₀.keeps F.keep) hp (handed_on hv h)))
end
theorem upHd {d : Addr} {o : Obj} {X : List (Addr × Obj)} (h : ∀ q ∈ X, q.1 ≠ d) : @LE.le Nat _ d d ∧ UpdF d o ((d, o) :: X) (fun y => (d, y) :: X) := ⟨Nat.le_refl _, .head h⟩
theorem upUp {d a b : Addr} {o o' o'' : Obj} {X : List (Addr × Obj)} {g : Obj → List (Addr × Obj)} (hab : @LT.lt Nat _ b a) (w : @LE.le Nat _ d b ∧ UpdF d o ((b, o') :: X) g) : @LE.le Nat _ d a ∧ UpdF d o ((a, o'') :: (b, o') :: X) (fun y => (a, o'') :: g y) :=
  ⟨Nat.le_of_lt (Nat.lt_of_le_of_lt w.1 hab), .tail (Nat.ne_of_gt (Nat.lt_of_le_of_lt w.1 hab)) w.2⟩
theorem ltUp {a b : Addr} {o : Obj} {X : List (Addr × Obj)} (hab : @LT.lt Nat _ b a) (w : ∀ q ∈ X, @LT.lt Nat _ q.1 b) : ∀ q ∈ (b, o) :: X, @LT.lt Nat _ q.1 a := fun q hq => by
  rcases List.mem_cons.mp hq with rfl | hq
  · exact hab
  · exact Nat.lt_trans (w q hq) hab
theorem ltBase {c x y : Addr} {o o' : Obj} {X : List (Addr × Obj)} (h1 : @LT.lt Nat _ x c) (h2 : @LT.lt Nat _ y c) (h3 : ∀ q ∈ X, @LT.lt Nat _ q.1 c) : ∀ q ∈ (x, o) :: (y, o') :: X, @LT.lt Nat _ q.1 c := fun q hq => by
  rcases List.mem_cons.mp hq with rfl | hq
  · exact h1
  · rcases List.mem_cons.mp hq with rfl | hq
    · exact h2
    · exact h3 q hq
theorem vpHd {d : Addr} {o o' : Obj} {X : List (Addr × Obj)} (h : ∀ q ∈ X, q.1 ≠ d) : @LE.le Nat _ d d ∧ Upd d o o' ((d, o) :: X) ((d, o') :: X) := ⟨Nat.le_refl _, .head h⟩
theorem vpUp {d a b : Addr} {o o' o1 o2 : Obj} {X X' : List (Addr × Obj)} (hab : @LT.lt Nat _ b a) (w : @LE.le Nat _ d b ∧ Upd d o o' ((b, o1) :: X) X') : @LE.le Nat _ d a ∧ Upd d o o' ((a, o2) :: (b, o1) :: X) ((a, o2) :: X') :=
  ⟨Nat.le_of_lt (Nat.lt_of_le_of_lt w.1 hab), .tail (Nat.ne_of_gt (Nat.lt_of_le_of_lt w.1 hab)) w.2⟩
theorem ltNe {d : Addr} {X : List (Addr × Obj)} (w : ∀ q ∈ X, @LT.lt Nat _ q.1 d) : ∀ q ∈ X, q.1 ≠ d := fun q hq => Nat.ne_of_lt (w q hq)
local macro_rules | `(tactic| k_lt $h:ident) => `(tactic| (k_dflt (replace $h := And.left (allLt_of $h)); (try dsimp only at $h:ident)))
local macro_rules | `(tactic| walk_at "getAttr ref") => `(tactic| (k_here; (with_reducible show wpAny _ _ (getAttr (Value.ref _) (PySem.Str.ofString "_structure_call") _) _ _ _); k_dflt (refine' get_static0 ?k1 ?k2 ?k4 ?k5 ?k6 ?k7 ?k8 ?k9 ?k11 ?k13 ?k14 ?_; (case k1 => k_asm); (case k2 => k_asm); (case k4 => k_inst); (case k7 => k_is); (case k5 => k_is); (case k6 => first | k_is | exact rfl);  (case k8 => k_is); (case k9 => k_is); (case k11 => decide +kernel); (case k13 => k_is); (case k14 => k_handed); k_whole)))
local macro_rules | `(tactic| walk_at "call ref") => `(tactic| (refine stopT2 ?_))
local macro_rules | `(tactic| walk_at "call ref") => `(tactic| (k_here; k_dflt (refine wpAny_call ?_; (refine' code_def ?k1 ?k2 ?k3 ?k4 ?k5 ?kA ?kF ?kK ?k6 ?k7 ?k8 ?k9 ?kB ?_ ?c2 ?c3 ?c4 ?c5; (case k3 => k_asm); (case k6 => k_is); (case kA => exact rfl); (case kF => exact rfl); (case kK => first | assumption | exact rfl); (case k2 => k_asm); (case k1 => k_asm); (case k4 => k_asm); (case k5 => k_asm); (case k7 => k_is); (case k8 => k_room); (case k9 => first | exact BindsTo.of_eq rfl | exact binds_K (by k_in) rfl (by k_is) rfl rfl rfl); (case c5 => decide); (case kB => exact locs rfl); (case c2 => exact rfl); (case c3 => exact rfl); (case c4 => exact rfl); k_whole; intro g' L' h' FG' F' N' B' X' T'; (conv at F' => enter [4, y, 2]; whnf); (try dsimp only); (try k_lift B'); (try k_fold)))))
local macro_rules | `(tactic| walk_at "call ref") => `(tactic| (k_here; (with_reducible show wpAny _ _ (call (Value.ref 209) _) _ _ _); refine stopT2 ?_))
local macro_rules | `(tactic| walk_at "call ref") => `(tactic| (k_here; (with_reducible show wpAny _ _ (call (Value.ref 241) [_, Value.ref _]) _ _ _); k_dflt (refine' msd_new ?B ?F ?X ?N ?T ?hk ?hd ?hu ?hf ?_; (case B => assumption); (case F => k_asm); (case X => assumption); (case N => k_asm); (case T => assumption); (case hk => first | exact rfl | assumption); (case hd => ktr_room); (case hu => ktr_units); (case hf => first | rfl | assumption)); (intro bm lst fd fdx dd od ms mdx i1 i2 i3 i4 j1 j2 t1 t2 t3 t4 u1 u2 h' tk' F' N' hod' hfl' lod' l0 l1 l2 l3 l4 l5 l6); (try dsimp only [List.nil_append, List.cons_append] at N'); (try k_lt l0); (try k_sweep)))
local macro_rules | `(tactic| walk_at "call ref") => `(tactic| (k_here; (with_reducible show wpAny _ _ (call (Value.ref 209) [Value.ref _, Value.ref _]) _ _ _); k_dflt (refine' rfl2U ?B ?F ?X ?N ?T ?hk ?hd ?hu ?m1 ?m2 ?m3 ?m4 ?m5 ?m6 ?U1 ?U2 ?od ?lod ?hlt ?q1 ?q2 ?q3 ?q4 ?q5 ?q6 ?hvs ?_; (case B => assumption); (case F => k_asm); (case X => assumption); (case N => k_asm); (case T => assumption); (case hk => first | exact rfl | assumption); (case hd => ktr_room); (case hu => ktr_units); (case m1 => k_mem); (case m2 => k_mem); (case m3 => k_mem); (case m4 => k_mem); (case m5 => k_mem); (case m6 => k_mem); (case U1 => k_updF); (case U2 => (intro o'; k_updF)); (case od => assumption); (case lod => assumption); (case hlt => omega); (case q1 => (constructor <;> omega)); (case q2 => (constructor <;> omega)); (case q3 => (constructor <;> omega)); (case q4 => (constructor <;> omega)); (case q5 => (constructor <;> omega)); (case q6 => (constructor <;> omega)); (case hvs => exact Nat.le_of_ble_eq_true rfl)); (intro p n3 od' h' tk' F' N' hod' l0); (try dsimp only [List.nil_append, List.cons_append] at N'); (try k_lt l0); (try k_sweep)))
section
variable {prog : Program} {w : World} {A : Around} {E : Value → Shared → Prop} {s : Shared} {h₀ : Heap} {L : Addr} {news : List (Addr × Obj)}
theorem my_len {D : Addr} {its : Array Value} {c : Nat} {Q : Value → Shared → Prop} (n : Nat) (z : Int) (hz : (n : Int) = z) (hn : n < 100) (N : News h₀ L s.heap news) (hm : (D, listOf its c) ∈ news) (hs : its.size = n) (h : Q (.int z (s.toks + 1)) { s with toks := s.toks + 1 + 1 }) :
    wpAny (model prog w) A (call (.builtin "len") [.ref D]) Q E s := by
  subst hz
  exact PySem.W.KM.len_K N hm hs (by omega) h
end
end Mine
local macro_rules | `(tactic| walk_at "call builtin:len") => `(tactic| (k_here; (with_reducible show wpAny _ _ (call (Value.builtin "len") [Value.ref _]) _ _ _); k_dflt (refine' my_len ?n ?z ?hz ?hn ?N ?m ?hs ?_; (case N => k_asm); (case m => k_mem); (first | (case n => exact 1); (case hs => exact rfl); (case z => exact 1) | (case n => exact 2); (case hs => exact rfl); (case z => exact 2) | (case n => exact 3); (case hs => exact rfl); (case z => exact 3) | (case n => exact 6); (case hs => exact rfl); (case z => exact 6) | (case n => exact 7); (case hs => exact rfl); (case z => exact 7)); (case hz => exact rfl); (case hn => omega))))
namespace Mine
open PySem PySem.W PyProof.Rows PySem.Calls
set_option maxHeartbeats 4000000
local macro_rules | `(tactic| k_all) => `(tactic| (refine' ne_up ?h ?_; (case h => with_reducible assumption); omega))
local macro_rules | `(tactic| k_lt $h:ident) => `(tactic| (k_dflt (replace $h := And.left (allLt_of $h)); (try dsimp only at $h:ident)))
local macro_rules | `(tactic| walk_at "getAttr ref") => `(tactic| (k_here; (with_reducible show wpAny _ _ (getAttr (Value.ref _) (PySem.Str.ofString "_structure_call") _) _ _ _); k_dflt (refine' get_static0 ?k1 ?k2 ?k4 ?k5 ?k6 ?k7 ?k8 ?k9 ?k11 ?k13 ?k14 ?_; (case k1 => k_asm); (case k2 => k_asm); (case k4 => k_inst); (case k7 => k_is); (case k5 => k_is); (case k6 => first | k_is | exact rfl);  (case k8 => k_is); (case k9 => k_is); (case k11 => decide +kernel); (case k13 => k_is); (case k14 => k_handed); k_whole)))
local macro_rules | `(tactic| walk_at "call ref") => `(tactic| (refine stopT2 ?_))
local macro_rules | `(tactic| walk_at "call ref") => `(tactic| (k_here; k_dflt (refine wpAny_call ?_; (refine' code_def ?k1 ?k2 ?k3 ?k4 ?k5 ?kA ?kF ?kK ?k6 ?k7 ?k8 ?k9 ?kB ?_ ?c2 ?c3 ?c4 ?c5; (case k3 => k_asm); (case k6 => k_is); (case kA => exact rfl); (case kF => exact rfl); (case kK => first | assumption | exact rfl); (case k2 => k_asm); (case k1 => k_asm); (case k4 => k_asm); (case k5 => k_asm); (case k7 => k_is); (case k8 => k_room); (case k9 => first | exact BindsTo.of_eq rfl | exact binds_K (by k_in) rfl (by k_is) rfl rfl rfl); (case c5 => decide); (case kB => exact locs rfl); (case c2 => exact rfl); (case c3 => exact rfl); (case c4 => exact rfl); k_whole; intro g' L' h' FG' F' N' B' X' T'; (conv at F' => enter [4, y, 2]; whnf); (try dsimp only); (try k_lift B'); (try k_fold)))))
local macro_rules | `(tactic| walk_at "call ref") => `(tactic| (k_here; (with_reducible show wpAny _ _ (call (Value.ref 209) _) _ _ _); refine stopT2 ?_))
local macro_rules | `(tactic| walk_at "call ref") => `(tactic| (k_here; (with_reducible show wpAny _ _ (call (Value.ref 241) [_, Value.ref _]) _ _ _); k_dflt (refine' msd_new ?B ?F ?X ?N ?T ?hk ?hd ?hu ?hf ?_; (case B => assumption); (case F => k_asm); (case X => assumption); (case N => k_asm); (case T => assumption); (case hk => first | exact rfl | assumption); (case hd => ktr_room); (case hu => ktr_units); (case hf => first | rfl | assumption)); (intro bm lst fd fdx dd od ms mdx i1 i2 i3 i4 j1 j2 t1 t2 t3 t4 u1 u2 h' tk' F' N' hod' hfl' lod' l0 l1 l2 l3 l4 l5 l6); (try dsimp only [List.nil_append, List.cons_append] at N'); (try k_lt l0); (try k_sweep)))
local macro_rules | `(tactic| walk_at "call ref") => `(tactic| (k_here; (with_reducible show wpAny _ _ (call (Value.ref 209) [Value.ref _, Value.ref _]) _ _ _); k_dflt (refine' rfl2U ?B ?F ?X ?N ?T ?hk ?hd ?hu ?m1 ?m2 ?m3 ?m4 ?m5 ?m6 ?U1 ?U2 ?od ?lod ?hlt ?q1 ?q2 ?q3 ?q4 ?q5 ?q6 ?hvs ?_; (case B => assumption); (case F => k_asm); (case X => assumption); (case N => k_asm); (case T => assumption); (case hk => first | exact rfl | assumption); (case hd => ktr_room); (case hu => ktr_units); (case m1 => k_mem); (case m2 => k_mem); (case m3 => k_mem); (case m4 => k_mem); (case m5 => k_mem); (case m6 => k_mem); (case U1 => k_updF); (case U2 => (intro o'; k_updF)); (case od => assumption); (case lod => assumption); (case hlt => omega); (case q1 => (constructor <;> omega)); (case q2 => (constructor <;> omega)); (case q3 => (constructor <;> omega)); (case q4 => (constructor <;> omega)); (case q5 => (constructor <;> omega)); (case q6 => (constructor <;> omega)); (case hvs => exact Nat.le_of_ble_eq_true rfl)); (intro p n3 od' h' tk' F' N' hod' l0); (try dsimp only [List.nil_append, List.cons_append] at N'); (try k_lt l0); (try k_sweep)))
local macro_rules | `(tactic| walk_at "call builtin:len") => `(tactic| (k_here; (with_reducible show wpAny _ _ (call (Value.builtin "len") [Value.ref _]) _ _ _); k_dflt (refine' my_len ?n ?z ?hz ?hn ?N ?m ?hs ?_; (case N => k_asm); (case m => k_mem); (first | (case n => exact 1); (case hs => exact rfl); (case z => exact 1) | (case n => exact 2); (case hs => exact rfl); (case z => exact 2) | (case n => exact 3); (case hs => exact rfl); (case z => exact 3) | (case n => exact 6); (case hs => exact rfl); (case z => exact 6) | (case n => exact 7); (case hs => exact rfl); (case z => exact 7)); (case hz => exact rfl); (case hn => omega))))
local macro_rules | `(tactic| walk_at "ltAll") => `(tactic| first
  | (refine' ltBase ?h1 ?h2 ?h3; (case h1 => with_reducible assumption); (case h2 => with_reducible assumption); (case h3 => with_reducible assumption))
  | (refine' ltUp ?h ?w; (case h => with_reducible assumption); (case w => walk_at "ltAll")))
local macro_rules | `(tactic| walk_at "updW") => `(tactic| first
  | (refine' upUp ?h ?w; (case h => with_reducible assumption); (case w => walk_at "updW"))
  | (refine' upHd ?h; (case h => first | (refine' ltNe ?w; (case w => walk_at "ltAll")) | k_all)))
local macro_rules | `(tactic| k_updF) => `(tactic| (refine' And.right (?w : @LE.le Nat _ _ _ ∧ UpdF _ _ _ _); (case w => walk_at "updW")))
local macro_rules | `(tactic| walk_at "updV") => `(tactic| first
  | (refine' vpUp ?h ?w; (case h => with_reducible assumption); (case w => walk_at "updV"))
  | (refine' vpHd ?h; (case h => first | (refine' ltNe ?w; (case w => walk_at "ltAll")) | k_all)))
local macro_rules | `(tactic| k_upd) => `(tactic| (refine' And.right (?w : @LE.le Nat _ _ _ ∧ Upd _ _ _ _ _); (case w => walk_at "updV")))
local macro_rules | `(tactic| walk_at "getAttr ref") => `(tactic| (k_here; k_dflt (first
  | (refine' get_own ?k1 ?k2 ?k3 ?k4 ?k5 ?k6 ?k7 ?k8 ?k9 ?_; (case k1 => k_asm); (case k2 => k_asm); (case k3 => k_inst); (case k4 => k_is); (case k5 => k_is); (case k6 => k_is); (case k7 => k_is); (case k8 => k_get); (case k9 => k_handed); k_whole)
  | (refine' get_slot ?k1 ?k2 ?k3 ?k4 ?k5 ?k6 ?k7 ?k8 ?k9 ?k10 ?k11 ?_; (case k1 => k_asm); (case k2 => k_asm); (case k3 => k_inst); (case k4 => k_is); (case k5 => k_is); (case k6 => k_is); (case k7 => k_is); (case k8 => k_is); (case k9 => k_is); (case k10 => k_slotget); (case k11 => k_handed); k_whole))))
local macro_rules | `(tactic| walk_at "setAttr ref") => `(tactic| (k_here; k_dflt (refine' set_slot ?k1 ?k2 ?k3 ?k4 ?k5 ?k6 ?k7 ?k8 ?k9 ?k10 ?k11 ?k12 ?k13 ?_; (case k1 => k_asm); (case k2 => k_asm); (case k3 => k_asm); (case k4 => k_inst); (case k5 => k_is); (case k6 => k_is); (case k7 => k_is); (case k8 => k_is); (case k9 => k_is); (case k10 => decide); (case k11 => k_slotset); (case k12 => exact rfl); (case k13 => k_upd); k_whole; intro h' F' N'; (try k_sweep))))
theorem base_init0 {w : World} {mean : ExcName → Option Value} {mg mb : Str → Option Value} {dp un : Nat} {gd : Option (List Code)} {cn : Str} {cs : Scope} {a : Addr} {ccd : Value} {cl : List (Str × Addr)} {outer : List Env} {A₀ : Around} {base h₀ : Heap} {L : Addr} {m : Str → Option Value} {s : Shared} {R : Result → Shared → Prop} {news : List (Addr × Obj)} {o504 : Obj} {cv cdx : Addr}
  (B : Below A₀ base outer h₀) (F : Fr h₀ L s.heap m) (X : (Mine.hd.heap_39 w.params).In h₀) (N : News h₀ L s.heap ((cv, instObj 453 cdx) :: (cdx, dictOf [] 0) :: (270, tabObj #[]) :: (504, o504) :: news)) (T : Top topProg LO mean mg mb h₀) (hk : cs.kind = .function) (hdp : dp + 60 < recursionLimit) (hun : un + 600 < cLine)
  (hc1 : CodeHd base 274 270) (hlt : @LT.lt Nat _ cdx cv) (h270 : @LT.lt Nat _ 270 cdx) (h504 : @LT.lt Nat _ 504 cdx) (hx1 : ∀ p ∈ news, @LT.lt Nat _ p.1 cdx) (hx2 : ∀ p ∈ news, p.1 ≠ 270 ∧ p.1 ≠ 504)
  (hret : ∀ mu muX ddU fdU fdUx lstU ms mdx dd fd fdx lst pc pa c1 c2 c3 c4 od odU kA kB n7 j1 j2 u1 u2 j3 j4 u3 u4 nd h' tk', Fr h₀ L h' m →
    News h₀ L h' ((cv, baseObj cdx ms mu kA kB) :: (lst, listOf #[.ref pc, .ref pa] n7) :: (dd, od) :: (fdx, fdDict j1 j2 u1 u2 cv lst) :: (ddU, odU) :: (fdUx, fdDict j3 j4 u3 u4 cv lstU) :: (270, tabObj (tri4 c1 c2 c3 c4)) :: (504, o504) :: nd) →
    od.IsDictOf (PySem.strKind PySem.Challenge.rw_fq0010_01.row.prog w) [] → odU.IsDictOf (PySem.strKind PySem.Challenge.rw_fq0010_01.row.prog w) [] → (∀ p ∈ news, p ∈ nd) → BOut nd cv cdx mu muX ddU fdU fdUx lstU ms mdx dd fd fdx lst pc pa → (∀ c ∈ [c1, c2, c3, c4], CodeIn nd initQ c) →
    R (.ok (.ret .none)) { s with heap := h', toks := tk' }) :
  codeAny (model PySem.Challenge.rw_fq0010_01.row.prog w) (ktrTop dp un gd cn cs L a ccd cl outer) (.call (.ref 275) ⟨[.ref cv], [(Str.ofString "prefer_attrib_converters", .bool false), (Str.ofString "detailed_validation", .bool true), (Str.ofString "unstructure_fallback_factory", .ref 394), (Str.ofString "structure_fallback_factory", .ref 401)]⟩) R s := by
  have hx2a : ∀ p ∈ news, p.1 ≠ 270 := fun p hp => (hx2 p hp).1
  (try refine wpAny_call ?_)
  k_dflt (refine' code_def ?k1 ?k2 ?k3 ?k4 ?k5 ?kA ?kF ?kK ?k6 ?k7 ?k8 ?k9 ?kB ?_ ?c2 ?c3 ?c4 ?c5; (case kA => exact rfl); (case kF => exact rfl); (case kK => assumption); (case k1 => k_asm); (case k2 => k_asm); (case k3 => k_asm); (case k4 => k_asm); (case k5 => k_asm); (case k6 => k_is); (case k7 => k_is); (case k8 => ktr_room); (case k9 => first | exact BindsTo.of_eq rfl | exact binds_K (by k_in) rfl (by k_is) rfl rfl rfl); (case c5 => decide); (case kB => exact locs rfl); (case c2 => exact rfl); (case c3 => exact rfl); (case c4 => exact rfl); k_whole; intro g' L' h' FG' F' N' B' X' T'; (conv at F' => enter [4, y, 2]; whnf); (try dsimp only); (try k_fold))
  k_steps
  (rename News _ _ _ _ => N9)
  (rename Fr _ _ _ _ => F9)
  refine' Exists.elim (base_out (news := news) N9 ?new hx1 hx2 ?m1 ?m2 ?m3 ?m4 ?m5 ?m6 ?m7 ?m8 ?m9 ?m10 ?m11 ?m12 ?m13 ?m14 ?m15 ?m16 ?m17 ?m18 ?m19 ?hps ?m20 ?m21 ?hq ?e4 ?e2 ?hc ?lod ?lodU ?o0 ?o00 ?o1 ?o2 ?o3 ?o4 ?o5 ?o6 ?o7 ?o8 ?o9 ?o10 ?o11 ?o12 ?o13 ?o14 ?o15 ?o16 ?o17 ?o18) ?fin
  case m1 => k_mem
  case m2 => k_mem
  case m3 => k_mem
  case m4 => k_mem
  case m5 => k_mem
  case m6 => k_mem
  case m7 => k_mem
  case m8 => k_mem
  case m9 => k_mem
  case m10 => k_mem
  case m11 => k_mem
  case m12 => k_mem
  case m13 => k_mem
  case m14 => k_mem
  case m15 => k_mem
  case m16 => k_mem
  case m17 => k_mem
  case m18 => k_mem
  case m19 => k_mem
  case m20 => k_mem
  case m21 => k_mem
  case hps => (simp only [List.append_toArray, List.cons_append, List.nil_append]; exact rfl)
  case new => (intro p hp; (repeat first | (with_reducible exact hp) | (with_reducible refine List.mem_cons_of_mem _ ?_)))
  case hq => exact rfl
  case e4 => exact rfl
  case e2 => exact rfl
  case lod => assumption
  case lodU => assumption
  case o0 => first | with_reducible assumption | omega
  case o00 => first | with_reducible assumption | omega
  case o1 => first | with_reducible assumption | omega
  case o2 => first | with_reducible assumption | omega
  case o3 => first | with_reducible assumption | omega
  case o4 => first | with_reducible assumption | omega
  case o5 => first | with_reducible assumption | omega
  case o6 => first | with_reducible assumption | omega
  case o7 => first | with_reducible assumption | omega
  case o8 => first | with_reducible assumption | omega
  case o9 => first | with_reducible assumption | omega
  case o10 => first | with_reducible assumption | omega
  case o11 => first | with_reducible assumption | omega
  case o12 => first | with_reducible assumption | omega
  case o13 => first | with_reducible assumption | omega
  case o14 => first | with_reducible assumption | omega
  case o15 => first | with_reducible assumption | omega
  case o16 => first | with_reducible assumption | omega
  case o17 => first | with_reducible assumption | omega
  case o18 => first | with_reducible assumption | omega
  case hc =>
    refine List.forall_mem_cons.mpr ⟨⟨⟨_, _, _, by k_mem, by assumption, by assumption⟩, ?_⟩, List.forall_mem_cons.mpr ⟨⟨⟨_, _, _, by k_mem, by assumption, by assumption⟩, ?_⟩, List.forall_mem_cons.mpr ⟨⟨⟨_, _, _, by k_mem, by assumption, by assumption⟩, ?_⟩, List.forall_mem_cons.mpr ⟨⟨⟨_, _, _, by k_mem, by assumption, by assumption⟩, ?_⟩, fun c hc => nomatch hc⟩⟩⟩⟩
    all_goals (refine ⟨?_, ?_, ?_, ?_, ?_, ?_, ?_, ?_⟩ <;> omega)
  case fin =>
    rintro nd ⟨Nn, hnn, hb, hcc⟩
    exact hret _ _ _ _ _ _ _ _ _ _ _ _ _ _ _ _ _ _ _ _ _ _ _ _ _ _ _ _ _ _ _ nd _ _ F9 Nn (by assumption) (by assumption) hnn hb hcc
end Mine
namespace Mine
open PySem PySem.W PyProof.Rows PySem.Calls
set_option maxHeartbeats 4000000
end Mine
local macro_rules | `(tactic| k_all) => `(tactic| (refine' ne_up ?h ?_; (case h => with_reducible assumption); omega))
namespace Mine
open PySem PySem.W PyProof.Rows PySem.Calls
set_option maxHeartbeats 4000000
local macro_rules | `(tactic| k_all) => `(tactic| (refine' ne_up ?h ?_; (case h => with_reducible assumption); omega))
local macro_rules | `(tactic| k_lt $h:ident) => `(tactic| (k_dflt (replace $h := And.left (allLt_of $h)); (try dsimp only at $h:ident)))
local macro_rules | `(tactic| walk_at "getAttr ref") => `(tactic| (k_here; (with_reducible show wpAny _ _ (getAttr (Value.ref _) (PySem.Str.ofString "_structure_call") _) _ _ _); k_dflt (refine' get_static0 ?k1 ?k2 ?k4 ?k5 ?k6 ?k7 ?k8 ?k9 ?k11 ?k13 ?k14 ?_; (case k1 => k_asm); (case k2 => k_asm); (case k4 => k_inst); (case k7 => k_is); (case k5 => k_is); (case k6 => first | k_is | exact rfl);  (case k8 => k_is); (case k9 => k_is); (case k11 => decide +kernel); (case k13 => k_is); (case k14 => k_handed); k_whole)))
local macro_rules | `(tactic| walk_at "call ref") => `(tactic| (refine stopT2 ?_))
local macro_rules | `(tactic| walk_at "call ref") => `(tactic| (k_here; k_dflt (refine wpAny_call ?_; (refine' code_def ?k1 ?k2 ?k3 ?k4 ?k5 ?kA ?kF ?kK ?k6 ?k7 ?k8 ?k9 ?kB ?_ ?c2 ?c3 ?c4 ?c5; (case k3 => k_asm); (case k6 => k_is); (case kA => exact rfl); (case kF => exact rfl); (case kK => first | assumption | exact rfl); (case k2 => k_asm); (case k1 => k_asm); (case k4 => k_asm); (case k5 => k_asm); (case k7 => k_is); (case k8 => k_room); (case k9 => first | exact BindsTo.of_eq rfl | exact binds_K (by k_in) rfl (by k_is) rfl rfl rfl); (case c5 => decide); (case kB => exact locs rfl); (case c2 => exact rfl); (case c3 => exact rfl); (case c4 => exact rfl); k_whole; intro g' L' h' FG' F' N' B' X' T'; (conv at F' => enter [4, y, 2]; whnf); (try dsimp only); (try k_lift B'); (try k_fold)))))
local macro_rules | `(tactic| walk_at "call ref") => `(tactic| (k_here; (with_reducible show wpAny _ _ (call (Value.ref 209) _) _ _ _); refine stopT2 ?_))
local macro_rules | `(tactic| walk_at "call ref") => `(tactic| (k_here; (with_reducible show wpAny _ _ (call (Value.ref 241) [_, Value.ref _]) _ _ _); k_dflt (refine' msd_new ?B ?F ?X ?N ?T ?hk ?hd ?hu ?hf ?_; (case B => assumption); (case F => k_asm); (case X => assumption); (case N => k_asm); (case T => assumption); (case hk => first | exact rfl | assumption); (case hd => ktr_room); (case hu => ktr_units); (case hf => first | rfl | assumption)); (intro bm lst fd fdx dd od ms mdx i1 i2 i3 i4 j1 j2 t1 t2 t3 t4 u1 u2 h' tk' F' N' hod' hfl' lod' l0 l1 l2 l3 l4 l5 l6); (try dsimp only [List.nil_append, List.cons_append] at N'); (try k_lt l0); (try k_sweep)))
local macro_rules | `(tactic| walk_at "call ref") => `(tactic| (k_here; (with_reducible show wpAny _ _ (call (Value.ref 209) [Value.ref _, Value.ref _]) _ _ _); k_dflt (refine' rfl2U ?B ?F ?X ?N ?T ?hk ?hd ?hu ?m1 ?m2 ?m3 ?m4 ?m5 ?m6 ?U1 ?U2 ?od ?lod ?hlt ?q1 ?q2 ?q3 ?q4 ?q5 ?q6 ?hvs ?_; (case B => assumption); (case F => k_asm); (case X => assumption); (case N => k_asm); (case T => assumption); (case hk => first | exact rfl | assumption); (case hd => ktr_room); (case hu => ktr_units); (case m1 => k_mem); (case m2 => k_mem); (case m3 => k_mem); (case m4 => k_mem); (case m5 => k_mem); (case m6 => k_mem); (case U1 => k_updF); (case U2 => (intro o'; k_updF)); (case od => assumption); (case lod => assumption); (case hlt => omega); (case q1 => (constructor <;> omega)); (case q2 => (constructor <;> omega)); (case q3 => (constructor <;> omega)); (case q4 => (constructor <;> omega)); (case q5 => (constructor <;> omega)); (case q6 => (constructor <;> omega)); (case hvs => exact Nat.le_of_ble_eq_true rfl)); (intro p n3 od' h' tk' F' N' hod' l0); (try dsimp only [List.nil_append, List.cons_append] at N'); (try k_lt l0); (try k_sweep)))
end Mine
local macro_rules | `(tactic| walk_at "call builtin:len") => `(tactic| (k_here; (with_reducible show wpAny _ _ (call (Value.builtin "len") [Value.ref _]) _ _ _); k_dflt (refine' my_len ?n ?z ?hz ?hn ?N ?m ?hs ?_; (case N => k_asm); (case m => k_mem); (first | (case n => exact 1); (case hs => exact rfl); (case z => exact 1) | (case n => exact 2); (case hs => exact rfl); (case z => exact 2) | (case n => exact 3); (case hs => exact rfl); (case z => exact 3) | (case n => exact 6); (case hs => exact rfl); (case z => exact 6) | (case n => exact 7); (case hs => exact rfl); (case z => exact 7)); (case hz => exact rfl); (case hn => omega))))
namespace Mine
open PySem PySem.W PyProof.Rows PySem.Calls
set_option maxHeartbeats 4000000
local macro_rules | `(tactic| k_all) => `(tactic| (refine' ne_up ?h ?_; (case h => with_reducible assumption); omega))
local macro_rules | `(tactic| k_lt $h:ident) => `(tactic| (k_dflt (replace $h := And.left (allLt_of $h)); (try dsimp only at $h:ident)))
local macro_rules | `(tactic| walk_at "getAttr ref") => `(tactic| (k_here; (with_reducible show wpAny _ _ (getAttr (Value.ref _) (PySem.Str.ofString "_structure_call") _) _ _ _); k_dflt (refine' get_static0 ?k1 ?k2 ?k4 ?k5 ?k6 ?k7 ?k8 ?k9 ?k11 ?k13 ?k14 ?_; (case k1 => k_asm); (case k2 => k_asm); (case k4 => k_inst); (case k7 => k_is); (case k5 => k_is); (case k6 => first | k_is | exact rfl);  (case k8 => k_is); (case k9 => k_is); (case k11 => decide +kernel); (case k13 => k_is); (case k14 => k_handed); k_whole)))
local macro_rules | `(tactic| walk_at "call ref") => `(tactic| (refine stopT2 ?_))
local macro_rules | `(tactic| walk_at "call ref") => `(tactic| (k_here; k_dflt (refine wpAny_call ?_; (refine' code_def ?k1 ?k2 ?k3 ?k4 ?k5 ?kA ?kF ?kK ?k6 ?k7 ?k8 ?k9 ?kB ?_ ?c2 ?c3 ?c4 ?c5; (case k3 => k_asm); (case k6 => k_is); (case kA => exact rfl); (case kF => exact rfl); (case kK => first | assumption | exact rfl); (case k2 => k_asm); (case k1 => k_asm); (case k4 => k_asm); (case k5 => k_asm); (case k7 => k_is); (case k8 => k_room); (case k9 => first | exact BindsTo.of_eq rfl | exact binds_K (by k_in) rfl (by k_is) rfl rfl rfl); (case c5 => decide); (case kB => exact locs rfl); (case c2 => exact rfl); (case c3 => exact rfl); (case c4 => exact rfl); k_whole; intro g' L' h' FG' F' N' B' X' T'; (conv at F' => enter [4, y, 2]; whnf); (try dsimp only); (try k_lift B'); (try k_fold)))))
local macro_rules | `(tactic| walk_at "call ref") => `(tactic| (k_here; (with_reducible show wpAny _ _ (call (Value.ref 209) _) _ _ _); refine stopT2 ?_))
local macro_rules | `(tactic| walk_at "call ref") => `(tactic| (k_here; (with_reducible show wpAny _ _ (call (Value.ref 241) [_, Value.ref _]) _ _ _); k_dflt (refine' msd_new ?B ?F ?X ?N ?T ?hk ?hd ?hu ?hf ?_; (case B => assumption); (case F => k_asm); (case X => assumption); (case N => k_asm); (case T => assumption); (case hk => first | exact rfl | assumption); (case hd => ktr_room); (case hu => ktr_units); (case hf => first | rfl | assumption)); (intro bm lst fd fdx dd od ms mdx i1 i2 i3 i4 j1 j2 t1 t2 t3 t4 u1 u2 h' tk' F' N' hod' hfl' lod' l0 l1 l2 l3 l4 l5 l6); (try dsimp only [List.nil_append, List.cons_append] at N'); (try k_lt l0); (try k_sweep)))
local macro_rules | `(tactic| walk_at "call ref") => `(tactic| (k_here; (with_reducible show wpAny _ _ (call (Value.ref 209) [Value.ref _, Value.ref _]) _ _ _); k_dflt (refine' rfl2U ?B ?F ?X ?N ?T ?hk ?hd ?hu ?m1 ?m2 ?m3 ?m4 ?m5 ?m6 ?U1 ?U2 ?od ?lod ?hlt ?q1 ?q2 ?q3 ?q4 ?q5 ?q6 ?hvs ?_; (case B => assumption); (case F => k_asm); (case X => assumption); (case N => k_asm); (case T => assumption); (case hk => first | exact rfl | assumption); (case hd => ktr_room); (case hu => ktr_units); (case m1 => k_mem); (case m2 => k_mem); (case m3 => k_mem); (case m4 => k_mem); (case m5 => k_mem); (case m6 => k_mem); (case U1 => k_updF); (case U2 => (intro o'; k_updF)); (case od => assumption); (case lod => assumption); (case hlt => omega); (case q1 => (constructor <;> omega)); (case q2 => (constructor <;> omega)); (case q3 => (constructor <;> omega)); (case q4 => (constructor <;> omega)); (case q5 => (constructor <;> omega)); (case q6 => (constructor <;> omega)); (case hvs => exact Nat.le_of_ble_eq_true rfl)); (intro p n3 od' h' tk' F' N' hod' l0); (try dsimp only [List.nil_append, List.cons_append] at N'); (try k_lt l0); (try k_sweep)))
local macro_rules | `(tactic| walk_at "call builtin:len") => `(tactic| (k_here; (with_reducible show wpAny _ _ (call (Value.builtin "len") [Value.ref _]) _ _ _); k_dflt (refine' my_len ?n ?z ?hz ?hn ?N ?m ?hs ?_; (case N => k_asm); (case m => k_mem); (first | (case n => exact 1); (case hs => exact rfl); (case z => exact 1) | (case n => exact 2); (case hs => exact rfl); (case z => exact 2) | (case n => exact 3); (case hs => exact rfl); (case z => exact 3) | (case n => exact 6); (case hs => exact rfl); (case z => exact 6) | (case n => exact 7); (case hs => exact rfl); (case z => exact 7)); (case hz => exact rfl); (case hn => omega))))
local macro_rules | `(tactic| walk_at "ltAll") => `(tactic| first
  | (refine' ltBase ?h1 ?h2 ?h3; (case h1 => with_reducible assumption); (case h2 => with_reducible assumption); (case h3 => with_reducible assumption))
  | (refine' ltUp ?h ?w; (case h => with_reducible assumption); (case w => walk_at "ltAll")))
local macro_rules | `(tactic| walk_at "updW") => `(tactic| first
  | (refine' upUp ?h ?w; (case h => with_reducible assumption); (case w => walk_at "updW"))
  | (refine' upHd ?h; (case h => first | (refine' ltNe ?w; (case w => walk_at "ltAll")) | k_all)))
local macro_rules | `(tactic| k_updF) => `(tactic| (refine' And.right (?w : @LE.le Nat _ _ _ ∧ UpdF _ _ _ _); (case w => walk_at "updW")))
local macro_rules | `(tactic| walk_at "updV") => `(tactic| first
  | (refine' vpUp ?h ?w; (case h => with_reducible assumption); (case w => walk_at "updV"))
  | (refine' vpHd ?h; (case h => first | (refine' ltNe ?w; (case w => walk_at "ltAll")) | k_all)))
local macro_rules | `(tactic| k_upd) => `(tactic| (refine' And.right (?w : @LE.le Nat _ _ _ ∧ Upd _ _ _ _ _); (case w => walk_at "updV")))
local macro_rules | `(tactic| walk_at "getAttr ref") => `(tactic| (k_here; k_dflt (first
  | (refine' get_own ?k1 ?k2 ?k3 ?k4 ?k5 ?k6 ?k7 ?k8 ?k9 ?_; (case k1 => k_asm); (case k2 => k_asm); (case k3 => k_inst); (case k4 => k_is); (case k5 => k_is); (case k6 => k_is); (case k7 => k_is); (case k8 => k_get); (case k9 => k_handed); k_whole)
  | (refine' get_slot ?k1 ?k2 ?k3 ?k4 ?k5 ?k6 ?k7 ?k8 ?k9 ?k10 ?k11 ?_; (case k1 => k_asm); (case k2 => k_asm); (case k3 => k_inst); (case k4 => k_is); (case k5 => k_is); (case k6 => k_is); (case k7 => k_is); (case k8 => k_is); (case k9 => k_is); (case k10 => k_slotget); (case k11 => k_handed); k_whole))))
local macro_rules | `(tactic| walk_at "setAttr ref") => `(tactic| (k_here; k_dflt (refine' set_slot ?k1 ?k2 ?k3 ?k4 ?k5 ?k6 ?k7 ?k8 ?k9 ?k10 ?k11 ?k12 ?k13 ?_; (case k1 => k_asm); (case k2 => k_asm); (case k3 => k_asm); (case k4 => k_inst); (case k5 => k_is); (case k6 => k_is); (case k7 => k_is); (case k8 => k_is); (case k9 => k_is); (case k10 => decide); (case k11 => k_slotset); (case k12 => exact rfl); (case k13 => k_upd); k_whole; intro h' F' N'; (try k_sweep))))
theorem base_init1 {w : World} {mean : ExcName → Option Value} {mg mb : Str → Option Value} {dp un : Nat} {gd : Option (List Code)} {cn : Str} {cs : Scope} {a : Addr} {ccd : Value} {cl : List (Str × Addr)} {outer : List Env} {A₀ : Around} {base h₀ : Heap} {L : Addr} {m : Str → Option Value} {s : Shared} {R : Result → Shared → Prop} {news : List (Addr × Obj)} {o504 : Obj} {cv cdx c1 c2 c3 c4 : Addr}
  (B : Below A₀ base outer h₀) (F : Fr h₀ L s.heap m) (X : (Mine.hd.heap_39 w.params).In h₀) (N : News h₀ L s.heap ((cv, instObj 453 cdx) :: (cdx, dictOf [] 0) :: (270, tabObj (tri4 c1 c2 c3 c4)) :: (504, o504) :: news)) (T : Top topProg LO mean mg mb h₀) (hk : cs.kind = .function) (hdp : dp + 60 < recursionLimit) (hun : un + 600 < cLine)
  (hc1 : CodeHd base 274 270) (hlt : @LT.lt Nat _ cdx cv) (h270 : @LT.lt Nat _ 270 cdx) (h504 : @LT.lt Nat _ 504 cdx) (hx1 : ∀ p ∈ news, @LT.lt Nat _ p.1 cdx) (hx2 : ∀ p ∈ news, p.1 ≠ 270 ∧ p.1 ≠ 504) (hcs : ∀ c ∈ [c1, c2, c3, c4], CodeIn news initQ c)
  (hret : ∀ mu muX ddU fdU fdUx lstU ms mdx dd fd fdx lst pc pa od odU kA kB n7 j1 j2 u1 u2 j3 j4 u3 u4 nd h' tk', Fr h₀ L h' m →
    News h₀ L h' ((cv, baseObj cdx ms mu kA kB) :: (lst, listOf #[.ref pc, .ref pa] n7) :: (dd, od) :: (fdx, fdDict j1 j2 u1 u2 cv lst) :: (ddU, odU) :: (fdUx, fdDict j3 j4 u3 u4 cv lstU) :: (270, tabObj (tri4 c1 c2 c3 c4)) :: (504, o504) :: nd) →
    od.IsDictOf (PySem.strKind PySem.Challenge.rw_fq0010_01.row.prog w) [] → odU.IsDictOf (PySem.strKind PySem.Challenge.rw_fq0010_01.row.prog w) [] → (∀ p ∈ news, p ∈ nd) → BOut nd cv cdx mu muX ddU fdU fdUx lstU ms mdx dd fd fdx lst pc pa → (∀ c ∈ [c1, c2, c3, c4], CodeIn nd initQ c) →
    R (.ok (.ret .none)) { s with heap := h', toks := tk' }) :
  codeAny (model PySem.Challenge.rw_fq0010_01.row.prog w) (ktrTop dp un gd cn cs L a ccd cl outer) (.call (.ref 275) ⟨[.ref cv], [(Str.ofString "prefer_attrib_converters", .bool false), (Str.ofString "detailed_validation", .bool true), (Str.ofString "unstructure_fallback_factory", .ref 394), (Str.ofString "structure_fallback_factory", .ref 401)]⟩) R s := by
  have hx2a : ∀ p ∈ news, p.1 ≠ 270 := fun p hp => (hx2 p hp).1
  (try refine wpAny_call ?_)
  k_dflt (refine' code_def ?k1 ?k2 ?k3 ?k4 ?k5 ?kA ?kF ?kK ?k6 ?k7 ?k8 ?k9 ?kB ?_ ?c2 ?c3 ?c4 ?c5; (case kA => exact rfl); (case kF => exact rfl); (case kK => assumption); (case k1 => k_asm); (case k2 => k_asm); (case k3 => k_asm); (case k4 => k_asm); (case k5 => k_asm); (case k6 => k_is); (case k7 => k_is); (case k8 => ktr_room); (case k9 => first | exact BindsTo.of_eq rfl | exact binds_K (by k_in) rfl (by k_is) rfl rfl rfl); (case c5 => decide); (case kB => exact locs rfl); (case c2 => exact rfl); (case c3 => exact rfl); (case c4 => exact rfl); k_whole; intro g' L' h' FG' F' N' B' X' T'; (conv at F' => enter [4, y, 2]; whnf); (try dsimp only); (try k_fold))
  k_steps
  (rename News _ _ _ _ => N9)
  (rename Fr _ _ _ _ => F9)
  refine' Exists.elim (base_out (news := news) N9 ?new hx1 hx2 ?m1 ?m2 ?m3 ?m4 ?m5 ?m6 ?m7 ?m8 ?m9 ?m10 ?m11 ?m12 ?m13 ?m14 ?m15 ?m16 ?m17 ?m18 ?m19 ?hps ?m20 ?m21 ?hq ?e4 ?e2 ?hc ?lod ?lodU ?o0 ?o00 ?o1 ?o2 ?o3 ?o4 ?o5 ?o6 ?o7 ?o8 ?o9 ?o10 ?o11 ?o12 ?o13 ?o14 ?o15 ?o16 ?o17 ?o18) ?fin
  case m1 => k_mem
  case m2 => k_mem
  case m3 => k_mem
  case m4 => k_mem
  case m5 => k_mem
  case m6 => k_mem
  case m7 => k_mem
  case m8 => k_mem
  case m9 => k_mem
  case m10 => k_mem
  case m11 => k_mem
  case m12 => k_mem
  case m13 => k_mem
  case m14 => k_mem
  case m15 => k_mem
  case m16 => k_mem
  case m17 => k_mem
  case m18 => k_mem
  case m19 => k_mem
  case m20 => k_mem
  case m21 => k_mem
  case hps => exact rfl
  case new => (intro p hp; (repeat first | (with_reducible exact hp) | (with_reducible refine List.mem_cons_of_mem _ ?_)))
  case hq => exact rfl
  case e4 => exact rfl
  case e2 => exact rfl
  case lod => assumption
  case lodU => assumption
  case o0 => first | with_reducible assumption | omega
  case o00 => first | with_reducible assumption | omega
  case o1 => first | with_reducible assumption | omega
  case o2 => first | with_reducible assumption | omega
  case o3 => first | with_reducible assumption | omega
  case o4 => first | with_reducible assumption | omega
  case o5 => first | with_reducible assumption | omega
  case o6 => first | with_reducible assumption | omega
  case o7 => first | with_reducible assumption | omega
  case o8 => first | with_reducible assumption | omega
  case o9 => first | with_reducible assumption | omega
  case o10 => first | with_reducible assumption | omega
  case o11 => first | with_reducible assumption | omega
  case o12 => first | with_reducible assumption | omega
  case o13 => first | with_reducible assumption | omega
  case o14 => first | with_reducible assumption | omega
  case o15 => first | with_reducible assumption | omega
  case o16 => first | with_reducible assumption | omega
  case o17 => first | with_reducible assumption | omega
  case o18 => first | with_reducible assumption | omega
  case hc =>
    intro c hc
    obtain ⟨oc, vs, t, g1, g2, g3⟩ := hcs c hc
    have g4 := hx1 _ g1
    have g5 : @Ne Nat c 270 := (hx2 _ g1).1
    have g6 : @Ne Nat c 504 := (hx2 _ g1).2
    dsimp only at g4
    refine ⟨⟨oc, vs, t, ?_, g2, g3⟩, ?_⟩
    · (repeat first | (with_reducible exact g1) | (with_reducible refine List.mem_cons_of_mem _ ?_))
    · (refine ⟨?_, ?_, ?_, ?_, ?_, ?_, ?_, ?_⟩ <;> omega)
  case fin =>
    rintro nd ⟨Nn, hnn, hb, hcc⟩
    exact hret _ _ _ _ _ _ _ _ _ _ _ _ _ _ _ _ _ _ _ _ _ _ _ _ _ _ _ nd _ _ F9 Nn (by assumption) (by assumption) hnn hb hcc
end Mine
namespace Mine
open PySem PySem.W PyProof.Rows PySem.Calls
set_option maxHeartbeats 2000000
abbrev isQ : Str := "_law_is.<locals>.<lambda>"
abbrev tri1 (c : Addr) : Array Value := #[rawInt 220, rawInt 11, .ref c]
theorem law_is0 {w : World} {mean : ExcName → Option Value} {mg mb : Str → Option Value} {dp un : Nat} {gd : Option (List Code)} {cn : Str} {cs : Scope} {a : Addr} {ccd : Value} {cl : List (Str × Addr)} {outer : List Env} {A₀ : Around} {base h₀ : Heap} {L : Addr} {m : Str → Option Value} {news : List (Addr × Obj)} {s : Shared} {Q E : Value → Shared → Prop}
  (B : Below A₀ base outer h₀) (F : Fr h₀ L s.heap m) (X : (Mine.hd.heap_39 w.params).In h₀) (N : News h₀ L s.heap news) (T : Top topProg LO mean mg mb h₀) (hk : cs.kind = .function) (hdp : dp + 40 < recursionLimit) (hun : un + 400 < cLine) {k : Str} {tk : Nat} (hc2 : CodeHd base 508 504) (hx : ∀ p ∈ news, p.1 ≠ 504) (Nt : News h₀ L s.heap ((504, tabObj #[]) :: news))
  (hret : ∀ f c' kc oc ok vs t pm ctv h' tk', Fr h₀ L h' m → News h₀ L h' ((f, isFn kc pm c' ctv) :: (c', oc) :: (kc, ok) :: (504, tabObj (tri1 c')) :: news) → oc.data = .fields vs → vs[1]? = some (.str isQ t) → ok.data = .cell (some (.str k tk)) →
    (∀ q ∈ news, q.1 < kc) → @LT.lt Nat _ 504 kc → @LT.lt Nat _ kc c' → @LT.lt Nat _ c' f → Q (.ref f) {s with heap := h', toks := tk'}) :
  wpAny (model PySem.Challenge.rw_fq0010_01.row.prog w) (ktrTop dp un gd cn cs L a ccd cl outer) (call (.ref 509) [.str k tk]) Q E s := by
  clear N
  refine wpAny_call ?_
  k_dflt (refine' code_defC ?k1 ?k2 ?k3 ?k4 ?k5 ?kA ?kF ?kK ?k6 ?k7 ?k8 ?k9 ?kB ?kD ?_ ?c2 ?c3 ?c4; (case k3 => k_asm); (case k6 => k_is); (case kA => exact rfl); (case kF => exact rfl); (case kK => assumption); (case k2 => k_asm); (case k1 => k_asm); (case k4 => k_asm); (case k5 => k_asm); (case k7 => k_is); (case k8 => k_room); (case k9 => first | exact BindsTo.of_eq rfl | exact binds_K (by k_in) rfl (by k_is) rfl rfl rfl | fail "k_enter: no rule for these arguments"); (case kB => exact rfl); (case kD => decide +kernel); (case c2 => exact rfl); (case c3 => exact rfl); (case c4 => exact rfl); k_whole; intro g' L' h' tk' cells' FG' F' N' Y' B' X' T' l1; (try k_lt l1); k_cells Y'; (try simp only [List.cons_append, List.nil_append] at N'); (conv at F' => enter [4, y]; whnf); (try dsimp only); (try k_lift B'); (try k_fold))
  have lk := And.right l1
  k_steps
  exact hret _ _ _ _ _ _ _ _ _ _ _ (by assumption) (by assumption) (by assumption) (by assumption) (by assumption) (fun q hq => Nat.lt_succ_of_lt (allLt_mem lk q hq)) (by omega) (by omega) (by omega)
theorem law_is1 {w : World} {mean : ExcName → Option Value} {mg mb : Str → Option Value} {dp un : Nat} {gd : Option (List Code)} {cn : Str} {cs : Scope} {a : Addr} {ccd : Value} {cl : List (Str × Addr)} {outer : List Env} {A₀ : Around} {base h₀ : Heap} {L : Addr} {m : Str → Option Value} {news : List (Addr × Obj)} {s : Shared} {Q E : Value → Shared → Prop}
  (B : Below A₀ base outer h₀) (F : Fr h₀ L s.heap m) (X : (Mine.hd.heap_39 w.params).In h₀) (N : News h₀ L s.heap news) (T : Top topProg LO mean mg mb h₀) (hk : cs.kind = .function) (hdp : dp + 40 < recursionLimit) (hun : un + 400 < cLine) {k : Str} {tk : Nat} {c0 : Addr} (hc2 : CodeHd base 508 504) (ht : (504, tabObj (tri1 c0)) ∈ news)
  (hret : ∀ f kc ok pm ctv h' tk', Fr h₀ L h' m → News h₀ L h' ((f, isFn kc pm c0 ctv) :: (kc, ok) :: news) → ok.data = .cell (some (.str k tk)) →
    (∀ q ∈ news, q.1 < kc) → @LT.lt Nat _ kc f → Q (.ref f) {s with heap := h', toks := tk'}) :
  wpAny (model PySem.Challenge.rw_fq0010_01.row.prog w) (ktrTop dp un gd cn cs L a ccd cl outer) (call (.ref 509) [.str k tk]) Q E s := by
  refine wpAny_call ?_
  k_dflt (refine' code_defC ?k1 ?k2 ?k3 ?k4 ?k5 ?kA ?kF ?kK ?k6 ?k7 ?k8 ?k9 ?kB ?kD ?_ ?c2 ?c3 ?c4; (case k3 => k_asm); (case k6 => k_is); (case kA => exact rfl); (case kF => exact rfl); (case kK => assumption); (case k2 => k_asm); (case k1 => k_asm); (case k4 => k_asm); (case k5 => k_asm); (case k7 => k_is); (case k8 => k_room); (case k9 => first | exact BindsTo.of_eq rfl | exact binds_K (by k_in) rfl (by k_is) rfl rfl rfl | fail "k_enter: no rule for these arguments"); (case kB => exact rfl); (case kD => decide +kernel); (case c2 => exact rfl); (case c3 => exact rfl); (case c4 => exact rfl); k_whole; intro g' L' h' tk' cells' FG' F' N' Y' B' X' T' l1; k_cells Y'; (try simp only [List.cons_append, List.nil_append] at N'); (conv at F' => enter [4, y]; whnf); (try dsimp only); (try k_lift B'); (try k_fold))
  k_steps
  exact hret _ _ _ _ _ _ _ (by assumption) (by assumption) (by assumption) (fun q hq => Nat.lt_succ_of_lt (l1 q hq)) (by omega)
theorem law_is0U {w : World} {mean : ExcName → Option Value} {mg mb : Str → Option Value} {dp un : Nat} {gd : Option (List Code)} {cn : Str} {cs : Scope} {a : Addr} {ccd : Value} {cl : List (Str × Addr)} {outer : List Env} {A₀ : Around} {base h₀ : Heap} {L : Addr} {m : Str → Option Value} {news : List (Addr × Obj)} {s : Shared} {Q E : Value → Shared → Prop}
  (B : Below A₀ base outer h₀) (F : Fr h₀ L s.heap m) (X : (Mine.hd.heap_39 w.params).In h₀) (N : News h₀ L s.heap news) (T : Top topProg LO mean mg mb h₀) (hk : cs.kind = .function) (hdp : dp + 40 < recursionLimit) (hun : un + 400 < cLine) {k : Str} {tk : Nat} {g : Obj → List (Addr × Obj)} (hc2 : CodeHd base 508 504) (U : UpdF 504 (tabObj #[]) news g)
  (hret : ∀ f c' kc oc ok vs t pm ctv h' tk', Fr h₀ L h' m → News h₀ L h' ((f, isFn kc pm c' ctv) :: (c', oc) :: (kc, ok) :: g (tabObj (tri1 c'))) → oc.data = .fields vs → vs[1]? = some (.str isQ t) → ok.data = .cell (some (.str k tk)) →
    (∀ q ∈ news, q.1 < kc) → @LT.lt Nat _ kc c' → @LT.lt Nat _ c' f → Q (.ref f) {s with heap := h', toks := tk'}) :
  wpAny (model PySem.Challenge.rw_fq0010_01.row.prog w) (ktrTop dp un gd cn cs L a ccd cl outer) (call (.ref 509) [.str k tk]) Q E s := by
  have W := updF_old U
  refine law_is0 B F X (fun p hp => N p (List.mem_filter.mp hp).1) T hk hdp hun hc2 (news := news.filter fun p => decide (p.1 ≠ 504)) (fun p hp => of_decide_eq_true (List.mem_filter.mp hp).2) (fun p hp => ?_) fun f c' kc oc ok vs t pm ctv h' tk' F' N' d1 d2 d3 l0 l1 l2 l3 => ?_
  · rcases List.mem_cons.mp hp with rfl | hp
    · exact N _ W.1
    · exact N _ (List.mem_filter.mp hp).1
  · refine hret f c' kc oc ok vs t pm ctv h' tk' F' (fun q hq => N' q ?_) d1 d2 d3 (fun q hq => ?_) l2 l3
    · rcases List.mem_cons.mp hq with rfl | hq
      · exact .head _
      · rcases List.mem_cons.mp hq with rfl | hq
        · exact .tail _ (.head _)
        · rcases List.mem_cons.mp hq with rfl | hq
          · exact .tail _ (.tail _ (.head _))
          · rcases (updF_mem U q).mp hq with rfl | ⟨hq, hn⟩
            · exact .tail _ (.tail _ (.tail _ (.head _)))
            · exact .tail _ (.tail _ (.tail _ (.tail _ (List.mem_filter.mpr ⟨hq, decide_eq_true hn⟩))))
    · rcases W.2 q hq with rfl | hn
      · exact l1
      · exact l0 q (List.mem_filter.mpr ⟨hq, decide_eq_true hn⟩)
theorem hook_funcU {w : World} {mean : ExcName → Option Value} {mg mb : Str → Option Value} {dp un : Nat} {gd : Option (List Code)} {cn : Str} {cs : Scope} {a : Addr} {ccd : Value} {cl : List (Str × Addr)} {outer : List Env} {A₀ : Around} {base h₀ : Heap} {L : Addr} {m : Str → Option Value} {news : List (Addr × Obj)} {s : Shared} {Q E : Value → Shared → Prop}
  (B : Below A₀ base outer h₀) (F : Fr h₀ L s.heap m) (X : (Mine.hd.heap_39 w.params).In h₀) (N : News h₀ L s.heap news) (T : Top topProg LO mean mg mb h₀) (hk : cs.kind = .function) (hdp : dp + 40 < recursionLimit) (hun : un + 400 < cLine)
  {cv cdx to mu ms mdx dd fd bm fdx c lst pf : Addr} {od : Obj} {w1 w2 w3 w4 w5 w6 w7 : Option Value} {vs : List Value} {nl : Nat} {hdv fb : Value} {i1 i2 i3 i4 j1 j2 : Int} {t1 t2 t3 t4 u1 u2 : Nat} {g1 : Obj → List (Addr × Obj)} {g : Obj → Obj → List (Addr × Obj)}
  (hcv : (cv, convObj cdx ms mu to w1 w2 w3 w4 w5 w6 w7) ∈ news) (hcd : (cdx, dictOf [] 0) ∈ news) (hms : (ms, msObj mdx) ∈ news) (hmdx : (mdx, msDict i1 i2 i3 i4 t1 t2 t3 t4 fb dd fd bm) ∈ news) (hfd : (fd, fdObj fdx) ∈ news) (hfdx : (fdx, fdDict j1 j2 u1 u2 c lst) ∈ news)
  (U1 : UpdF lst (listOf vs.toArray nl) news g1) (U2 : ∀ o', UpdF dd od (g1 o') (g o'))
  (hod : od.IsDictOf (PySem.strKind PySem.Challenge.rw_fq0010_01.row.prog w) []) (lod : (dd == sysModules) = false) (hlt : @LT.lt Nat _ dd lst)
  (q1 : @Ne Nat ms lst ∧ @Ne Nat ms dd) (q2 : @Ne Nat mdx lst ∧ @Ne Nat mdx dd) (q3 : @Ne Nat fd lst ∧ @Ne Nat fd dd) (q4 : @Ne Nat fdx lst ∧ @Ne Nat fdx dd) (q5 : @Ne Nat cv lst ∧ @Ne Nat cv dd) (q6 : @Ne Nat cdx lst ∧ @Ne Nat cdx dd) (hvs : vs.length ≤ 100)
  (hret : ∀ p n3 od' h' tk', Fr h₀ L h' m → News h₀ L h' ((p, tupObj #[.ref pf, hdv, .bool false, .bool false] n3) :: g (listOf (Value.ref p :: vs).toArray (nl + 1)) od') → od'.IsDictOf (PySem.strKind PySem.Challenge.rw_fq0010_01.row.prog w) [] → (∀ q ∈ news, q.1 < p) → Q .none { s with heap := h', toks := tk' }) :
  wpAny (model PySem.Challenge.rw_fq0010_01.row.prog w) (ktrTop dp un gd cn cs L a ccd cl outer) (call (.ref 313) [.ref cv, .ref pf, hdv]) Q E s := by
  have W := two U1 U2 (Nat.ne_of_lt hlt)
  refine wpAny_call (hook_func B F X (fun q hq => N q (W.all q hq)) T hk (by omega) (by omega) (W.inn _ hms q1) (W.inn _ hmdx q2) (W.inn _ hfd q3) (W.inn _ hfdx q4) (W.inn _ hcd q6) (W.inn _ hcv q5) hod .nil lod hlt W.x1 W.x2 hvs fun p n3 od' h' tk' F' N' hod' hfr => ?_)
  exact hret p n3 od' h' tk' F' (fun q hq => by
    rcases List.mem_cons.mp hq with rfl | hq
    · exact N' _ (.head _)
    · exact N' _ (.tail _ (W.out _ _ q hq))) hod' (fun q hq => hfr q (W.back q hq))
theorem conv_factoryU {w : World} {mean : ExcName → Option Value} {mg mb : Str → Option Value} {dp un : Nat} {gd : Option (List Code)} {cn : Str} {cs : Scope} {a : Addr} {ccd : Value} {cl : List (Str × Addr)} {outer : List Env} {A₀ : Around} {base h₀ : Heap} {L : Addr} {m : Str → Option Value} {news : List (Addr × Obj)} {s : Shared} {Q E : Value → Shared → Prop}
  (B : Below A₀ base outer h₀) (F : Fr h₀ L s.heap m) (X : (Mine.hd.heap_39 w.params).In h₀) (N : News h₀ L s.heap news) (T : Top topProg LO mean mg mb h₀) (hk : cs.kind = .function) (hdp : dp + 40 < recursionLimit) (hun : un + 400 < cLine)
  {cv cdx to mu ms mdx dd fd bm fdx c lst pf : Addr} {od : Obj} {w1 w2 w3 w4 w5 w6 w7 : Option Value} {vs : List Value} {nl : Nat} {hdv fb : Value} {i1 i2 i3 i4 j1 j2 : Int} {t1 t2 t3 t4 u1 u2 : Nat} {g1 : Obj → List (Addr × Obj)} {g : Obj → Obj → List (Addr × Obj)}
  (hcv : (cv, convObj cdx ms mu to w1 w2 w3 w4 w5 w6 w7) ∈ news) (hcd : (cdx, dictOf [] 0) ∈ news) (hms : (ms, msObj mdx) ∈ news) (hmdx : (mdx, msDict i1 i2 i3 i4 t1 t2 t3 t4 fb dd fd bm) ∈ news) (hfd : (fd, fdObj fdx) ∈ news) (hfdx : (fdx, fdDict j1 j2 u1 u2 c lst) ∈ news)
  (U1 : UpdF lst (listOf vs.toArray nl) news g1) (U2 : ∀ o', UpdF dd od (g1 o') (g o'))
  (hod : od.IsDictOf (PySem.strKind PySem.Challenge.rw_fq0010_01.row.prog w) []) (lod : (dd == sysModules) = false) (hlt : @LT.lt Nat _ dd lst)
  (q1 : @Ne Nat ms lst ∧ @Ne Nat ms dd) (q2 : @Ne Nat mdx lst ∧ @Ne Nat mdx dd) (q3 : @Ne Nat fd lst ∧ @Ne Nat fd dd) (q4 : @Ne Nat fdx lst ∧ @Ne Nat fdx dd) (q5 : @Ne Nat cv lst ∧ @Ne Nat cv dd) (q6 : @Ne Nat cdx lst ∧ @Ne Nat cdx dd) (hvs : vs.length ≤ 100)
  (hret : ∀ p n3 od' h' tk', Fr h₀ L h' m → News h₀ L h' ((p, tupObj #[.ref pf, hdv, .bool true, .bool false] n3) :: g (listOf (Value.ref p :: vs).toArray (nl + 1)) od') → od'.IsDictOf (PySem.strKind PySem.Challenge.rw_fq0010_01.row.prog w) [] → (∀ q ∈ news, q.1 < p) → Q hdv { s with heap := h', toks := tk' }) :
  wpAny (model PySem.Challenge.rw_fq0010_01.row.prog w) (ktrTop dp un gd cn cs L a ccd cl outer) (call (.ref 427) [.ref cv, .ref pf, hdv]) Q E s := by
  have W := two U1 U2 (Nat.ne_of_lt hlt)
  refine wpAny_call (conv_factory B F X (fun q hq => N q (W.all q hq)) T hk (by omega) (by omega) (W.inn _ hms q1) (W.inn _ hmdx q2) (W.inn _ hfd q3) (W.inn _ hfdx q4) (W.inn _ hcd q6) (W.inn _ hcv q5) hod .nil lod hlt W.x1 W.x2 hvs fun p n3 od' h' tk' F' N' hod' hfr => ?_)
  exact hret p n3 od' h' tk' F' (fun q hq => by
    rcases List.mem_cons.mp hq with rfl | hq
    · exact N' _ (.head _)
    · exact N' _ (.tail _ (W.out _ _ q hq))) hod' (fun q hq => hfr q (W.back q hq))
end Mine
namespace Mine
open PySem PySem.W PyProof.Rows PySem.Calls
set_option maxHeartbeats 4000000
end Mine
local macro_rules | `(tactic| k_all) => `(tactic| (refine' ne_up ?h ?_; (case h => with_reducible assumption); omega))
namespace Mine
open PySem PySem.W PyProof.Rows PySem.Calls
set_option maxHeartbeats 4000000
local macro_rules | `(tactic| k_all) => `(tactic| (refine' ne_up ?h ?_; (case h => with_reducible assumption); omega))
local macro_rules | `(tactic| walk_at "getAttr ref") => `(tactic| (k_here; (with_reducible show wpAny _ _ (getAttr (Value.ref _) (PySem.Str.ofString "_structure_call") _) _ _ _); k_dflt (refine' get_static0 ?k1 ?k2 ?k4 ?k5 ?k6 ?k7 ?k8 ?k9 ?k11 ?k13 ?k14 ?_; (case k1 => k_asm); (case k2 => k_asm); (case k4 => k_inst); (case k7 => k_is); (case k5 => k_is); (case k6 => first | k_is | exact rfl);  (case k8 => k_is); (case k9 => k_is); (case k11 => decide +kernel); (case k13 => k_is); (case k14 => k_handed); k_whole)))
local macro_rules | `(tactic| walk_at "callWith ref") => `(tactic| (k_here; (with_reducible show wpAny _ _ (callWith _ (Value.ref _) _ (backTo _ (starEach [] _)) []) _ _ _); k_dflt (refine' callWith_K0' ?k1 ?k3 ?k2 ?_; (case k1 => k_asm); (case k3 => k_asm); (case k2 => k_is); k_whole; (try dsimp only [List.nil_append, List.append_nil]))))
local macro_rules | `(tactic| walk_at "callWith ref cons nil") => `(tactic| (k_here; (with_reducible show wpAny _ _ (callWith _ (Value.ref _) _ (backTo _ (starEach [] _)) []) _ _ _); k_dflt (refine' callWith_K0' ?k1 ?k3 ?k2 ?_; (case k1 => k_asm); (case k3 => k_asm); (case k2 => k_is); k_whole; (try dsimp only [List.nil_append, List.append_nil]))))
local macro_rules | `(tactic| walk_at "call ref") => `(tactic| (refine stopT2 ?_))
local macro_rules | `(tactic| walk_at "call ref") => `(tactic| (k_here; k_dflt (refine wpAny_call ?_; (refine' code_def ?k1 ?k2 ?k3 ?k4 ?k5 ?kA ?kF ?kK ?k6 ?k7 ?k8 ?k9 ?kB ?_ ?c2 ?c3 ?c4 ?c5; (case k3 => k_asm); (case k6 => k_is); (case kA => exact rfl); (case kF => exact rfl); (case kK => first | assumption | exact rfl); (case k2 => k_asm); (case k1 => k_asm); (case k4 => k_asm); (case k5 => k_asm); (case k7 => k_is); (case k8 => k_room); (case k9 => first | exact BindsTo.of_eq rfl | exact binds_K (by k_in) rfl (by k_is) rfl rfl rfl); (case c5 => decide); (case kB => exact locs rfl); (case c2 => exact rfl); (case c3 => exact rfl); (case c4 => exact rfl); k_whole; intro g' L' h' FG' F' N' B' X' T'; (conv at F' => enter [4, y, 2]; whnf); (try dsimp only); (try k_lift B'); (try k_fold)))))
local macro_rules | `(tactic| walk_at "call ref") => `(tactic| (k_here; (with_reducible show wpAny _ _ (call (Value.ref 209) _) _ _ _); refine stopT2 ?_))
local macro_rules | `(tactic| walk_at "call ref") => `(tactic| (k_here; (with_reducible show wpAny _ _ (call (Value.ref 241) [_, Value.ref _]) _ _ _); k_dflt (refine' msd_new ?B ?F ?X ?N ?T ?hk ?hd ?hu ?hf ?_; (case B => assumption); (case F => k_asm); (case X => assumption); (case N => k_asm); (case T => assumption); (case hk => first | exact rfl | assumption); (case hd => ktr_room); (case hu => ktr_units); (case hf => first | rfl | assumption)); (intro bm lst fd fdx dd od ms mdx i1 i2 i3 i4 j1 j2 t1 t2 t3 t4 u1 u2 h' tk' F' N' hod' hfl' lod' l0 l1 l2 l3 l4 l5 l6); (try dsimp only [List.nil_append, List.cons_append] at N'); (try k_lt l0); (try k_sweep)))
local macro_rules | `(tactic| walk_at "call ref") => `(tactic| (k_here; (with_reducible show wpAny _ _ (call (Value.ref 209) [Value.ref _, Value.ref _]) _ _ _); k_dflt (refine' rfl2U ?B ?F ?X ?N ?T ?hk ?hd ?hu ?m1 ?m2 ?m3 ?m4 ?m5 ?m6 ?U1 ?U2 ?od ?lod ?hlt ?q1 ?q2 ?q3 ?q4 ?q5 ?q6 ?hvs ?_; (case B => assumption); (case F => k_asm); (case X => assumption); (case N => k_asm); (case T => assumption); (case hk => first | exact rfl | assumption); (case hd => ktr_room); (case hu => ktr_units); (case m1 => k_mem); (case m2 => k_mem); (case m3 => k_mem); (case m4 => k_mem); (case m5 => k_mem); (case m6 => k_mem); (case U1 => k_updF); (case U2 => (intro o'; k_updF)); (case od => assumption); (case lod => assumption); (case hlt => omega); (case q1 => (constructor <;> omega)); (case q2 => (constructor <;> omega)); (case q3 => (constructor <;> omega)); (case q4 => (constructor <;> omega)); (case q5 => (constructor <;> omega)); (case q6 => (constructor <;> omega)); (case hvs => exact Nat.le_of_ble_eq_true rfl)); (intro p n3 od' h' tk' F' N' hod' l0); (try dsimp only [List.nil_append, List.cons_append] at N'); (try k_lt l0); (try k_sweep)))
end Mine
local macro_rules | `(tactic| walk_at "call builtin:len") => `(tactic| (k_here; (with_reducible show wpAny _ _ (call (Value.builtin "len") [Value.ref _]) _ _ _); k_dflt (refine' my_len ?n ?z ?hz ?hn ?N ?m ?hs ?_; (case N => k_asm); (case m => k_mem); (first | (case n => exact 1); (case hs => exact rfl); (case z => exact 1) | (case n => exact 2); (case hs => exact rfl); (case z => exact 2) | (case n => exact 3); (case hs => exact rfl); (case z => exact 3) | (case n => exact 6); (case hs => exact rfl); (case z => exact 6) | (case n => exact 7); (case hs => exact rfl); (case z => exact 7)); (case hz => exact rfl); (case hn => omega))))
namespace Mine
open PySem PySem.W PyProof.Rows PySem.Calls
set_option maxHeartbeats 4000000
local macro_rules | `(tactic| k_all) => `(tactic| (refine' ne_up ?h ?_; (case h => with_reducible assumption); omega))
local macro_rules | `(tactic| walk_at "getAttr ref") => `(tactic| (k_here; (with_reducible show wpAny _ _ (getAttr (Value.ref _) (PySem.Str.ofString "_structure_call") _) _ _ _); k_dflt (refine' get_static0 ?k1 ?k2 ?k4 ?k5 ?k6 ?k7 ?k8 ?k9 ?k11 ?k13 ?k14 ?_; (case k1 => k_asm); (case k2 => k_asm); (case k4 => k_inst); (case k7 => k_is); (case k5 => k_is); (case k6 => first | k_is | exact rfl);  (case k8 => k_is); (case k9 => k_is); (case k11 => decide +kernel); (case k13 => k_is); (case k14 => k_handed); k_whole)))
local macro_rules | `(tactic| walk_at "callWith ref") => `(tactic| (k_here; (with_reducible show wpAny _ _ (callWith _ (Value.ref _) _ (backTo _ (starEach [] _)) []) _ _ _); k_dflt (refine' callWith_K0' ?k1 ?k3 ?k2 ?_; (case k1 => k_asm); (case k3 => k_asm); (case k2 => k_is); k_whole; (try dsimp only [List.nil_append, List.append_nil]))))
local macro_rules | `(tactic| walk_at "callWith ref cons nil") => `(tactic| (k_here; (with_reducible show wpAny _ _ (callWith _ (Value.ref _) _ (backTo _ (starEach [] _)) []) _ _ _); k_dflt (refine' callWith_K0' ?k1 ?k3 ?k2 ?_; (case k1 => k_asm); (case k3 => k_asm); (case k2 => k_is); k_whole; (try dsimp only [List.nil_append, List.append_nil]))))
local macro_rules | `(tactic| walk_at "call ref") => `(tactic| (refine stopT2 ?_))
local macro_rules | `(tactic| walk_at "call ref") => `(tactic| (k_here; k_dflt (refine wpAny_call ?_; (refine' code_def ?k1 ?k2 ?k3 ?k4 ?k5 ?kA ?kF ?kK ?k6 ?k7 ?k8 ?k9 ?kB ?_ ?c2 ?c3 ?c4 ?c5; (case k3 => k_asm); (case k6 => k_is); (case kA => exact rfl); (case kF => exact rfl); (case kK => first | assumption | exact rfl); (case k2 => k_asm); (case k1 => k_asm); (case k4 => k_asm); (case k5 => k_asm); (case k7 => k_is); (case k8 => k_room); (case k9 => first | exact BindsTo.of_eq rfl | exact binds_K (by k_in) rfl (by k_is) rfl rfl rfl); (case c5 => decide); (case kB => exact locs rfl); (case c2 => exact rfl); (case c3 => exact rfl); (case c4 => exact rfl); k_whole; intro g' L' h' FG' F' N' B' X' T'; (conv at F' => enter [4, y, 2]; whnf); (try dsimp only); (try k_lift B'); (try k_fold)))))
local macro_rules | `(tactic| walk_at "call ref") => `(tactic| (k_here; (with_reducible show wpAny _ _ (call (Value.ref 209) _) _ _ _); refine stopT2 ?_))
local macro_rules | `(tactic| walk_at "call ref") => `(tactic| (k_here; (with_reducible show wpAny _ _ (call (Value.ref 241) [_, Value.ref _]) _ _ _); k_dflt (refine' msd_new ?B ?F ?X ?N ?T ?hk ?hd ?hu ?hf ?_; (case B => assumption); (case F => k_asm); (case X => assumption); (case N => k_asm); (case T => assumption); (case hk => first | exact rfl | assumption); (case hd => ktr_room); (case hu => ktr_units); (case hf => first | rfl | assumption)); (intro bm lst fd fdx dd od ms mdx i1 i2 i3 i4 j1 j2 t1 t2 t3 t4 u1 u2 h' tk' F' N' hod' hfl' lod' l0 l1 l2 l3 l4 l5 l6); (try dsimp only [List.nil_append, List.cons_append] at N'); (try k_lt l0); (try k_sweep)))
local macro_rules | `(tactic| walk_at "call ref") => `(tactic| (k_here; (with_reducible show wpAny _ _ (call (Value.ref 209) [Value.ref _, Value.ref _]) _ _ _); k_dflt (refine' rfl2U ?B ?F ?X ?N ?T ?hk ?hd ?hu ?m1 ?m2 ?m3 ?m4 ?m5 ?m6 ?U1 ?U2 ?od ?lod ?hlt ?q1 ?q2 ?q3 ?q4 ?q5 ?q6 ?hvs ?_; (case B => assumption); (case F => k_asm); (case X => assumption); (case N => k_asm); (case T => assumption); (case hk => first | exact rfl | assumption); (case hd => ktr_room); (case hu => ktr_units); (case m1 => k_mem); (case m2 => k_mem); (case m3 => k_mem); (case m4 => k_mem); (case m5 => k_mem); (case m6 => k_mem); (case U1 => k_updF); (case U2 => (intro o'; k_updF)); (case od => assumption); (case lod => assumption); (case hlt => omega); (case q1 => (constructor <;> omega)); (case q2 => (constructor <;> omega)); (case q3 => (constructor <;> omega)); (case q4 => (constructor <;> omega)); (case q5 => (constructor <;> omega)); (case q6 => (constructor <;> omega)); (case hvs => exact Nat.le_of_ble_eq_true rfl)); (intro p n3 od' h' tk' F' N' hod' l0); (try dsimp only [List.nil_append, List.cons_append] at N'); (try k_lt l0); (try k_sweep)))
local macro_rules | `(tactic| walk_at "call builtin:len") => `(tactic| (k_here; (with_reducible show wpAny _ _ (call (Value.builtin "len") [Value.ref _]) _ _ _); k_dflt (refine' my_len ?n ?z ?hz ?hn ?N ?m ?hs ?_; (case N => k_asm); (case m => k_mem); (first | (case n => exact 1); (case hs => exact rfl); (case z => exact 1) | (case n => exact 2); (case hs => exact rfl); (case z => exact 2) | (case n => exact 3); (case hs => exact rfl); (case z => exact 3) | (case n => exact 6); (case hs => exact rfl); (case z => exact 6) | (case n => exact 7); (case hs => exact rfl); (case z => exact 7)); (case hz => exact rfl); (case hn => omega))))
abbrev fullObj (cdx to ms mu : Addr) (kA kB : Nat) : Obj := ⟨.ref 453, some cdx, .plain, #[none, some (.bool false), some (.bool false), some (.ref to), some (.bool false), none, some (.bool false), some (.int 2 kA), none, some (.ref ms), none, some (.int 1 kB), none, some (.ref mu), some (.bool true)]⟩
/-- a whole converter, its five objects that may yet change left out of nd -/
structure COut (w : World) (nd : List (Addr × Obj)) (cv cdx to mu muX ddU fdU fdUx lstU ms mdx dd fd fdx lst pc pa : Addr) : Prop where
  hcv : ∃ kA kB, (cv, fullObj cdx to ms mu kA kB) ∈ nd
  hto : ∃ o, (to, o) ∈ nd ∧ o.IsDictOf (PySem.strKind PySem.Challenge.rw_fq0010_01.row.prog w) [] ∧ (to == sysModules) = false
  hcd : (cdx, dictOf [] 0) ∈ nd
  hms : (ms, msObj mdx) ∈ nd
  hmdx : ∃ bm i1 i2 i3 i4 t1 t2 t3 t4, (mdx, msDict i1 i2 i3 i4 t1 t2 t3 t4 (.ref 401) dd fd bm) ∈ nd ∧ (bm, methodObj (.ref 194) (.ref ms)) ∈ nd
  hfd : (fd, fdObj fdx) ∈ nd
  hmu : (mu, msObj muX) ∈ nd
  hmuX : ∃ bm i1 i2 i3 i4 t1 t2 t3 t4, (muX, msDict i1 i2 i3 i4 t1 t2 t3 t4 (.ref 394) ddU fdU bm) ∈ nd
  hfdU : (fdU, fdObj fdUx) ∈ nd
  hlstU : ∃ p n, (lstU, listOf #[.ref p] n) ∈ nd
  bc : BaseIn nd pc 6
  ba : BaseIn nd pa 5
  sep : ∀ p ∈ nd, p.1 ≠ lst ∧ p.1 ≠ dd ∧ p.1 ≠ fdx ∧ p.1 ≠ ddU ∧ p.1 ≠ fdUx ∧ p.1 ≠ 270 ∧ p.1 ≠ 504
  o0 : @LT.lt Nat _ 270 ddU
  o00 : @LT.lt Nat _ 504 ddU
  o3 : @LT.lt Nat _ ddU fdUx
  o4 : @LT.lt Nat _ fdUx dd
  o5 : @LT.lt Nat _ dd fdx
  o6 : @LT.lt Nat _ fdx lst
  lod : (dd == sysModules) = false
  lodU : (ddU == sysModules) = false
theorem cout {w : World} {nd : List (Addr × Obj)} {cv cdx to mu muX ddU fdU fdUx lstU ms mdx dd fd fdx lst pc pa : Addr} {oTo : Obj} {kA kB : Nat} (H : BOut nd cv cdx mu muX ddU fdU fdUx lstU ms mdx dd fd fdx lst pc pa)
  (hto : oTo.IsDictOf (PySem.strKind PySem.Challenge.rw_fq0010_01.row.prog w) []) (lto : (to == sysModules) = false) (hlt : @LT.lt Nat _ lst to) : COut w ((to, oTo) :: (cv, fullObj cdx to ms mu kA kB) :: nd) cv cdx to mu muX ddU fdU fdUx lstU ms mdx dd fd fdx lst pc pa := by
  have up : ∀ p ∈ nd, p ∈ (to, oTo) :: (cv, fullObj cdx to ms mu kA kB) :: nd := fun p hp => .tail _ (.tail _ hp)
  obtain ⟨bm, i1, i2, i3, i4, t1, t2, t3, t4, bmdx, bbm⟩ := H.hmdx
  obtain ⟨bmU, r1, r2, r3, r4, v1, v2, v3, v4, bmuX⟩ := H.hmuX
  obtain ⟨pU, n16, blstU⟩ := H.hlstU
  have a0 := H.o0
  have a00 := H.o00
  have a1 := H.o1
  have a2 := H.o2
  have a3 := H.o3
  have a4 := H.o4
  have a5 := H.o5
  have a6 := H.o6
  refine ⟨⟨kA, kB, .tail _ (.head _)⟩, ⟨oTo, .head _, hto, lto⟩, up _ H.hcd, up _ H.hms, ⟨bm, i1, i2, i3, i4, t1, t2, t3, t4, up _ bmdx, up _ bbm⟩, up _ H.hfd, up _ H.hmu, ⟨bmU, r1, r2, r3, r4, v1, v2, v3, v4, up _ bmuX⟩, up _ H.hfdU, ⟨pU, n16, up _ blstU⟩, H.bc.mono up, H.ba.mono up, fun p hp => ?_, by omega, by omega, H.o3, H.o4, H.o5, H.o6, H.lod, H.lodU⟩
  rcases List.mem_cons.mp hp with rfl | hp
  · refine ⟨?_, ?_, ?_, ?_, ?_, ?_, ?_⟩ <;> (refine neN ?_; dsimp only; omega)
  · rcases List.mem_cons.mp hp with rfl | hp
    · refine ⟨?_, ?_, ?_, ?_, ?_, ?_, ?_⟩ <;> (refine neN ?_; dsimp only; omega)
    · exact (H.sep p hp).2
theorem out6 {g h : Heap} {L : Addr} {x y a b c d e f f' : Addr × Obj} {nd : List (Addr × Obj)} (N : News g L h (x :: y :: a :: b :: c :: d :: e :: f :: f' :: nd)) : News g L h (a :: b :: c :: d :: e :: f :: f' :: x :: y :: nd) := fun q hq => by
  simp only [List.mem_cons] at hq
  refine N q ?_
  simp only [List.mem_cons]
  rcases hq with h | h | h | h | h | h | h | h | h | h <;> simp only [h, true_or, or_true]
theorem flat_nil {kvs : List (Str × Value)} (h : PyProof.V.FlatPairs PyData.str kvs []) : kvs = [] := by cases h; rfl
theorem tab387 {w : World} {h : Heap} (X : (Mine.hd.heap_39 w.params).In h) : StrTab PySem.Challenge.rw_fq0010_01.row.prog w h 387 [] := kt_tab_in _ w X (D := []) (by kernel_rfl) (by decide) (by kernel_rfl)
local macro_rules | `(tactic| walk_at "call type:dict") => `(tactic| (k_here; (with_reducible show wpAny _ _ (call (Value.type "dict") [Value.ref 387]) _ _ _); k_dflt (refine kt_dict_K (knd := PySem.strKind _ _) (enc := PyData.str) (by k_asm) (by k_asm) (Top.nolimit (by k_asm)) (TabAt.ofFr (tab387 (by k_asm)) (by k_asm)) (by decide) ?_); intro d' h' o' kvs' F' N' l1 lo' hd' hf'; (try k_lt l1)))
theorem conv_new0 {w : World} {mean : ExcName → Option Value} {mg mb : Str → Option Value} {dp un : Nat} {gd : Option (List Code)} {cn : Str} {cs : Scope} {a : Addr} {ccd : Value} {cl : List (Str × Addr)} {outer : List Env} {A₀ : Around} {base h₀ : Heap} {L : Addr} {m : Str → Option Value} {news : List (Addr × Obj)} {s : Shared} {Q E : Value → Shared → Prop}
  (B : Below A₀ base outer h₀) (F : Fr h₀ L s.heap m) (X : (Mine.hd.heap_39 w.params).In h₀) (N : News h₀ L s.heap news) (T : Top topProg LO mean mg mb h₀) (hk : cs.kind = .function) (hdp : dp + 80 < recursionLimit) (hun : un + 800 < cLine) {o504 : Obj} (hc1 : CodeHd base 274 270) (hx2 : ∀ p ∈ news, p.1 ≠ 270 ∧ p.1 ≠ 504) (Nt : News h₀ L s.heap ((270, tabObj #[]) :: (504, o504) :: news))
  (hret : ∀ cv cdx to mu muX ddU fdU fdUx lstU ms mdx dd fd fdx lst pc pa c1 c2 c3 c4 od odU n7 j1 j2 u1 u2 j3 j4 u3 u4 nd h' tk', Fr h₀ L h' m →
    News h₀ L h' ((lst, listOf #[.ref pc, .ref pa] n7) :: (dd, od) :: (fdx, fdDict j1 j2 u1 u2 cv lst) :: (ddU, odU) :: (fdUx, fdDict j3 j4 u3 u4 cv lstU) :: (270, tabObj (tri4 c1 c2 c3 c4)) :: (504, o504) :: nd) →
    od.IsDictOf (PySem.strKind PySem.Challenge.rw_fq0010_01.row.prog w) [] → odU.IsDictOf (PySem.strKind PySem.Challenge.rw_fq0010_01.row.prog w) [] → (∀ p ∈ news, p ∈ nd) → (∀ p ∈ news, @LT.lt Nat _ p.1 cv) → COut w nd cv cdx to mu muX ddU fdU fdUx lstU ms mdx dd fd fdx lst pc pa → (∀ c ∈ [c1, c2, c3, c4], CodeIn nd initQ c) → @LT.lt Nat _ cv ddU →
    Q (.ref cv) { s with heap := h', toks := tk' }) :
  wpAny (model PySem.Challenge.rw_fq0010_01.row.prog w) (ktrTop dp un gd cn cs L a ccd cl outer) (call (.ref 453) []) Q E s := by
  clear N
  k_dflt (refine' call_cls ?k1 ?k2 ?k3 ?k4 ?k5 ?k6 ?_; (case k1 => k_asm); (case k2 => k_asm); (case k3 => k_asm); (case k4 => k_is); (case k5 => k_is); (case k6 => k_is); intro x' d' h' F' N' lq1 lq2; (try k_lt2 lq2))
  k_dflt (refine' ks_code_super ?k1 ?k2 ?k3 ?k4 ?k5 ?kA ?kF ?kK ?k6 ?k7 ?k8 ?k9 ?kB ?_ ?c1 ?c2 ?c3 ?c4; (case kA => exact rfl); (case kF => exact rfl); (case kK => first | assumption | exact rfl); (case k1 => k_asm); (case k2 => k_asm); (case k3 => k_asm); (case k4 => k_asm); (case k5 => k_asm); (case k6 => k_is); (case k7 => k_is); (case k8 => k_room); (case k9 => first | exact BindsTo.of_eq rfl | exact binds_K (by k_in) rfl (by k_is) rfl rfl rfl); (case kB => exact locs rfl); (case c1 => decide); (case c2 => exact rfl); (case c3 => exact rfl); (case c4 => exact rfl); intro g' L' h' FG' F' N' B' X' T' l1'; (conv at F' => enter [4, y, 2]; whnf); (try dsimp only))
  k_steps
  unfold Stop2
  (rename News _ _ _ _ => N5)
  (rename Fr _ _ _ _ => F5)
  k_dflt (refine' wpAny_call (method_call (N5 _ (.head _)).1 (base_init0 (news := news) ?B F5 ?X (news_tl (news_tl N5)) ?T ?kk ?kd ?ku hc1 lq2 (lq1 _ (.head _)) (lq1 _ (.tail _ (.head _))) (fun p hp => lq1 p (.tail _ (.tail _ hp))) hx2 ?_)); (case B => assumption); (case X => assumption); (case T => assumption); (case kk => first | exact rfl | assumption); (case kd => ktr_room); (case ku => (simp only [units_under_make, units_deeper]; ktr_units)))
  intro mu muX ddU fdU fdUx lstU ms mdx dd fd fdx lst pc pa c1 c2 c3 c4 od odU kA kB n7 j1 j2 u1 u2 j3 j4 u3 u4 nd hb tkb Fb Nb hod hodU hnn hbo hcc
  clear N5 F5
  have bms := hbo.hms
  have bcd := hbo.hcd
  obtain ⟨bm, i1, i2, i3, i4, t1, t2, t3, t4, bmdx, bbm⟩ := hbo.hmdx
  have bfd := hbo.hfd
  have bmu := hbo.hmu
  obtain ⟨bmU, r1, r2, r3, r4, v1, v2, v3, v4, bmuX⟩ := hbo.hmuX
  have bfdU := hbo.hfdU
  obtain ⟨pU, n16, blstU⟩ := hbo.hlstU
  have sx1 : ∀ p ∈ nd, p.1 ≠ x' := fun p hp => (hbo.sep p hp).1
  have sx2 : ∀ p ∈ nd, p.1 ≠ lst := fun p hp => (hbo.sep p hp).2.1
  have sx3 : ∀ p ∈ nd, p.1 ≠ dd := fun p hp => (hbo.sep p hp).2.2.1
  have sx4 : ∀ p ∈ nd, p.1 ≠ fdx := fun p hp => (hbo.sep p hp).2.2.2.1
  have sx5 : ∀ p ∈ nd, p.1 ≠ ddU := fun p hp => (hbo.sep p hp).2.2.2.2.1
  have sx6 : ∀ p ∈ nd, p.1 ≠ fdUx := fun p hp => (hbo.sep p hp).2.2.2.2.2.1
  have sx7 : ∀ p ∈ nd, p.1 ≠ 270 := fun p hp => (hbo.sep p hp).2.2.2.2.2.2.1
  have oo0 := hbo.o0
  have oo00 := hbo.o00
  have oo1 := hbo.o1
  have oo2 := hbo.o2
  have oo3 := hbo.o3
  have oo4 := hbo.o4
  have oo5 := hbo.o5
  have oo6 := hbo.o6
  k_steps
  (rename News _ _ _ _ => N9)
  (rename Fr _ _ _ _ => F9)
  (rename PyProof.V.FlatPairs _ _ [] => fl9)
  have e9 := flat_nil fl9
  subst e9
  have up : ∀ {x y : Addr × Obj}, ∀ p ∈ nd, p ∈ x :: y :: nd := fun p hp => .tail _ (.tail _ hp)
  refine hret x' d' _ mu muX ddU fdU fdUx lstU ms mdx dd fd fdx lst pc pa c1 c2 c3 c4 od odU n7 j1 j2 u1 u2 j3 j4 u3 u4 _ _ _ F9 (out6 N9) hod hodU (fun p hp => up p (hnn p hp)) (fun p hp => Nat.lt_trans (lq1 p (.tail _ (.tail _ hp))) lq2) (cout hbo (by assumption) (by assumption) ?_) (fun c hc => (hcc c hc).mono up) oo2
  omega
end Mine
namespace Mine
open PySem PySem.W PyProof.Rows PySem.Calls
set_option maxHeartbeats 1000000
/-- what a copy of the converter c reads besides -/
structure CopyIn (w : World) (nd : List (Addr × Obj)) (c : ConvD) : Prop where
  hcv : ∃ kA kB, (c.cv, fullObj c.cdx c.to c.ms c.mu kA kB) ∈ nd
  hto : ∃ o, (c.to, o) ∈ nd ∧ o.IsDictOf (PySem.strKind PySem.Challenge.rw_fq0010_01.row.prog w) [] ∧ (c.to == sysModules) = false
  hmu : ∃ muX ddU fdU bm fdUx lstU p n i1 i2 i3 i4 t1 t2 t3 t4 j1 j2 u1 u2, (c.mu, msObj muX) ∈ nd ∧ (muX, msDict i1 i2 i3 i4 t1 t2 t3 t4 (.ref 394) ddU fdU bm) ∈ nd ∧ (fdU, fdObj fdUx) ∈ nd ∧ (fdUx, fdDict j1 j2 u1 u2 c.cv lstU) ∈ nd ∧ (lstU, listOf #[.ref p] n) ∈ nd
def hooksOf (n l : Bool) : List (Str × Value × Bool) := (if l then [((Str.ofString "later", Value.ref 488, false) : Str × Value × Bool)] else []) ++ (if n then [((Str.ofString "hooked", Value.ref 495, false) : Str × Value × Bool)] else []) ++ [((Str.ofString "falling", Value.ref 523, true) : Str × Value × Bool), (Str.ofString "made", Value.ref 516, true), (Str.ofString "refusing", Value.ref 114, false), (Str.ofString "hooked", Value.ref 481, false)]
theorem ne_obj {h₀ h : Heap} {L x y : Addr} {led : List (Addr × Obj)} {o o' : Obj} (N : News h₀ L h led) (hx : (x, o) ∈ led) (hy : (y, o') ∈ led) (hne : o ≠ o') : x ≠ y := fun e => by
  subst e
  have a := (N _ hx).1
  have b := (N _ hy).1
  dsimp only at a b
  rw [a] at b
  exact hne (Option.some.inj b)
theorem ne_cls {o o' : Obj} (h : o.cls ≠ o'.cls) : o ≠ o' := fun e => h (congrArg Obj.cls e)
theorem ne_data {o o' : Obj} (h : o.data ≠ o'.data) : o ≠ o' := fun e => h (congrArg Obj.data e)
theorem code_ne {oc : Obj} {vs ps : Array Value} {q : Str} {t : Nat} {i : Value} (h1 : oc.data = .fields vs) (h2 : vs[1]? = some (.str q t)) (h3 : ps[1]? = some i) (h4 : i ≠ .str q t) : oc ≠ tabObj ps := fun e => by
  subst e
  cases h1
  rw [h2] at h3
  exact h4 (Option.some.inj h3).symm
section
variable {w : World} {h₀ h : Heap} {L : Addr} {led : List (Addr × Obj)}
/-- the ledger without the two tables -/
abbrev cutT (led : List (Addr × Obj)) : List (Addr × Obj) := led.filter fun p => decide (p.1 ≠ 270 ∧ p.1 ≠ 504)
theorem cutT_in {p : Addr × Obj} (hp : p ∈ led) (h1 : p.1 ≠ 270) (h2 : p.1 ≠ 504) : p ∈ cutT led := List.mem_filter.mpr ⟨hp, decide_eq_true ⟨h1, h2⟩⟩
theorem hook_cut {c0 c1 c2 c3 c4 : Addr} {k : Hk} (N : News h₀ L h led) (m1 : (270, tabObj (tri4 c1 c2 c3 c4)) ∈ led) (m2 : (504, tabObj (tri1 c0)) ∈ led) (H : HookIn led k) : HookIn (cutT led) k := by
  obtain ⟨pf, kc, c', pm, ctv, oc, ok, vs, n, t, tk, h1, h2, h3, h4, h5, h6, h7⟩ := H.ex
  refine ⟨pf, kc, c', pm, ctv, oc, ok, vs, n, t, tk, cutT_in h1 (ne_obj N h1 m1 (ne_cls nofun)) (ne_obj N h1 m2 (ne_cls nofun)), cutT_in h2 (ne_obj N h2 m1 (ne_cls nofun)) (ne_obj N h2 m2 (ne_cls nofun)), cutT_in h3 (ne_obj N h3 m1 (code_ne h4 h5 rfl ?_)) (ne_obj N h3 m2 (code_ne h4 h5 rfl ?_)), h4, h5, cutT_in h6 (ne_obj N h6 m1 (ne_data ?_)) (ne_obj N h6 m2 (ne_data ?_)), h7⟩
  · exact nofun
  · exact nofun
  · rw [h7]; exact nofun
  · rw [h7]; exact nofun
theorem code_cut {c0 c1 c2 c3 c4 c : Addr} {q : Str} (N : News h₀ L h led) (m1 : (270, tabObj (tri4 c1 c2 c3 c4)) ∈ led) (m2 : (504, tabObj (tri1 c0)) ∈ led) (H : CodeIn led q c) : CodeIn (cutT led) q c := by
  obtain ⟨oc, vs, t, h3, h4, h5⟩ := H
  exact ⟨oc, vs, t, cutT_in h3 (ne_obj N h3 m1 (code_ne h4 h5 rfl nofun)) (ne_obj N h3 m2 (code_ne h4 h5 rfl nofun)), h4, h5⟩
theorem conv_out {cv cdx to mu muX ddU fdU fdUx lstU ms mdx dd fd fdx lst pc pa c0 c1 c2 c3 c4 : Addr} {od : Obj} {nl : Nat} {j1 j2 j3 j4 : Int} {u1 u2 u3 u4 : Nat} {nd news : List (Addr × Obj)} (hooks : List Hk)
  (N : News h₀ L h led) (m1 : (270, tabObj (tri4 c1 c2 c3 c4)) ∈ led) (m2 : (504, tabObj (tri1 c0)) ∈ led) (co : COut w nd cv cdx to mu muX ddU fdU fdUx lstU ms mdx dd fd fdx lst pc pa) (hnd : ∀ p ∈ nd, p ∈ led) (hnews : ∀ p ∈ news, p ∈ nd)
  (ml : (lst, listOf (hooks.map (fun (y : Hk) => Value.ref y.1) ++ [Value.ref pc, Value.ref pa]).toArray nl) ∈ led) (md : (dd, od) ∈ led) (hod : od.IsDictOf (PySem.strKind PySem.Challenge.rw_fq0010_01.row.prog w) [])
  (mf : (fdx, fdDict j1 j2 u1 u2 cv lst) ∈ led) (mu_ : (fdUx, fdDict j3 j4 u3 u4 cv lstU) ∈ led) (hk : ∀ k ∈ hooks, HookIn led k) (hc : ∀ c ∈ [c1, c2, c3, c4], CodeIn nd initQ c) (hc0 : CodeIn led isQ c0) :
  ∃ (c : ConvD) (ND : List (Addr × Obj)), c.cv = cv ∧ c.hooks = hooks ∧ News h₀ L h ((270, tabObj (tri4 c1 c2 c3 c4)) :: (504, tabObj (tri1 c0)) :: ND) ∧ ConvIn w ND c ∧ CopyIn w ND c ∧ (∀ p ∈ news, p ∈ ND) ∧ (∀ c ∈ [c1, c2, c3, c4], CodeIn ND initQ c) ∧ CodeIn ND isQ c0 ∧ (∀ p ∈ ND, p.1 ≠ 270 ∧ p.1 ≠ 504) := by
  have up : ∀ p ∈ nd, p ∈ cutT led := fun p hp => cutT_in (hnd p hp) (co.sep p hp).2.2.2.2.2.1 (co.sep p hp).2.2.2.2.2.2
  obtain ⟨bm, i1, i2, i3, i4, t1, t2, t3, t4, bmdx, bbm⟩ := co.hmdx
  obtain ⟨bmU, r1, r2, r3, r4, v1, v2, v3, v4, bmuX⟩ := co.hmuX
  obtain ⟨pU, n16, blstU⟩ := co.hlstU
  obtain ⟨kA, kB, bcv⟩ := co.hcv
  obtain ⟨oTo, bto, hoTo, loTo⟩ := co.hto
  have a0 := co.o0
  have a00 := co.o00
  have a3 := co.o3
  have a4 := co.o4
  have a5 := co.o5
  have a6 := co.o6
  refine ⟨⟨cv, cdx, to, mu, ms, mdx, dd, fd, bm, fdx, lst, od, nl, hooks, pc, pa⟩, cutT led, rfl, rfl, fun p hp => ?_, ⟨up _ co.hcd, ⟨_, _, _, _, _, _, _, up _ bcv⟩, up _ co.hms, ⟨i1, i2, i3, i4, t1, t2, t3, t4, up _ bmdx⟩, up _ bbm, cutT_in md ?_ ?_, hod, co.lod, up _ co.hfd, ⟨j1, j2, u1, u2, cutT_in mf ?_ ?_⟩, cutT_in ml ?_ ?_, fun k hkm => hook_cut N m1 m2 (hk k hkm), co.bc.mono up, co.ba.mono up⟩,
    ⟨⟨kA, kB, up _ bcv⟩, ⟨oTo, up _ bto, hoTo, loTo⟩, ⟨muX, ddU, fdU, bmU, fdUx, lstU, pU, n16, r1, r2, r3, r4, v1, v2, v3, v4, j3, j4, u3, u4, up _ co.hmu, up _ bmuX, up _ co.hfdU, cutT_in mu_ ?_ ?_, up _ blstU⟩⟩, fun p hp => up p (hnews p hp), fun c hcm => (hc c hcm).mono up, code_cut N m1 m2 hc0, fun p hp => of_decide_eq_true (List.mem_filter.mp hp).2⟩
  · rcases List.mem_cons.mp hp with rfl | hp
    · exact N _ m1
    · rcases List.mem_cons.mp hp with rfl | hp
      · exact N _ m2
      · exact N _ (List.mem_filter.mp hp).1
  all_goals (refine neN ?_; dsimp only; omega)
end
end Mine
namespace Mine
open PySem PySem.W PyProof.Rows PySem.Calls
set_option maxHeartbeats 4000000
end Mine
local macro_rules | `(tactic| k_all) => `(tactic| (refine' ne_up ?h ?_; (case h => with_reducible assumption); omega))
namespace Mine
open PySem PySem.W PyProof.Rows PySem.Calls
set_option maxHeartbeats 4000000
local macro_rules | `(tactic| k_all) => `(tactic| (refine' ne_up ?h ?_; (case h => with_reducible assumption); omega))
local macro_rules | `(tactic| walk_at "getAttr ref") => `(tactic| (k_here; (with_reducible show wpAny _ _ (getAttr (Value.ref _) (PySem.Str.ofString "_structure_call") _) _ _ _); k_dflt (refine' get_static0 ?k1 ?k2 ?k4 ?k5 ?k6 ?k7 ?k8 ?k9 ?k11 ?k13 ?k14 ?_; (case k1 => k_asm); (case k2 => k_asm); (case k4 => k_inst); (case k7 => k_is); (case k5 => k_is); (case k6 => first | k_is | exact rfl);  (case k8 => k_is); (case k9 => k_is); (case k11 => decide +kernel); (case k13 => k_is); (case k14 => k_handed); k_whole)))
local macro_rules | `(tactic| walk_at "callWith ref") => `(tactic| (k_here; (with_reducible show wpAny _ _ (callWith _ (Value.ref _) _ (backTo _ (starEach [] _)) []) _ _ _); k_dflt (refine' callWith_K0' ?k1 ?k3 ?k2 ?_; (case k1 => k_asm); (case k3 => k_asm); (case k2 => k_is); k_whole; (try dsimp only [List.nil_append, List.append_nil]))))
local macro_rules | `(tactic| walk_at "callWith ref cons nil") => `(tactic| (k_here; (with_reducible show wpAny _ _ (callWith _ (Value.ref _) _ (backTo _ (starEach [] _)) []) _ _ _); k_dflt (refine' callWith_K0' ?k1 ?k3 ?k2 ?_; (case k1 => k_asm); (case k3 => k_asm); (case k2 => k_is); k_whole; (try dsimp only [List.nil_append, List.append_nil]))))
local macro_rules | `(tactic| walk_at "call ref") => `(tactic| (refine stopT2 ?_))
local macro_rules | `(tactic| walk_at "call ref") => `(tactic| (k_here; k_dflt (refine wpAny_call ?_; (refine' code_def ?k1 ?k2 ?k3 ?k4 ?k5 ?kA ?kF ?kK ?k6 ?k7 ?k8 ?k9 ?kB ?_ ?c2 ?c3 ?c4 ?c5; (case k3 => k_asm); (case k6 => k_is); (case kA => exact rfl); (case kF => exact rfl); (case kK => first | assumption | exact rfl); (case k2 => k_asm); (case k1 => k_asm); (case k4 => k_asm); (case k5 => k_asm); (case k7 => k_is); (case k8 => k_room); (case k9 => first | exact BindsTo.of_eq rfl | exact binds_K (by k_in) rfl (by k_is) rfl rfl rfl); (case c5 => decide); (case kB => exact locs rfl); (case c2 => exact rfl); (case c3 => exact rfl); (case c4 => exact rfl); k_whole; intro g' L' h' FG' F' N' B' X' T'; (conv at F' => enter [4, y, 2]; whnf); (try dsimp only); (try k_lift B'); (try k_fold)))))
local macro_rules | `(tactic| walk_at "call ref") => `(tactic| (k_here; (with_reducible show wpAny _ _ (call (Value.ref 209) _) _ _ _); refine stopT2 ?_))
local macro_rules | `(tactic| walk_at "call ref") => `(tactic| (k_here; (with_reducible show wpAny _ _ (call (Value.ref 241) [_, Value.ref _]) _ _ _); k_dflt (refine' msd_new ?B ?F ?X ?N ?T ?hk ?hd ?hu ?hf ?_; (case B => assumption); (case F => k_asm); (case X => assumption); (case N => k_asm); (case T => assumption); (case hk => first | exact rfl | assumption); (case hd => ktr_room); (case hu => ktr_units); (case hf => first | rfl | assumption)); (intro bm lst fd fdx dd od ms mdx i1 i2 i3 i4 j1 j2 t1 t2 t3 t4 u1 u2 h' tk' F' N' hod' hfl' lod' l0 l1 l2 l3 l4 l5 l6); (try dsimp only [List.nil_append, List.cons_append] at N'); (try k_lt l0); (try k_sweep)))
local macro_rules | `(tactic| walk_at "call ref") => `(tactic| (k_here; (with_reducible show wpAny _ _ (call (Value.ref 209) [Value.ref _, Value.ref _]) _ _ _); k_dflt (refine' rfl2U ?B ?F ?X ?N ?T ?hk ?hd ?hu ?m1 ?m2 ?m3 ?m4 ?m5 ?m6 ?U1 ?U2 ?od ?lod ?hlt ?q1 ?q2 ?q3 ?q4 ?q5 ?q6 ?hvs ?_; (case B => assumption); (case F => k_asm); (case X => assumption); (case N => k_asm); (case T => assumption); (case hk => first | exact rfl | assumption); (case hd => ktr_room); (case hu => ktr_units); (case m1 => k_mem); (case m2 => k_mem); (case m3 => k_mem); (case m4 => k_mem); (case m5 => k_mem); (case m6 => k_mem); (case U1 => k_updF); (case U2 => (intro o'; k_updF)); (case od => assumption); (case lod => assumption); (case hlt => first | with_reducible assumption | omega); (case q1 => first | with_reducible assumption | (constructor <;> omega)); (case q2 => first | with_reducible assumption | (constructor <;> omega)); (case q3 => first | with_reducible assumption | (constructor <;> omega)); (case q4 => first | with_reducible assumption | (constructor <;> omega)); (case q5 => first | with_reducible assumption | (constructor <;> omega)); (case q6 => first | with_reducible assumption | (constructor <;> omega)); (case hvs => exact Nat.le_of_ble_eq_true rfl)); (intro p n3 od' h' tk' F' N' hod' l0); (try dsimp only [List.nil_append, List.cons_append] at N'); (try k_lt l0); (try k_sweep)))
end Mine
local macro_rules | `(tactic| walk_at "call builtin:len") => `(tactic| (k_here; (with_reducible show wpAny _ _ (call (Value.builtin "len") [Value.ref _]) _ _ _); k_dflt (refine' my_len ?n ?z ?hz ?hn ?N ?m ?hs ?_; (case N => k_asm); (case m => k_mem); (first | (case n => exact 1); (case hs => exact rfl); (case z => exact 1) | (case n => exact 2); (case hs => exact rfl); (case z => exact 2) | (case n => exact 3); (case hs => exact rfl); (case z => exact 3) | (case n => exact 6); (case hs => exact rfl); (case z => exact 6) | (case n => exact 7); (case hs => exact rfl); (case z => exact 7)); (case hz => exact rfl); (case hn => omega))))
namespace Mine
open PySem PySem.W PyProof.Rows PySem.Calls
set_option maxHeartbeats 4000000
local macro_rules | `(tactic| k_all) => `(tactic| (refine' ne_up ?h ?_; (case h => with_reducible assumption); omega))
local macro_rules | `(tactic| walk_at "getAttr ref") => `(tactic| (k_here; (with_reducible show wpAny _ _ (getAttr (Value.ref _) (PySem.Str.ofString "_structure_call") _) _ _ _); k_dflt (refine' get_static0 ?k1 ?k2 ?k4 ?k5 ?k6 ?k7 ?k8 ?k9 ?k11 ?k13 ?k14 ?_; (case k1 => k_asm); (case k2 => k_asm); (case k4 => k_inst); (case k7 => k_is); (case k5 => k_is); (case k6 => first | k_is | exact rfl);  (case k8 => k_is); (case k9 => k_is); (case k11 => decide +kernel); (case k13 => k_is); (case k14 => k_handed); k_whole)))
local macro_rules | `(tactic| walk_at "callWith ref") => `(tactic| (k_here; (with_reducible show wpAny _ _ (callWith _ (Value.ref _) _ (backTo _ (starEach [] _)) []) _ _ _); k_dflt (refine' callWith_K0' ?k1 ?k3 ?k2 ?_; (case k1 => k_asm); (case k3 => k_asm); (case k2 => k_is); k_whole; (try dsimp only [List.nil_append, List.append_nil]))))
local macro_rules | `(tactic| walk_at "callWith ref cons nil") => `(tactic| (k_here; (with_reducible show wpAny _ _ (callWith _ (Value.ref _) _ (backTo _ (starEach [] _)) []) _ _ _); k_dflt (refine' callWith_K0' ?k1 ?k3 ?k2 ?_; (case k1 => k_asm); (case k3 => k_asm); (case k2 => k_is); k_whole; (try dsimp only [List.nil_append, List.append_nil]))))
local macro_rules | `(tactic| walk_at "call ref") => `(tactic| (refine stopT2 ?_))
local macro_rules | `(tactic| walk_at "call ref") => `(tactic| (k_here; k_dflt (refine wpAny_call ?_; (refine' code_def ?k1 ?k2 ?k3 ?k4 ?k5 ?kA ?kF ?kK ?k6 ?k7 ?k8 ?k9 ?kB ?_ ?c2 ?c3 ?c4 ?c5; (case k3 => k_asm); (case k6 => k_is); (case kA => exact rfl); (case kF => exact rfl); (case kK => first | assumption | exact rfl); (case k2 => k_asm); (case k1 => k_asm); (case k4 => k_asm); (case k5 => k_asm); (case k7 => k_is); (case k8 => k_room); (case k9 => first | exact BindsTo.of_eq rfl | exact binds_K (by k_in) rfl (by k_is) rfl rfl rfl); (case c5 => decide); (case kB => exact locs rfl); (case c2 => exact rfl); (case c3 => exact rfl); (case c4 => exact rfl); k_whole; intro g' L' h' FG' F' N' B' X' T'; (conv at F' => enter [4, y, 2]; whnf); (try dsimp only); (try k_lift B'); (try k_fold)))))
local macro_rules | `(tactic| walk_at "call ref") => `(tactic| (k_here; (with_reducible show wpAny _ _ (call (Value.ref 209) _) _ _ _); refine stopT2 ?_))
local macro_rules | `(tactic| walk_at "call ref") => `(tactic| (k_here; (with_reducible show wpAny _ _ (call (Value.ref 241) [_, Value.ref _]) _ _ _); k_dflt (refine' msd_new ?B ?F ?X ?N ?T ?hk ?hd ?hu ?hf ?_; (case B => assumption); (case F => k_asm); (case X => assumption); (case N => k_asm); (case T => assumption); (case hk => first | exact rfl | assumption); (case hd => ktr_room); (case hu => ktr_units); (case hf => first | rfl | assumption)); (intro bm lst fd fdx dd od ms mdx i1 i2 i3 i4 j1 j2 t1 t2 t3 t4 u1 u2 h' tk' F' N' hod' hfl' lod' l0 l1 l2 l3 l4 l5 l6); (try dsimp only [List.nil_append, List.cons_append] at N'); (try k_lt l0); (try k_sweep)))
local macro_rules | `(tactic| walk_at "call ref") => `(tactic| (k_here; (with_reducible show wpAny _ _ (call (Value.ref 209) [Value.ref _, Value.ref _]) _ _ _); k_dflt (refine' rfl2U ?B ?F ?X ?N ?T ?hk ?hd ?hu ?m1 ?m2 ?m3 ?m4 ?m5 ?m6 ?U1 ?U2 ?od ?lod ?hlt ?q1 ?q2 ?q3 ?q4 ?q5 ?q6 ?hvs ?_; (case B => assumption); (case F => k_asm); (case X => assumption); (case N => k_asm); (case T => assumption); (case hk => first | exact rfl | assumption); (case hd => ktr_room); (case hu => ktr_units); (case m1 => k_mem); (case m2 => k_mem); (case m3 => k_mem); (case m4 => k_mem); (case m5 => k_mem); (case m6 => k_mem); (case U1 => k_updF); (case U2 => (intro o'; k_updF)); (case od => assumption); (case lod => assumption); (case hlt => first | with_reducible assumption | omega); (case q1 => first | with_reducible assumption | (constructor <;> omega)); (case q2 => first | with_reducible assumption | (constructor <;> omega)); (case q3 => first | with_reducible assumption | (constructor <;> omega)); (case q4 => first | with_reducible assumption | (constructor <;> omega)); (case q5 => first | with_reducible assumption | (constructor <;> omega)); (case q6 => first | with_reducible assumption | (constructor <;> omega)); (case hvs => exact Nat.le_of_ble_eq_true rfl)); (intro p n3 od' h' tk' F' N' hod' l0); (try dsimp only [List.nil_append, List.cons_append] at N'); (try k_lt l0); (try k_sweep)))
local macro_rules | `(tactic| walk_at "call builtin:len") => `(tactic| (k_here; (with_reducible show wpAny _ _ (call (Value.builtin "len") [Value.ref _]) _ _ _); k_dflt (refine' my_len ?n ?z ?hz ?hn ?N ?m ?hs ?_; (case N => k_asm); (case m => k_mem); (first | (case n => exact 1); (case hs => exact rfl); (case z => exact 1) | (case n => exact 2); (case hs => exact rfl); (case z => exact 2) | (case n => exact 3); (case hs => exact rfl); (case z => exact 3) | (case n => exact 6); (case hs => exact rfl); (case z => exact 6) | (case n => exact 7); (case hs => exact rfl); (case z => exact 7)); (case hz => exact rfl); (case hn => omega))))
local macro_rules | `(tactic| walk_at "call ref") => `(tactic| (k_here; (with_reducible show wpAny _ _ (call (Value.ref 453) _ _) _ _ _); refine stopT2 ?_))
local macro_rules | `(tactic| walk_at "call ref") => `(tactic| (k_here; (with_reducible show wpAny _ _ (call (Value.ref 509) [Value.str _ _]) _ _ _); k_dflt (first
  | (refine' law_is0U ?B ?F ?X ?N ?T ?hk ?hd ?hu ?hc ?U ?_; (case B => assumption); (case F => k_asm); (case X => assumption); (case N => k_asm); (case T => assumption); (case hk => first | exact rfl | assumption); (case hd => ktr_room); (case hu => ktr_units); (case hc => assumption); (case U => k_updF); (intro f' c' kc' oc' ok' vs' t' pm' ct' h' tk' F' N' d1' d2' d3' l0 l1 l2); (try dsimp only at N'); (try k_lt l0))
  | (refine' law_is1 ?B ?F ?X ?N ?T ?hk ?hd ?hu ?hc ?m ?_; (case B => assumption); (case F => k_asm); (case X => assumption); (case N => k_asm); (case T => assumption); (case hk => first | exact rfl | assumption); (case hd => ktr_room); (case hu => ktr_units); (case hc => assumption); (case m => k_mem); (intro f' kc' ok' pm' ct' h' tk' F' N' d3' l0 l2); (try k_lt l0)))))
local macro_rules | `(tactic| walk_at "call ref") => `(tactic| (k_here; (with_reducible show wpAny _ _ (call (Value.ref 313) [Value.ref _, Value.ref _, _]) _ _ _); k_dflt (refine' hook_funcU ?B ?F ?X ?N ?T ?hk ?hd ?hu ?m1 ?m2 ?m3 ?m4 ?m5 ?m6 ?U1 ?U2 ?od ?lod ?hlt ?q1 ?q2 ?q3 ?q4 ?q5 ?q6 ?hvs ?_; (case B => assumption); (case F => k_asm); (case X => assumption); (case N => k_asm); (case T => assumption); (case hk => first | exact rfl | assumption); (case hd => ktr_room); (case hu => ktr_units); (case m1 => k_mem); (case m2 => k_mem); (case m3 => k_mem); (case m4 => k_mem); (case m5 => k_mem); (case m6 => k_mem); (case U1 => k_updF); (case U2 => (intro o'; k_updF)); (case od => assumption); (case lod => assumption); (case hlt => first | with_reducible assumption | omega); (case q1 => first | with_reducible assumption | (constructor <;> omega)); (case q2 => first | with_reducible assumption | (constructor <;> omega)); (case q3 => first | with_reducible assumption | (constructor <;> omega)); (case q4 => first | with_reducible assumption | (constructor <;> omega)); (case q5 => first | with_reducible assumption | (constructor <;> omega)); (case q6 => first | with_reducible assumption | (constructor <;> omega)); (case hvs => exact Nat.le_of_ble_eq_true rfl)); (intro p n3 od' h' tk' F' N' hod' l0); (try dsimp only at N'); (try k_lt l0)))
local macro_rules | `(tactic| walk_at "call ref") => `(tactic| (k_here; (with_reducible show wpAny _ _ (call (Value.ref 427) [Value.ref _, Value.ref _, _]) _ _ _); k_dflt (refine' conv_factoryU ?B ?F ?X ?N ?T ?hk ?hd ?hu ?m1 ?m2 ?m3 ?m4 ?m5 ?m6 ?U1 ?U2 ?od ?lod ?hlt ?q1 ?q2 ?q3 ?q4 ?q5 ?q6 ?hvs ?_; (case B => assumption); (case F => k_asm); (case X => assumption); (case N => k_asm); (case T => assumption); (case hk => first | exact rfl | assumption); (case hd => ktr_room); (case hu => ktr_units); (case m1 => k_mem); (case m2 => k_mem); (case m3 => k_mem); (case m4 => k_mem); (case m5 => k_mem); (case m6 => k_mem); (case U1 => k_updF); (case U2 => (intro o'; k_updF)); (case od => assumption); (case lod => assumption); (case hlt => first | with_reducible assumption | omega); (case q1 => first | with_reducible assumption | (constructor <;> omega)); (case q2 => first | with_reducible assumption | (constructor <;> omega)); (case q3 => first | with_reducible assumption | (constructor <;> omega)); (case q4 => first | with_reducible assumption | (constructor <;> omega)); (case q5 => first | with_reducible assumption | (constructor <;> omega)); (case q6 => first | with_reducible assumption | (constructor <;> omega)); (case hvs => exact Nat.le_of_ble_eq_true rfl)); (intro p n3 od' h' tk' F' N' hod' l0); (try dsimp only at N'); (try k_lt l0)))
theorem law_conv {w : World} {mean : ExcName → Option Value} {mg mb : Str → Option Value} {nb : Bool} {dp un : Nat} {gd : Option (List Code)} {cn : Str} {cs : Scope} {a : Addr} {ccd : Value} {cl : List (Str × Addr)} {outer : List Env} {A₀ : Around} {base h₀ : Heap} {L : Addr} {m : Str → Option Value} {s : Shared} {R : Result → Shared → Prop} {news : List (Addr × Obj)}
  (B : Below A₀ base outer h₀) (F : Fr h₀ L s.heap m) (X : (Mine.hd.heap_39 w.params).In h₀) (N : News h₀ L s.heap ((270, tabObj #[]) :: (504, tabObj #[]) :: news)) (T : Top topProg LO mean mg mb h₀) (hk : cs.kind = .function) (hdp : dp + 100 < recursionLimit) (hun : un + 1000 < cLine)
  (hc1 : CodeHd base 274 270) (hc2 : CodeHd base 508 504) (hx2 : ∀ p ∈ news, p.1 ≠ 270 ∧ p.1 ≠ 504)
  (hret : ∀ (c : ConvD) c0 c1 c2 c3 c4 ND h' tk', Fr h₀ L h' m → News h₀ L h' ((270, tabObj (tri4 c1 c2 c3 c4)) :: (504, tabObj (tri1 c0)) :: ND) → ConvIn w ND c → CopyIn w ND c → c.hooks.map (·.2) = hooksOf nb false → (∀ p ∈ news, p ∈ ND) → (∀ c ∈ [c1, c2, c3, c4], CodeIn ND initQ c) → CodeIn ND isQ c0 → (∀ p ∈ ND, p.1 ≠ 270 ∧ p.1 ≠ 504) →
    R (.ok (.ret (.ref c.cv))) { s with heap := h', toks := tk' }) :
  codeAny (model PySem.Challenge.rw_fq0010_01.row.prog w) (ktrTop dp un gd cn cs L a ccd cl outer) (.call (.ref 530) ⟨[.bool nb], []⟩) R s := by
  (try refine wpAny_call ?_)
  k_dflt (refine' code_def ?k1 ?k2 ?k3 ?k4 ?k5 ?kA ?kF ?kK ?k6 ?k7 ?k8 ?k9 ?kB ?_ ?c2 ?c3 ?c4 ?c5; (case kA => exact rfl); (case kF => exact rfl); (case kK => assumption); (case k1 => k_asm); (case k2 => k_asm); (case k3 => k_asm); (case k4 => k_asm); (case k5 => k_asm); (case k6 => k_is); (case k7 => k_is); (case k8 => ktr_room); (case k9 => first | exact BindsTo.of_eq rfl | exact binds_K (by k_in) rfl (by k_is) rfl rfl rfl); (case c5 => decide); (case kB => exact locs rfl); (case c2 => exact rfl); (case c3 => exact rfl); (case c4 => exact rfl); k_whole; intro g' L' h' FG' F' N' B' X' T'; (conv at F' => enter [4, y, 2]; whnf); (try dsimp only); (try k_fold))
  k_steps
  unfold Stop2
  (rename News _ _ _ _ => N5)
  (rename Fr _ _ _ _ => F5)
  k_dflt (refine' conv_new0 (news := news) (o504 := tabObj #[]) ?B F5 ?X ?NN ?T ?kk ?kd ?ku hc1 hx2 N5 ?_; (case B => assumption); (case X => assumption); (case T => assumption); (case NN => exact news_tl (news_tl N5)); (case kk => first | exact rfl | assumption); (case kd => ktr_room); (case ku => ktr_units))
  intro cv cdx to mu muX ddU fdU fdUx lstU ms mdx dd fd fdx lst pc pa c1 c2 c3 c4 od odU n7 j1 j2 u1 u2 j3 j4 u3 u4 nd hb tkb Fb Nb hod hodU hnn hnlt co hcc oo1
  have sx1 : ∀ p ∈ nd, p.1 ≠ lst := fun p hp => (co.sep p hp).1
  have sx2 : ∀ p ∈ nd, p.1 ≠ dd := fun p hp => (co.sep p hp).2.1
  have sx6 : ∀ p ∈ nd, p.1 ≠ 504 := fun p hp => (co.sep p hp).2.2.2.2.2.2
  obtain ⟨kA, kB, bcv⟩ := co.hcv
  have bcd := co.hcd
  have bms := co.hms
  obtain ⟨bm, i1, i2, i3, i4, t1, t2, t3, t4, bmdx, bbm⟩ := co.hmdx
  have bfd := co.hfd
  have e1 : @Ne Nat cv lst ∧ @Ne Nat cv dd := ⟨sx1 _ bcv, sx2 _ bcv⟩
  have e2 : @Ne Nat cdx lst ∧ @Ne Nat cdx dd := ⟨sx1 _ bcd, sx2 _ bcd⟩
  have e3 : @Ne Nat ms lst ∧ @Ne Nat ms dd := ⟨sx1 _ bms, sx2 _ bms⟩
  have e4 : @Ne Nat mdx lst ∧ @Ne Nat mdx dd := ⟨sx1 _ bmdx, sx2 _ bmdx⟩
  have e5 : @Ne Nat fd lst ∧ @Ne Nat fd dd := ⟨sx1 _ bfd, sx2 _ bfd⟩
  have oo0 := co.o0
  have oo00 := co.o00
  have oo3 := co.o3
  have oo4 := co.o4
  have oo5 := co.o5
  have oo6 := co.o6
  have lod := co.lod
  have e6 : @Ne Nat fdx lst ∧ @Ne Nat fdx dd := ⟨by omega, by omega⟩
  have e7 : @LT.lt Nat _ dd lst := by omega
  k_steps
  · (rename News _ _ _ _ => N9)
    (rename Fr _ _ _ _ => F9)
    (rename nb = _ => hnb)
    subst hnb
    refine' Exists.elim (conv_out (news := news) [((_, Str.ofString "hooked", Value.ref 495, false) : Hk), ((_, Str.ofString "falling", Value.ref 523, true) : Hk), (_, Str.ofString "made", Value.ref 516, true), (_, Str.ofString "refusing", Value.ref 114, false), (_, Str.ofString "hooked", Value.ref 481, false)] N9 ?m1 ?m2 co ?hnd hnn ?ml ?md ?hod ?mf ?mu_ ?hk hcc ?hc0) ?fin
    case m1 => k_mem
    case m2 => k_mem
    case hnd => (intro p hp; (repeat first | (with_reducible exact hp) | (with_reducible refine List.mem_cons_of_mem _ ?_)))
    case ml => k_mem
    case md => k_mem
    case hod => assumption
    case mf => k_mem
    case mu_ => k_mem
    case hc0 => exact ⟨_, _, _, by k_mem, by assumption, by assumption⟩
    case hk => exact List.forall_mem_cons.mpr ⟨⟨⟨_, _, _, _, _, _, _, _, _, _, _, by k_mem, by k_mem, by k_mem, by assumption, by assumption, by k_mem, by assumption⟩⟩, List.forall_mem_cons.mpr ⟨⟨⟨_, _, _, _, _, _, _, _, _, _, _, by k_mem, by k_mem, by k_mem, by assumption, by assumption, by k_mem, by assumption⟩⟩, List.forall_mem_cons.mpr ⟨⟨⟨_, _, _, _, _, _, _, _, _, _, _, by k_mem, by k_mem, by k_mem, by assumption, by assumption, by k_mem, by assumption⟩⟩, List.forall_mem_cons.mpr ⟨⟨⟨_, _, _, _, _, _, _, _, _, _, _, by k_mem, by k_mem, by k_mem, by assumption, by assumption, by k_mem, by assumption⟩⟩, List.forall_mem_cons.mpr ⟨⟨⟨_, _, _, _, _, _, _, _, _, _, _, by k_mem, by k_mem, by k_mem, by assumption, by assumption, by k_mem, by assumption⟩⟩, List.forall_mem_nil _⟩⟩⟩⟩⟩
    case fin =>
      rintro c ⟨ND, e1, e2, Nn, ci, cp, hn', hc', hc0', sp⟩
      rw [← e1]
      exact hret c _ _ _ _ _ ND _ _ F9 Nn ci cp (by rw [e2]; rfl) hn' hc' hc0' sp
  · (rename News _ _ _ _ => N9)
    (rename Fr _ _ _ _ => F9)
    (rename nb = _ => hnb)
    subst hnb
    refine' Exists.elim (conv_out (news := news) [((_, Str.ofString "falling", Value.ref 523, true) : Hk), (_, Str.ofString "made", Value.ref 516, true), (_, Str.ofString "refusing", Value.ref 114, false), (_, Str.ofString "hooked", Value.ref 481, false)] N9 ?m1 ?m2 co ?hnd hnn ?ml ?md ?hod ?mf ?mu_ ?hk hcc ?hc0) ?fin
    case m1 => k_mem
    case m2 => k_mem
    case hnd => (intro p hp; (repeat first | (with_reducible exact hp) | (with_reducible refine List.mem_cons_of_mem _ ?_)))
    case ml => k_mem
    case md => k_mem
    case hod => assumption
    case mf => k_mem
    case mu_ => k_mem
    case hc0 => exact ⟨_, _, _, by k_mem, by assumption, by assumption⟩
    case hk => exact List.forall_mem_cons.mpr ⟨⟨⟨_, _, _, _, _, _, _, _, _, _, _, by k_mem, by k_mem, by k_mem, by assumption, by assumption, by k_mem, by assumption⟩⟩, List.forall_mem_cons.mpr ⟨⟨⟨_, _, _, _, _, _, _, _, _, _, _, by k_mem, by k_mem, by k_mem, by assumption, by assumption, by k_mem, by assumption⟩⟩, List.forall_mem_cons.mpr ⟨⟨⟨_, _, _, _, _, _, _, _, _, _, _, by k_mem, by k_mem, by k_mem, by assumption, by assumption, by k_mem, by assumption⟩⟩, List.forall_mem_cons.mpr ⟨⟨⟨_, _, _, _, _, _, _, _, _, _, _, by k_mem, by k_mem, by k_mem, by assumption, by assumption, by k_mem, by assumption⟩⟩, List.forall_mem_nil _⟩⟩⟩⟩
    case fin =>
      rintro c ⟨ND, e1, e2, Nn, ci, cp, hn', hc', hc0', sp⟩
      rw [← e1]
      exact hret c _ _ _ _ _ ND _ _ F9 Nn ci cp (by rw [e2]; rfl) hn' hc' hc0' sp
end Mine
namespace Mine
open PySem PySem.W PyProof.Rows PySem.Calls
set_option maxHeartbeats 4000000
end Mine
local macro_rules | `(tactic| k_all) => `(tactic| (refine' ne_up ?h ?_; (case h => with_reducible assumption); omega))
namespace Mine
open PySem PySem.W PyProof.Rows PySem.Calls
set_option maxHeartbeats 4000000
local macro_rules | `(tactic| k_all) => `(tactic| (refine' ne_up ?h ?_; (case h => with_reducible assumption); omega))
local macro_rules | `(tactic| walk_at "getAttr ref") => `(tactic| (k_here; (with_reducible show wpAny _ _ (getAttr (Value.ref _) (PySem.Str.ofString "_structure_call") _) _ _ _); k_dflt (refine' get_static0 ?k1 ?k2 ?k4 ?k5 ?k6 ?k7 ?k8 ?k9 ?k11 ?k13 ?k14 ?_; (case k1 => k_asm); (case k2 => k_asm); (case k4 => k_inst); (case k7 => k_is); (case k5 => k_is); (case k6 => first | k_is | exact rfl);  (case k8 => k_is); (case k9 => k_is); (case k11 => decide +kernel); (case k13 => k_is); (case k14 => k_handed); k_whole)))
local macro_rules | `(tactic| walk_at "callWith ref") => `(tactic| (k_here; (with_reducible show wpAny _ _ (callWith _ (Value.ref _) _ (backTo _ (starEach [] _)) []) _ _ _); k_dflt (refine' callWith_K0' ?k1 ?k3 ?k2 ?_; (case k1 => k_asm); (case k3 => k_asm); (case k2 => k_is); k_whole; (try dsimp only [List.nil_append, List.append_nil]))))
local macro_rules | `(tactic| walk_at "callWith ref cons nil") => `(tactic| (k_here; (with_reducible show wpAny _ _ (callWith _ (Value.ref _) _ (backTo _ (starEach [] _)) []) _ _ _); k_dflt (refine' callWith_K0' ?k1 ?k3 ?k2 ?_; (case k1 => k_asm); (case k3 => k_asm); (case k2 => k_is); k_whole; (try dsimp only [List.nil_append, List.append_nil]))))
local macro_rules | `(tactic| walk_at "call ref") => `(tactic| (refine stopT2 ?_))
local macro_rules | `(tactic| walk_at "call ref") => `(tactic| (k_here; k_dflt (refine wpAny_call ?_; (refine' code_def ?k1 ?k2 ?k3 ?k4 ?k5 ?kA ?kF ?kK ?k6 ?k7 ?k8 ?k9 ?kB ?_ ?c2 ?c3 ?c4 ?c5; (case k3 => k_asm); (case k6 => k_is); (case kA => exact rfl); (case kF => exact rfl); (case kK => first | assumption | exact rfl); (case k2 => k_asm); (case k1 => k_asm); (case k4 => k_asm); (case k5 => k_asm); (case k7 => k_is); (case k8 => k_room); (case k9 => first | exact BindsTo.of_eq rfl | exact binds_K (by k_in) rfl (by k_is) rfl rfl rfl); (case c5 => decide); (case kB => exact locs rfl); (case c2 => exact rfl); (case c3 => exact rfl); (case c4 => exact rfl); k_whole; intro g' L' h' FG' F' N' B' X' T'; (conv at F' => enter [4, y, 2]; whnf); (try dsimp only); (try k_lift B'); (try k_fold)))))
local macro_rules | `(tactic| walk_at "call ref") => `(tactic| (k_here; (with_reducible show wpAny _ _ (call (Value.ref 209) _) _ _ _); refine stopT2 ?_))
local macro_rules | `(tactic| walk_at "call ref") => `(tactic| (k_here; (with_reducible show wpAny _ _ (call (Value.ref 241) [_, Value.ref _]) _ _ _); k_dflt (refine' msd_new ?B ?F ?X ?N ?T ?hk ?hd ?hu ?hf ?_; (case B => assumption); (case F => k_asm); (case X => assumption); (case N => k_asm); (case T => assumption); (case hk => first | exact rfl | assumption); (case hd => ktr_room); (case hu => ktr_units); (case hf => first | rfl | assumption)); (intro bm lst fd fdx dd od ms mdx i1 i2 i3 i4 j1 j2 t1 t2 t3 t4 u1 u2 h' tk' F' N' hod' hfl' lod' l0 l1 l2 l3 l4 l5 l6); (try dsimp only [List.nil_append, List.cons_append] at N'); (try k_lt l0); (try k_sweep)))
local macro_rules | `(tactic| walk_at "call ref") => `(tactic| (k_here; (with_reducible show wpAny _ _ (call (Value.ref 209) [Value.ref _, Value.ref _]) _ _ _); k_dflt (refine' rfl2U ?B ?F ?X ?N ?T ?hk ?hd ?hu ?m1 ?m2 ?m3 ?m4 ?m5 ?m6 ?U1 ?U2 ?od ?lod ?hlt ?q1 ?q2 ?q3 ?q4 ?q5 ?q6 ?hvs ?_; (case B => assumption); (case F => k_asm); (case X => assumption); (case N => k_asm); (case T => assumption); (case hk => first | exact rfl | assumption); (case hd => ktr_room); (case hu => ktr_units); (case m1 => k_mem); (case m2 => k_mem); (case m3 => k_mem); (case m4 => k_mem); (case m5 => k_mem); (case m6 => k_mem); (case U1 => k_updF); (case U2 => (intro o'; k_updF)); (case od => assumption); (case lod => assumption); (case hlt => omega); (case q1 => (constructor <;> omega)); (case q2 => (constructor <;> omega)); (case q3 => (constructor <;> omega)); (case q4 => (constructor <;> omega)); (case q5 => (constructor <;> omega)); (case q6 => (constructor <;> omega)); (case hvs => exact Nat.le_of_ble_eq_true rfl)); (intro p n3 od' h' tk' F' N' hod' l0); (try dsimp only [List.nil_append, List.cons_append] at N'); (try k_lt l0); (try k_sweep)))
end Mine
local macro_rules | `(tactic| walk_at "call builtin:len") => `(tactic| (k_here; (with_reducible show wpAny _ _ (call (Value.builtin "len") [Value.ref _]) _ _ _); k_dflt (refine' my_len ?n ?z ?hz ?hn ?N ?m ?hs ?_; (case N => k_asm); (case m => k_mem); (first | (case n => exact 1); (case hs => exact rfl); (case z => exact 1) | (case n => exact 2); (case hs => exact rfl); (case z => exact 2) | (case n => exact 3); (case hs => exact rfl); (case z => exact 3) | (case n => exact 6); (case hs => exact rfl); (case z => exact 6) | (case n => exact 7); (case hs => exact rfl); (case z => exact 7)); (case hz => exact rfl); (case hn => omega))))
namespace Mine
open PySem PySem.W PyProof.Rows PySem.Calls
set_option maxHeartbeats 4000000
local macro_rules | `(tactic| k_all) => `(tactic| (refine' ne_up ?h ?_; (case h => with_reducible assumption); omega))
local macro_rules | `(tactic| walk_at "getAttr ref") => `(tactic| (k_here; (with_reducible show wpAny _ _ (getAttr (Value.ref _) (PySem.Str.ofString "_structure_call") _) _ _ _); k_dflt (refine' get_static0 ?k1 ?k2 ?k4 ?k5 ?k6 ?k7 ?k8 ?k9 ?k11 ?k13 ?k14 ?_; (case k1 => k_asm); (case k2 => k_asm); (case k4 => k_inst); (case k7 => k_is); (case k5 => k_is); (case k6 => first | k_is | exact rfl);  (case k8 => k_is); (case k9 => k_is); (case k11 => decide +kernel); (case k13 => k_is); (case k14 => k_handed); k_whole)))
local macro_rules | `(tactic| walk_at "callWith ref") => `(tactic| (k_here; (with_reducible show wpAny _ _ (callWith _ (Value.ref _) _ (backTo _ (starEach [] _)) []) _ _ _); k_dflt (refine' callWith_K0' ?k1 ?k3 ?k2 ?_; (case k1 => k_asm); (case k3 => k_asm); (case k2 => k_is); k_whole; (try dsimp only [List.nil_append, List.append_nil]))))
local macro_rules | `(tactic| walk_at "callWith ref cons nil") => `(tactic| (k_here; (with_reducible show wpAny _ _ (callWith _ (Value.ref _) _ (backTo _ (starEach [] _)) []) _ _ _); k_dflt (refine' callWith_K0' ?k1 ?k3 ?k2 ?_; (case k1 => k_asm); (case k3 => k_asm); (case k2 => k_is); k_whole; (try dsimp only [List.nil_append, List.append_nil]))))
local macro_rules | `(tactic| walk_at "call ref") => `(tactic| (refine stopT2 ?_))
local macro_rules | `(tactic| walk_at "call ref") => `(tactic| (k_here; k_dflt (refine wpAny_call ?_; (refine' code_def ?k1 ?k2 ?k3 ?k4 ?k5 ?kA ?kF ?kK ?k6 ?k7 ?k8 ?k9 ?kB ?_ ?c2 ?c3 ?c4 ?c5; (case k3 => k_asm); (case k6 => k_is); (case kA => exact rfl); (case kF => exact rfl); (case kK => first | assumption | exact rfl); (case k2 => k_asm); (case k1 => k_asm); (case k4 => k_asm); (case k5 => k_asm); (case k7 => k_is); (case k8 => k_room); (case k9 => first | exact BindsTo.of_eq rfl | exact binds_K (by k_in) rfl (by k_is) rfl rfl rfl); (case c5 => decide); (case kB => exact locs rfl); (case c2 => exact rfl); (case c3 => exact rfl); (case c4 => exact rfl); k_whole; intro g' L' h' FG' F' N' B' X' T'; (conv at F' => enter [4, y, 2]; whnf); (try dsimp only); (try k_lift B'); (try k_fold)))))
local macro_rules | `(tactic| walk_at "call ref") => `(tactic| (k_here; (with_reducible show wpAny _ _ (call (Value.ref 209) _) _ _ _); refine stopT2 ?_))
local macro_rules | `(tactic| walk_at "call ref") => `(tactic| (k_here; (with_reducible show wpAny _ _ (call (Value.ref 241) [_, Value.ref _]) _ _ _); k_dflt (refine' msd_new ?B ?F ?X ?N ?T ?hk ?hd ?hu ?hf ?_; (case B => assumption); (case F => k_asm); (case X => assumption); (case N => k_asm); (case T => assumption); (case hk => first | exact rfl | assumption); (case hd => ktr_room); (case hu => ktr_units); (case hf => first | rfl | assumption)); (intro bm lst fd fdx dd od ms mdx i1 i2 i3 i4 j1 j2 t1 t2 t3 t4 u1 u2 h' tk' F' N' hod' hfl' lod' l0 l1 l2 l3 l4 l5 l6); (try dsimp only [List.nil_append, List.cons_append] at N'); (try k_lt l0); (try k_sweep)))
local macro_rules | `(tactic| walk_at "call ref") => `(tactic| (k_here; (with_reducible show wpAny _ _ (call (Value.ref 209) [Value.ref _, Value.ref _]) _ _ _); k_dflt (refine' rfl2U ?B ?F ?X ?N ?T ?hk ?hd ?hu ?m1 ?m2 ?m3 ?m4 ?m5 ?m6 ?U1 ?U2 ?od ?lod ?hlt ?q1 ?q2 ?q3 ?q4 ?q5 ?q6 ?hvs ?_; (case B => assumption); (case F => k_asm); (case X => assumption); (case N => k_asm); (case T => assumption); (case hk => first | exact rfl | assumption); (case hd => ktr_room); (case hu => ktr_units); (case m1 => k_mem); (case m2 => k_mem); (case m3 => k_mem); (case m4 => k_mem); (case m5 => k_mem); (case m6 => k_mem); (case U1 => k_updF); (case U2 => (intro o'; k_updF)); (case od => assumption); (case lod => assumption); (case hlt => omega); (case q1 => (constructor <;> omega)); (case q2 => (constructor <;> omega)); (case q3 => (constructor <;> omega)); (case q4 => (constructor <;> omega)); (case q5 => (constructor <;> omega)); (case q6 => (constructor <;> omega)); (case hvs => exact Nat.le_of_ble_eq_true rfl)); (intro p n3 od' h' tk' F' N' hod' l0); (try dsimp only [List.nil_append, List.cons_append] at N'); (try k_lt l0); (try k_sweep)))
local macro_rules | `(tactic| walk_at "call builtin:len") => `(tactic| (k_here; (with_reducible show wpAny _ _ (call (Value.builtin "len") [Value.ref _]) _ _ _); k_dflt (refine' my_len ?n ?z ?hz ?hn ?N ?m ?hs ?_; (case N => k_asm); (case m => k_mem); (first | (case n => exact 1); (case hs => exact rfl); (case z => exact 1) | (case n => exact 2); (case hs => exact rfl); (case z => exact 2) | (case n => exact 3); (case hs => exact rfl); (case z => exact 3) | (case n => exact 6); (case hs => exact rfl); (case z => exact 6) | (case n => exact 7); (case hs => exact rfl); (case z => exact 7)); (case hz => exact rfl); (case hn => omega))))
local macro_rules | `(tactic| walk_at "call type:dict") => `(tactic| (k_here; (with_reducible show wpAny _ _ (call (Value.type "dict") [Value.ref _]) _ _ _); k_dflt (refine kt_dict_K (knd := PySem.strKind _ _) (enc := PyData.str) (by k_asm) (by k_asm) (Top.nolimit (by k_asm)) (TabAt.ofNews (by k_asm) (by k_mem) (by assumption) (by assumption) .nil) (by decide) ?_); intro d' h' o' kvs' F' N' l1 lo' hd' hf'; (try k_lt l1)))
theorem units_mk (A : Around) (p : List Value) (k : List (Str × Value)) : (A.under (.builtin "type.__call__" ⟨p, k⟩)).units = A.units + 1 := rfl
theorem conv_new1 {w : World} {mean : ExcName → Option Value} {mg mb : Str → Option Value} {dp un : Nat} {gd : Option (List Code)} {cn : Str} {cs : Scope} {a : Addr} {ccd : Value} {cl : List (Str × Addr)} {outer : List Env} {A₀ : Around} {base h₀ : Heap} {L : Addr} {m : Str → Option Value} {news : List (Addr × Obj)} {s : Shared} {Q E : Value → Shared → Prop}
  (B : Below A₀ base outer h₀) (F : Fr h₀ L s.heap m) (X : (Mine.hd.heap_39 w.params).In h₀) (N : News h₀ L s.heap news) (T : Top topProg LO mean mg mb h₀) (hk : cs.kind = .function) (hdp : dp + 80 < recursionLimit) (hun : un + 800 < cLine) {o504 oTo : Obj} {to0 c1 c2 c3 c4 : Addr} (mto : (to0, oTo) ∈ news) (hoTo : oTo.IsDictOf (PySem.strKind PySem.Challenge.rw_fq0010_01.row.prog w) []) (loTo : (to0 == sysModules) = false) (hcs : ∀ c ∈ [c1, c2, c3, c4], CodeIn news initQ c) (hc1 : CodeHd base 274 270) (hx2 : ∀ p ∈ news, p.1 ≠ 270 ∧ p.1 ≠ 504) (Nt : News h₀ L s.heap ((270, tabObj (tri4 c1 c2 c3 c4)) :: (504, o504) :: news))
  (hret : ∀ cv cdx to mu muX ddU fdU fdUx lstU ms mdx dd fd fdx lst pc pa od odU n7 j1 j2 u1 u2 j3 j4 u3 u4 nd h' tk', Fr h₀ L h' m →
    News h₀ L h' ((lst, listOf #[.ref pc, .ref pa] n7) :: (dd, od) :: (fdx, fdDict j1 j2 u1 u2 cv lst) :: (ddU, odU) :: (fdUx, fdDict j3 j4 u3 u4 cv lstU) :: (270, tabObj (tri4 c1 c2 c3 c4)) :: (504, o504) :: nd) →
    od.IsDictOf (PySem.strKind PySem.Challenge.rw_fq0010_01.row.prog w) [] → odU.IsDictOf (PySem.strKind PySem.Challenge.rw_fq0010_01.row.prog w) [] → (∀ p ∈ news, p ∈ nd) → (∀ p ∈ news, @LT.lt Nat _ p.1 cv) → COut w nd cv cdx to mu muX ddU fdU fdUx lstU ms mdx dd fd fdx lst pc pa → (∀ c ∈ [c1, c2, c3, c4], CodeIn nd initQ c) → @LT.lt Nat _ cv ddU →
    Q (.ref cv) { s with heap := h', toks := tk' }) :
  wpAny (model PySem.Challenge.rw_fq0010_01.row.prog w) (ktrTop dp un gd cn cs L a ccd cl outer) (call (.ref 453) [.bool false, .bool false, .ref to0, .bool false, .bool true] [(Str.ofString "use_alias", .bool false)]) Q E s := by
  clear N
  k_dflt (refine' call_cls ?k1 ?k2 ?k3 ?k4 ?k5 ?k6 ?_; (case k1 => k_asm); (case k2 => k_asm); (case k3 => k_asm); (case k4 => k_is); (case k5 => k_is); (case k6 => k_is); intro x' d' h' F' N' lq1 lq2; (try k_lt2 lq2))
  k_dflt (refine' ks_code_super ?k1 ?k2 ?k3 ?k4 ?k5 ?kA ?kF ?kK ?k6 ?k7 ?k8 ?k9 ?kB ?_ ?c1 ?c2 ?c3 ?c4; (case kA => exact rfl); (case kF => exact rfl); (case kK => first | assumption | exact rfl); (case k1 => k_asm); (case k2 => k_asm); (case k3 => k_asm); (case k4 => k_asm); (case k5 => k_asm); (case k6 => k_is); (case k7 => k_is); (case k8 => k_room); (case k9 => first | exact BindsTo.of_eq rfl | exact binds_K (by k_in) rfl (by k_is) rfl rfl rfl); (case kB => exact locs rfl); (case c1 => decide); (case c2 => exact rfl); (case c3 => exact rfl); (case c4 => exact rfl); intro g' L' h' FG' F' N' B' X' T' l1'; (conv at F' => enter [4, y, 2]; whnf); (try dsimp only))
  k_steps
  unfold Stop2
  (rename News _ _ _ _ => N5)
  (rename Fr _ _ _ _ => F5)
  k_dflt (refine' wpAny_call (method_call (N5 _ (.head _)).1 (base_init1 (news := news) ?B F5 ?X (news_tl (news_tl N5)) ?T ?kk ?kd ?ku hc1 lq2 (lq1 _ (.head _)) (lq1 _ (.tail _ (.head _))) (fun p hp => lq1 p (.tail _ (.tail _ hp))) hx2 hcs ?_)); (case B => assumption); (case X => assumption); (case T => assumption); (case kk => first | exact rfl | assumption); (case kd => ktr_room); (case ku => (simp only [units_mk]; ktr_units)))
  intro mu muX ddU fdU fdUx lstU ms mdx dd fd fdx lst pc pa od odU kA kB n7 j1 j2 u1 u2 j3 j4 u3 u4 nd hb tkb Fb Nb hod hodU hnn hbo hcc
  clear N5 F5
  have bms := hbo.hms
  have bcd := hbo.hcd
  obtain ⟨bm, i1, i2, i3, i4, t1, t2, t3, t4, bmdx, bbm⟩ := hbo.hmdx
  have bfd := hbo.hfd
  have bmu := hbo.hmu
  obtain ⟨bmU, r1, r2, r3, r4, v1, v2, v3, v4, bmuX⟩ := hbo.hmuX
  have bfdU := hbo.hfdU
  obtain ⟨pU, n16, blstU⟩ := hbo.hlstU
  have mto9 := hnn _ mto
  have sx1 : ∀ p ∈ nd, p.1 ≠ x' := fun p hp => (hbo.sep p hp).1
  have sx2 : ∀ p ∈ nd, p.1 ≠ lst := fun p hp => (hbo.sep p hp).2.1
  have sx3 : ∀ p ∈ nd, p.1 ≠ dd := fun p hp => (hbo.sep p hp).2.2.1
  have sx4 : ∀ p ∈ nd, p.1 ≠ fdx := fun p hp => (hbo.sep p hp).2.2.2.1
  have sx5 : ∀ p ∈ nd, p.1 ≠ ddU := fun p hp => (hbo.sep p hp).2.2.2.2.1
  have sx6 : ∀ p ∈ nd, p.1 ≠ fdUx := fun p hp => (hbo.sep p hp).2.2.2.2.2.1
  have sx7 : ∀ p ∈ nd, p.1 ≠ 270 := fun p hp => (hbo.sep p hp).2.2.2.2.2.2.1
  have oo0 := hbo.o0
  have oo00 := hbo.o00
  have oo1 := hbo.o1
  have oo2 := hbo.o2
  have oo3 := hbo.o3
  have oo4 := hbo.o4
  have oo5 := hbo.o5
  have oo6 := hbo.o6
  k_steps
  (rename News _ _ _ _ => N9)
  (rename Fr _ _ _ _ => F9)
  (rename PyProof.V.FlatPairs _ _ [] => fl9)
  have e9 := flat_nil fl9
  subst e9
  have up : ∀ {x y : Addr × Obj}, ∀ p ∈ nd, p ∈ x :: y :: nd := fun p hp => .tail _ (.tail _ hp)
  refine hret x' d' _ mu muX ddU fdU fdUx lstU ms mdx dd fd fdx lst pc pa od odU n7 j1 j2 u1 u2 j3 j4 u3 u4 _ _ _ F9 (out6 N9) hod hodU (fun p hp => up p (hnn p hp)) (fun p hp => Nat.lt_trans (lq1 p (.tail _ (.tail _ hp))) lq2) (cout hbo (by assumption) (by assumption) ?_) (fun c hc => (hcc c hc).mono up) oo2
  omega
end Mine
namespace Mine
open PySem PySem.W PyProof.Rows PySem.Calls
set_option maxHeartbeats 4000000
end Mine
local macro_rules | `(tactic| k_all) => `(tactic| (refine' ne_up ?h ?_; (case h => with_reducible assumption); omega))
namespace Mine
open PySem PySem.W PyProof.Rows PySem.Calls
set_option maxHeartbeats 4000000
local macro_rules | `(tactic| k_all) => `(tactic| (refine' ne_up ?h ?_; (case h => with_reducible assumption); omega))
local macro_rules | `(tactic| walk_at "getAttr ref") => `(tactic| (k_here; (with_reducible show wpAny _ _ (getAttr (Value.ref _) (PySem.Str.ofString "_structure_call") _) _ _ _); k_dflt (refine' get_static0 ?k1 ?k2 ?k4 ?k5 ?k6 ?k7 ?k8 ?k9 ?k11 ?k13 ?k14 ?_; (case k1 => k_asm); (case k2 => k_asm); (case k4 => k_inst); (case k7 => k_is); (case k5 => k_is); (case k6 => first | k_is | exact rfl);  (case k8 => k_is); (case k9 => k_is); (case k11 => decide +kernel); (case k13 => k_is); (case k14 => k_handed); k_whole)))
local macro_rules | `(tactic| walk_at "callWith ref") => `(tactic| (k_here; (with_reducible show wpAny _ _ (callWith _ (Value.ref _) _ (backTo _ (starEach [] _)) []) _ _ _); k_dflt (refine' callWith_K0' ?k1 ?k3 ?k2 ?_; (case k1 => k_asm); (case k3 => k_asm); (case k2 => k_is); k_whole; (try dsimp only [List.nil_append, List.append_nil]))))
local macro_rules | `(tactic| walk_at "callWith ref cons nil") => `(tactic| (k_here; (with_reducible show wpAny _ _ (callWith _ (Value.ref _) _ (backTo _ (starEach [] _)) []) _ _ _); k_dflt (refine' callWith_K0' ?k1 ?k3 ?k2 ?_; (case k1 => k_asm); (case k3 => k_asm); (case k2 => k_is); k_whole; (try dsimp only [List.nil_append, List.append_nil]))))
local macro_rules | `(tactic| walk_at "call ref") => `(tactic| (refine stopT2 ?_))
local macro_rules | `(tactic| walk_at "call ref") => `(tactic| (k_here; k_dflt (refine wpAny_call ?_; (refine' code_def ?k1 ?k2 ?k3 ?k4 ?k5 ?kA ?kF ?kK ?k6 ?k7 ?k8 ?k9 ?kB ?_ ?c2 ?c3 ?c4 ?c5; (case k3 => k_asm); (case k6 => k_is); (case kA => exact rfl); (case kF => exact rfl); (case kK => first | assumption | exact rfl); (case k2 => k_asm); (case k1 => k_asm); (case k4 => k_asm); (case k5 => k_asm); (case k7 => k_is); (case k8 => k_room); (case k9 => first | exact BindsTo.of_eq rfl | exact binds_K (by k_in) rfl (by k_is) rfl rfl rfl); (case c5 => decide); (case kB => exact locs rfl); (case c2 => exact rfl); (case c3 => exact rfl); (case c4 => exact rfl); k_whole; intro g' L' h' FG' F' N' B' X' T'; (conv at F' => enter [4, y, 2]; whnf); (try dsimp only); (try k_lift B'); (try k_fold)))))
end Mine
local macro_rules | `(tactic| walk_at "call builtin:len") => `(tactic| (k_here; (with_reducible show wpAny _ _ (call (Value.builtin "len") [Value.ref _]) _ _ _); k_dflt (refine' my_len ?n ?z ?hz ?hn ?N ?m ?hs ?_; (case N => k_asm); (case m => k_mem); (first | (case n => exact 1); (case hs => exact rfl); (case z => exact 1) | (case n => exact 2); (case hs => exact rfl); (case z => exact 2) | (case n => exact 3); (case hs => exact rfl); (case z => exact 3) | (case n => exact 6); (case hs => exact rfl); (case z => exact 6) | (case n => exact 7); (case hs => exact rfl); (case z => exact 7)); (case hz => exact rfl); (case hn => omega))))
namespace Mine
open PySem PySem.W PyProof.Rows PySem.Calls
set_option maxHeartbeats 4000000
local macro_rules | `(tactic| k_all) => `(tactic| (refine' ne_up ?h ?_; (case h => with_reducible assumption); omega))
local macro_rules | `(tactic| walk_at "getAttr ref") => `(tactic| (k_here; (with_reducible show wpAny _ _ (getAttr (Value.ref _) (PySem.Str.ofString "_structure_call") _) _ _ _); k_dflt (refine' get_static0 ?k1 ?k2 ?k4 ?k5 ?k6 ?k7 ?k8 ?k9 ?k11 ?k13 ?k14 ?_; (case k1 => k_asm); (case k2 => k_asm); (case k4 => k_inst); (case k7 => k_is); (case k5 => k_is); (case k6 => first | k_is | exact rfl);  (case k8 => k_is); (case k9 => k_is); (case k11 => decide +kernel); (case k13 => k_is); (case k14 => k_handed); k_whole)))
local macro_rules | `(tactic| walk_at "callWith ref") => `(tactic| (k_here; (with_reducible show wpAny _ _ (callWith _ (Value.ref _) _ (backTo _ (starEach [] _)) []) _ _ _); k_dflt (refine' callWith_K0' ?k1 ?k3 ?k2 ?_; (case k1 => k_asm); (case k3 => k_asm); (case k2 => k_is); k_whole; (try dsimp only [List.nil_append, List.append_nil]))))
local macro_rules | `(tactic| walk_at "callWith ref cons nil") => `(tactic| (k_here; (with_reducible show wpAny _ _ (callWith _ (Value.ref _) _ (backTo _ (starEach [] _)) []) _ _ _); k_dflt (refine' callWith_K0' ?k1 ?k3 ?k2 ?_; (case k1 => k_asm); (case k3 => k_asm); (case k2 => k_is); k_whole; (try dsimp only [List.nil_append, List.append_nil]))))
local macro_rules | `(tactic| walk_at "call ref") => `(tactic| (refine stopT2 ?_))
local macro_rules | `(tactic| walk_at "call ref") => `(tactic| (k_here; k_dflt (refine wpAny_call ?_; (refine' code_def ?k1 ?k2 ?k3 ?k4 ?k5 ?kA ?kF ?kK ?k6 ?k7 ?k8 ?k9 ?kB ?_ ?c2 ?c3 ?c4 ?c5; (case k3 => k_asm); (case k6 => k_is); (case kA => exact rfl); (case kF => exact rfl); (case kK => first | assumption | exact rfl); (case k2 => k_asm); (case k1 => k_asm); (case k4 => k_asm); (case k5 => k_asm); (case k7 => k_is); (case k8 => k_room); (case k9 => first | exact BindsTo.of_eq rfl | exact binds_K (by k_in) rfl (by k_is) rfl rfl rfl); (case c5 => decide); (case kB => exact locs rfl); (case c2 => exact rfl); (case c3 => exact rfl); (case c4 => exact rfl); k_whole; intro g' L' h' FG' F' N' B' X' T'; (conv at F' => enter [4, y, 2]; whnf); (try dsimp only); (try k_lift B'); (try k_fold)))))
local macro_rules | `(tactic| walk_at "call builtin:len") => `(tactic| (k_here; (with_reducible show wpAny _ _ (call (Value.builtin "len") [Value.ref _]) _ _ _); k_dflt (refine' my_len ?n ?z ?hz ?hn ?N ?m ?hs ?_; (case N => k_asm); (case m => k_mem); (first | (case n => exact 1); (case hs => exact rfl); (case z => exact 1) | (case n => exact 2); (case hs => exact rfl); (case z => exact 2) | (case n => exact 3); (case hs => exact rfl); (case z => exact 3) | (case n => exact 6); (case hs => exact rfl); (case z => exact 6) | (case n => exact 7); (case hs => exact rfl); (case z => exact 7)); (case hz => exact rfl); (case hn => omega))))
theorem pick_pre {vs tl : List Value} {k : Nat} (h : tl.length = k + 1) : kms_pick (vs ++ tl).toArray.toList none (some (-((k : Int) + 1))) = vs := by
  unfold kms_pick kms_lo kms_hi
  dsimp only
  rw [if_pos (by omega)]
  simp only [List.drop_zero, Nat.sub_zero, List.length_append, h, Int.neg_neg]
  rw [show vs.length + (k + 1) - ((k : Int) + 1).toNat = vs.length by omega]
  exact List.take_left' rfl
theorem cat_eq {vs ws : List Value} : vs.toArray.toList ++ ws.toArray.toList = vs ++ ws := rfl
local macro_rules | `(tactic| walk_at "subscriptTail Name Slice ref ref") => `(tactic| (k_here; (with_reducible show wpAny _ _ (subscriptTail _ (PySem.Expr.Slice _ _ none _) (Value.ref _) (Value.ref _)) _ _ _); k_dflt (refine' kms_slice_lit ?xF ?xN ?xl ?xp ?xq ?xe ?_ ?xs ?xt ?xz; (case xF => k_asm); (case xN => k_asm); (case xl => kmk_list); (case xp => kmk_part); (case xq => kmk_part); (case xe => exact pick_pre (by assumption)); (case xs => with_unfolding_all rfl); (case xt => kmk_pure); (case xz => (rw [sizeLine_eq]; simp; omega))); intro D' h' F' N' l1; (try k_lt l1); (try k_sweep)))
local macro_rules | `(tactic| walk_at "binaryOp Add ref ref") => `(tactic| (k_here; (with_reducible show wpAny _ _ (binaryOp _ (Value.ref _) (Value.ref _)) _ _ _); k_dflt (refine' kmk_add_lit ?F ?N ?a ?b ?e ?_ ?z; (case F => k_asm); (case N => k_asm); (case a => kmk_list); (case b => kmk_list); (case e => exact cat_eq); (case z => (rw [sizeLine_eq]; simp; omega))); intro D' h' F' N' l1; (try k_lt l1); (try k_sweep)))
theorem fd_copy {w : World} {mean : ExcName → Option Value} {mg mb : Str → Option Value} {dp un : Nat} {gd : Option (List Code)} {cn : Str} {cs : Scope} {a : Addr} {ccd : Value} {cl : List (Str × Addr)} {outer : List Env} {A₀ : Around} {base h₀ : Heap} {L : Addr} {m : Str → Option Value} {s : Shared} {R : Result → Shared → Prop} {news : List (Addr × Obj)}
  {fdA fdxA lstA fdB fdxB lstB cA cB : Addr} {i1 i2 j1 j2 : Int} {t1 t2 u1 u2 n n' k tk : Nat} {vs tl ws : List Value} {z : Int}
  (B : Below A₀ base outer h₀) (F : Fr h₀ L s.heap m) (X : (Mine.hd.heap_39 w.params).In h₀) (N : News h₀ L s.heap ((fdxB, fdDict j1 j2 u1 u2 cB lstB) :: news)) (T : Top topProg LO mean mg mb h₀) (hk : cs.kind = .function) (hdp : dp + 20 < recursionLimit) (hun : un + 200 < cLine)
  (m1 : (fdA, fdObj fdxA) ∈ news) (m2 : (fdxA, fdDict i1 i2 t1 t2 cA lstA) ∈ news) (m3 : (lstA, listOf (vs ++ tl).toArray n) ∈ news) (m4 : (fdB, fdObj fdxB) ∈ news) (m5 : (lstB, listOf ws.toArray n') ∈ news)
  (hz : z = (k : Int) + 1) (hk0 : tl.length = k + 1) (hkk : k ≤ 50) (hvs : vs.length ≤ 50) (hws : ws.length ≤ 50) (hx : ∀ p ∈ news, p.1 ≠ fdxB)
  (hret : ∀ D h' tk', Fr h₀ L h' m → News h₀ L h' ((D, listOf (vs ++ ws).toArray 0) :: (fdxB, fdDict j1 j2 u1 u2 cB D) :: news) → @LT.lt Nat _ fdxB D → (∀ p ∈ news, p.1 < D) → R (.ok (.ret .none)) { s with heap := h', toks := tk' }) :
  codeAny (model PySem.Challenge.rw_fq0010_01.row.prog w) (ktrTop dp un gd cn cs L a ccd cl outer) (.call (.ref 166) ⟨[.ref fdA, .ref fdB], [(Str.ofString "skip", .int z tk)]⟩) R s := by
  subst hz
  (try refine wpAny_call ?_)
  k_dflt (refine' code_def ?k1 ?k2 ?k3 ?k4 ?k5 ?kA ?kF ?kK ?k6 ?k7 ?k8 ?k9 ?kB ?_ ?c2 ?c3 ?c4 ?c5; (case kA => exact rfl); (case kF => exact rfl); (case kK => assumption); (case k1 => k_asm); (case k2 => k_asm); (case k3 => k_asm); (case k4 => k_asm); (case k5 => k_asm); (case k6 => k_is); (case k7 => k_is); (case k8 => ktr_room); (case k9 => first | exact BindsTo.of_eq rfl | exact binds_K (by k_in) rfl (by k_is) rfl rfl rfl); (case c5 => decide); (case kB => exact locs rfl); (case c2 => exact rfl); (case c3 => exact rfl); (case c4 => exact rfl); k_whole; intro g' L' h' FG' F' N' B' X' T'; (conv at F' => enter [4, y, 2]; whnf); (try dsimp only); (try k_fold))
  k_steps
  (rename _ ∧ _ ∧ AllLt _ _ => l9)
  (rename News _ _ _ _ => N9)
  exact hret _ _ _ (by assumption) (fun q hq => N9 q ((List.mem_cons.mp hq).elim (fun e => e ▸ .head _) fun h => .tail _ (.tail _ h))) l9.2.1 (fun p hp => allLt_mem l9.2.2 p hp)
end Mine
namespace Mine
open PySem PySem.W PyProof.Rows PySem.Calls
set_option maxHeartbeats 4000000
end Mine
local macro_rules | `(tactic| k_all) => `(tactic| (refine' ne_up ?h ?_; (case h => with_reducible assumption); omega))
namespace Mine
open PySem PySem.W PyProof.Rows PySem.Calls
set_option maxHeartbeats 4000000
local macro_rules | `(tactic| k_all) => `(tactic| (refine' ne_up ?h ?_; (case h => with_reducible assumption); omega))
local macro_rules | `(tactic| walk_at "getAttr ref") => `(tactic| (k_here; (with_reducible show wpAny _ _ (getAttr (Value.ref _) (PySem.Str.ofString "_structure_call") _) _ _ _); k_dflt (refine' get_static0 ?k1 ?k2 ?k4 ?k5 ?k6 ?k7 ?k8 ?k9 ?k11 ?k13 ?k14 ?_; (case k1 => k_asm); (case k2 => k_asm); (case k4 => k_inst); (case k7 => k_is); (case k5 => k_is); (case k6 => first | k_is | exact rfl);  (case k8 => k_is); (case k9 => k_is); (case k11 => decide +kernel); (case k13 => k_is); (case k14 => k_handed); k_whole)))
local macro_rules | `(tactic| walk_at "callWith ref") => `(tactic| (k_here; (with_reducible show wpAny _ _ (callWith _ (Value.ref _) _ (backTo _ (starEach [] _)) []) _ _ _); k_dflt (refine' callWith_K0' ?k1 ?k3 ?k2 ?_; (case k1 => k_asm); (case k3 => k_asm); (case k2 => k_is); k_whole; (try dsimp only [List.nil_append, List.append_nil]))))
local macro_rules | `(tactic| walk_at "callWith ref cons nil") => `(tactic| (k_here; (with_reducible show wpAny _ _ (callWith _ (Value.ref _) _ (backTo _ (starEach [] _)) []) _ _ _); k_dflt (refine' callWith_K0' ?k1 ?k3 ?k2 ?_; (case k1 => k_asm); (case k3 => k_asm); (case k2 => k_is); k_whole; (try dsimp only [List.nil_append, List.append_nil]))))
local macro_rules | `(tactic| walk_at "call ref") => `(tactic| (refine stopT2 ?_))
local macro_rules | `(tactic| walk_at "call ref") => `(tactic| (k_here; k_dflt (refine wpAny_call ?_; (refine' code_def ?k1 ?k2 ?k3 ?k4 ?k5 ?kA ?kF ?kK ?k6 ?k7 ?k8 ?k9 ?kB ?_ ?c2 ?c3 ?c4 ?c5; (case k3 => k_asm); (case k6 => k_is); (case kA => exact rfl); (case kF => exact rfl); (case kK => first | assumption | exact rfl); (case k2 => k_asm); (case k1 => k_asm); (case k4 => k_asm); (case k5 => k_asm); (case k7 => k_is); (case k8 => k_room); (case k9 => first | exact BindsTo.of_eq rfl | exact binds_K (by k_in) rfl (by k_is) rfl rfl rfl); (case c5 => decide); (case kB => exact locs rfl); (case c2 => exact rfl); (case c3 => exact rfl); (case c4 => exact rfl); k_whole; intro g' L' h' FG' F' N' B' X' T'; (conv at F' => enter [4, y, 2]; whnf); (try dsimp only); (try k_lift B'); (try k_fold)))))
end Mine
local macro_rules | `(tactic| walk_at "call builtin:len") => `(tactic| (k_here; (with_reducible show wpAny _ _ (call (Value.builtin "len") [Value.ref _]) _ _ _); k_dflt (refine' my_len ?n ?z ?hz ?hn ?N ?m ?hs ?_; (case N => k_asm); (case m => k_mem); (first | (case n => exact 1); (case hs => exact rfl); (case z => exact 1) | (case n => exact 2); (case hs => exact rfl); (case z => exact 2) | (case n => exact 3); (case hs => exact rfl); (case z => exact 3) | (case n => exact 6); (case hs => exact rfl); (case z => exact 6) | (case n => exact 7); (case hs => exact rfl); (case z => exact 7)); (case hz => exact rfl); (case hn => omega))))
namespace Mine
open PySem PySem.W PyProof.Rows PySem.Calls
set_option maxHeartbeats 4000000
local macro_rules | `(tactic| k_all) => `(tactic| (refine' ne_up ?h ?_; (case h => with_reducible assumption); omega))
local macro_rules | `(tactic| walk_at "getAttr ref") => `(tactic| (k_here; (with_reducible show wpAny _ _ (getAttr (Value.ref _) (PySem.Str.ofString "_structure_call") _) _ _ _); k_dflt (refine' get_static0 ?k1 ?k2 ?k4 ?k5 ?k6 ?k7 ?k8 ?k9 ?k11 ?k13 ?k14 ?_; (case k1 => k_asm); (case k2 => k_asm); (case k4 => k_inst); (case k7 => k_is); (case k5 => k_is); (case k6 => first | k_is | exact rfl);  (case k8 => k_is); (case k9 => k_is); (case k11 => decide +kernel); (case k13 => k_is); (case k14 => k_handed); k_whole)))
local macro_rules | `(tactic| walk_at "callWith ref") => `(tactic| (k_here; (with_reducible show wpAny _ _ (callWith _ (Value.ref _) _ (backTo _ (starEach [] _)) []) _ _ _); k_dflt (refine' callWith_K0' ?k1 ?k3 ?k2 ?_; (case k1 => k_asm); (case k3 => k_asm); (case k2 => k_is); k_whole; (try dsimp only [List.nil_append, List.append_nil]))))
local macro_rules | `(tactic| walk_at "callWith ref cons nil") => `(tactic| (k_here; (with_reducible show wpAny _ _ (callWith _ (Value.ref _) _ (backTo _ (starEach [] _)) []) _ _ _); k_dflt (refine' callWith_K0' ?k1 ?k3 ?k2 ?_; (case k1 => k_asm); (case k3 => k_asm); (case k2 => k_is); k_whole; (try dsimp only [List.nil_append, List.append_nil]))))
local macro_rules | `(tactic| walk_at "call ref") => `(tactic| (refine stopT2 ?_))
local macro_rules | `(tactic| walk_at "call ref") => `(tactic| (k_here; k_dflt (refine wpAny_call ?_; (refine' code_def ?k1 ?k2 ?k3 ?k4 ?k5 ?kA ?kF ?kK ?k6 ?k7 ?k8 ?k9 ?kB ?_ ?c2 ?c3 ?c4 ?c5; (case k3 => k_asm); (case k6 => k_is); (case kA => exact rfl); (case kF => exact rfl); (case kK => first | assumption | exact rfl); (case k2 => k_asm); (case k1 => k_asm); (case k4 => k_asm); (case k5 => k_asm); (case k7 => k_is); (case k8 => k_room); (case k9 => first | exact BindsTo.of_eq rfl | exact binds_K (by k_in) rfl (by k_is) rfl rfl rfl); (case c5 => decide); (case kB => exact locs rfl); (case c2 => exact rfl); (case c3 => exact rfl); (case c4 => exact rfl); k_whole; intro g' L' h' FG' F' N' B' X' T'; (conv at F' => enter [4, y, 2]; whnf); (try dsimp only); (try k_lift B'); (try k_fold)))))
local macro_rules | `(tactic| walk_at "call builtin:len") => `(tactic| (k_here; (with_reducible show wpAny _ _ (call (Value.builtin "len") [Value.ref _]) _ _ _); k_dflt (refine' my_len ?n ?z ?hz ?hn ?N ?m ?hs ?_; (case N => k_asm); (case m => k_mem); (first | (case n => exact 1); (case hs => exact rfl); (case z => exact 1) | (case n => exact 2); (case hs => exact rfl); (case z => exact 2) | (case n => exact 3); (case hs => exact rfl); (case z => exact 3) | (case n => exact 6); (case hs => exact rfl); (case z => exact 6) | (case n => exact 7); (case hs => exact rfl); (case z => exact 7)); (case hz => exact rfl); (case hn => omega))))
local macro_rules | `(tactic| walk_at "call ref") => `(tactic| (k_here; (with_reducible show wpAny _ _ (call (Value.ref 166) _ _) _ _ _); refine stopT2 ?_))
local macro_rules | `(tactic| walk_at "zz pad") => `(tactic| skip)
theorem msd_copy {w : World} {mean : ExcName → Option Value} {mg mb : Str → Option Value} {dp un : Nat} {gd : Option (List Code)} {cn : Str} {cs : Scope} {a : Addr} {ccd : Value} {cl : List (Str × Addr)} {outer : List Env} {A₀ : Around} {base h₀ : Heap} {L : Addr} {m : Str → Option Value} {s : Shared} {R : Result → Shared → Prop} {news : List (Addr × Obj)}
  {msA mdxA ddA bmA fdA fdxA lstA msB mdxB ddB bmB fdB fdxB lstB cA cB : Addr} {od : Obj} {fbA fbB : Value} {i1 i2 j1 j2 a1 a2 a3 a4 b1 b2 b3 b4 : Int} {t1 t2 u1 u2 n n' k tk x1 x2 x3 x4 y1 y2 y3 y4 : Nat} {vs tl ws : List Value} {z : Int}
  (B : Below A₀ base outer h₀) (F : Fr h₀ L s.heap m) (X : (Mine.hd.heap_39 w.params).In h₀) (N : News h₀ L s.heap ((fdxB, fdDict j1 j2 u1 u2 cB lstB) :: (ddB, od) :: news)) (T : Top topProg LO mean mg mb h₀) (hk : cs.kind = .function) (hdp : dp + 30 < recursionLimit) (hun : un + 300 < cLine)
  (ma : (msA, msObj mdxA) ∈ news) (mb_ : (mdxA, msDict a1 a2 a3 a4 x1 x2 x3 x4 fbA ddA fdA bmA) ∈ news) (m1 : (fdA, fdObj fdxA) ∈ news) (m2 : (fdxA, fdDict i1 i2 t1 t2 cA lstA) ∈ news) (m3 : (lstA, listOf (vs ++ tl).toArray n) ∈ news)
  (mc : (msB, msObj mdxB) ∈ news) (md : (mdxB, msDict b1 b2 b3 b4 y1 y2 y3 y4 fbB ddB fdB bmB) ∈ news) (m4 : (fdB, fdObj fdxB) ∈ news) (m5 : (lstB, listOf ws.toArray n') ∈ news)
  (hz : z = (k : Int) + 1) (hk0 : tl.length = k + 1) (hkk : k ≤ 50) (hvs : vs.length ≤ 50) (hws : ws.length ≤ 50) (hx1 : ∀ p ∈ news, p.1 ≠ fdxB) (hx2 : ∀ p ∈ news, p.1 ≠ ddB) (hlt : @LT.lt Nat _ ddB fdxB)
  (hod : od.IsDictOf (PySem.strKind PySem.Challenge.rw_fq0010_01.row.prog w) []) (lod : (ddB == sysModules) = false)
  (hret : ∀ D od' h' tk', Fr h₀ L h' m → News h₀ L h' ((D, listOf (vs ++ ws).toArray 0) :: (fdxB, fdDict j1 j2 u1 u2 cB D) :: (ddB, od') :: news) → od'.IsDictOf (PySem.strKind PySem.Challenge.rw_fq0010_01.row.prog w) [] → @LT.lt Nat _ fdxB D → (∀ p ∈ news, p.1 < D) → R (.ok (.ret .none)) { s with heap := h', toks := tk' }) :
  codeAny (model PySem.Challenge.rw_fq0010_01.row.prog w) (ktrTop dp un gd cn cs L a ccd cl outer) (.call (.ref 238) ⟨[.ref msA, .ref msB], [(Str.ofString "skip", .int z tk)]⟩) R s := by
  (try refine wpAny_call ?_)
  k_dflt (refine' code_def ?k1 ?k2 ?k3 ?k4 ?k5 ?kA ?kF ?kK ?k6 ?k7 ?k8 ?k9 ?kB ?_ ?c2 ?c3 ?c4 ?c5; (case kA => exact rfl); (case kF => exact rfl); (case kK => assumption); (case k1 => k_asm); (case k2 => k_asm); (case k3 => k_asm); (case k4 => k_asm); (case k5 => k_asm); (case k6 => k_is); (case k7 => k_is); (case k8 => ktr_room); (case k9 => first | exact BindsTo.of_eq rfl | exact binds_K (by k_in) rfl (by k_is) rfl rfl rfl); (case c5 => decide); (case kB => exact locs rfl); (case c2 => exact rfl); (case c3 => exact rfl); (case c4 => exact rfl); k_whole; intro g' L' h' FG' F' N' B' X' T'; (conv at F' => enter [4, y, 2]; whnf); (try dsimp only); (try k_fold))
  k_steps
  unfold Stop2
  (rename News _ _ _ _ => N5)
  (rename Fr _ _ _ _ => F5)
  k_dflt (refine' wpAny_call (fd_copy (k := k) ?B F5 ?X N5 ?T ?kk ?kd ?ku (.tail _ m1) (.tail _ m2) (.tail _ m3) (.tail _ m4) (.tail _ m5) hz hk0 hkk hvs hws (List.forall_mem_cons.mpr ⟨Nat.ne_of_lt hlt, hx1⟩) ?_); (case B => assumption); (case X => assumption); (case T => assumption); (case kk => first | exact rfl | assumption); (case kd => ktr_room); (case ku => ktr_units))
  intro D hb tkb Fb Nb ld1 ld2
  have hfl : PyProof.V.FlatPairs PyData.str ([] : List (Str × Value)) [] := .nil
  have ld3 : @LT.lt Nat _ ddB D := ld2 _ (.head _)
  k_steps
  exact hret _ _ _ _ (by assumption) (by assumption) (by assumption) ld1 (fun p hp => ld2 p (.tail _ hp))
theorem msd_copyU {w : World} {mean : ExcName → Option Value} {mg mb : Str → Option Value} {dp un : Nat} {gd : Option (List Code)} {cn : Str} {cs : Scope} {a : Addr} {ccd : Value} {cl : List (Str × Addr)} {outer : List Env} {A₀ : Around} {base h₀ : Heap} {L : Addr} {m : Str → Option Value} {news : List (Addr × Obj)} {s : Shared} {Q E : Value → Shared → Prop}
  (B : Below A₀ base outer h₀) (F : Fr h₀ L s.heap m) (X : (Mine.hd.heap_39 w.params).In h₀) (N : News h₀ L s.heap news) (T : Top topProg LO mean mg mb h₀) (hk : cs.kind = .function) (hdp : dp + 40 < recursionLimit) (hun : un + 400 < cLine)
  {msA mdxA ddA bmA fdA fdxA lstA msB mdxB ddB bmB fdB fdxB lstB cA cB : Addr} {od : Obj} {fbA fbB : Value} {i1 i2 j1 j2 a1 a2 a3 a4 b1 b2 b3 b4 : Int} {t1 t2 u1 u2 n n' k tk x1 x2 x3 x4 y1 y2 y3 y4 : Nat} {vs tl ws : List Value} {z : Int} {g1 : Obj → List (Addr × Obj)} {g : Obj → Obj → List (Addr × Obj)}
  (ma : (msA, msObj mdxA) ∈ news) (mb_ : (mdxA, msDict a1 a2 a3 a4 x1 x2 x3 x4 fbA ddA fdA bmA) ∈ news) (m1 : (fdA, fdObj fdxA) ∈ news) (m2 : (fdxA, fdDict i1 i2 t1 t2 cA lstA) ∈ news) (m3 : (lstA, listOf (vs ++ tl).toArray n) ∈ news)
  (mc : (msB, msObj mdxB) ∈ news) (md : (mdxB, msDict b1 b2 b3 b4 y1 y2 y3 y4 fbB ddB fdB bmB) ∈ news) (m4 : (fdB, fdObj fdxB) ∈ news)
  (U1 : UpdF fdxB (fdDict j1 j2 u1 u2 cB lstB) news g1) (U2 : ∀ o', UpdF ddB od (g1 o') (g o')) (m5 : (lstB, listOf ws.toArray n') ∈ news)
  (hz : z = (k : Int) + 1) (hk0 : tl.length = k + 1) (hkk : k ≤ 50) (hvs : vs.length ≤ 50) (hws : ws.length ≤ 50) (hlt : @LT.lt Nat _ ddB fdxB)
  (hod : od.IsDictOf (PySem.strKind PySem.Challenge.rw_fq0010_01.row.prog w) []) (lod : (ddB == sysModules) = false)
  (q1 : @Ne Nat msA fdxB ∧ @Ne Nat msA ddB) (q2 : @Ne Nat mdxA fdxB ∧ @Ne Nat mdxA ddB) (q3 : @Ne Nat fdA fdxB ∧ @Ne Nat fdA ddB) (q4 : @Ne Nat fdxA fdxB ∧ @Ne Nat fdxA ddB) (q5 : @Ne Nat lstA fdxB ∧ @Ne Nat lstA ddB) (q6 : @Ne Nat msB fdxB ∧ @Ne Nat msB ddB) (q7 : @Ne Nat mdxB fdxB ∧ @Ne Nat mdxB ddB) (q8 : @Ne Nat fdB fdxB ∧ @Ne Nat fdB ddB) (q9 : @Ne Nat lstB fdxB ∧ @Ne Nat lstB ddB)
  (hret : ∀ D od' h' tk', Fr h₀ L h' m → News h₀ L h' ((D, listOf (vs ++ ws).toArray 0) :: g (fdDict j1 j2 u1 u2 cB D) od') → od'.IsDictOf (PySem.strKind PySem.Challenge.rw_fq0010_01.row.prog w) [] → (∀ p ∈ news, p.1 < D) → Q .none { s with heap := h', toks := tk' }) :
  wpAny (model PySem.Challenge.rw_fq0010_01.row.prog w) (ktrTop dp un gd cn cs L a ccd cl outer) (call (.ref 238) [.ref msA, .ref msB] [(Str.ofString "skip", .int z tk)]) Q E s := by
  have W := two U1 U2 (Nat.ne_of_lt hlt)
  refine wpAny_call (msd_copy B F X (fun q hq => N q (W.all q hq)) T hk (by omega) (by omega) (W.inn _ ma q1) (W.inn _ mb_ q2) (W.inn _ m1 q3) (W.inn _ m2 q4) (W.inn _ m3 q5) (W.inn _ mc q6) (W.inn _ md q7) (W.inn _ m4 q8) (W.inn _ m5 q9) hz hk0 hkk hvs hws W.x1 W.x2 hlt hod lod fun D od' h' tk' F' N' hod' l1 l2 => ?_)
  refine hret D od' h' tk' F' (fun q hq => ?_) hod' (fun q hq => ?_)
  · rcases List.mem_cons.mp hq with rfl | hq
    · exact N' _ (.head _)
    · exact N' _ (.tail _ (W.out _ _ q hq))
  · rcases List.mem_cons.mp (W.back q hq) with rfl | hq
    · exact l1
    · rcases List.mem_cons.mp hq with rfl | hq
      · exact Nat.lt_trans hlt l1
      · exact l2 q hq
end Mine
namespace Mine
open PySem PySem.W PyProof.Rows PySem.Calls
set_option maxHeartbeats 4000000
end Mine
local macro_rules | `(tactic| k_all) => `(tactic| (refine' ne_up ?h ?_; (case h => with_reducible assumption); omega))
namespace Mine
open PySem PySem.W PyProof.Rows PySem.Calls
set_option maxHeartbeats 4000000
local macro_rules | `(tactic| k_all) => `(tactic| (refine' ne_up ?h ?_; (case h => with_reducible assumption); omega))
local macro_rules | `(tactic| walk_at "getAttr ref") => `(tactic| (k_here; (with_reducible show wpAny _ _ (getAttr (Value.ref _) (PySem.Str.ofString "_structure_call") _) _ _ _); k_dflt (refine' get_static0 ?k1 ?k2 ?k4 ?k5 ?k6 ?k7 ?k8 ?k9 ?k11 ?k13 ?k14 ?_; (case k1 => k_asm); (case k2 => k_asm); (case k4 => k_inst); (case k7 => k_is); (case k5 => k_is); (case k6 => first | k_is | exact rfl);  (case k8 => k_is); (case k9 => k_is); (case k11 => decide +kernel); (case k13 => k_is); (case k14 => k_handed); k_whole)))
local macro_rules | `(tactic| walk_at "callWith ref") => `(tactic| (k_here; (with_reducible show wpAny _ _ (callWith _ (Value.ref _) _ (backTo _ (starEach [] _)) []) _ _ _); k_dflt (refine' callWith_K0' ?k1 ?k3 ?k2 ?_; (case k1 => k_asm); (case k3 => k_asm); (case k2 => k_is); k_whole; (try dsimp only [List.nil_append, List.append_nil]))))
local macro_rules | `(tactic| walk_at "callWith ref cons nil") => `(tactic| (k_here; (with_reducible show wpAny _ _ (callWith _ (Value.ref _) _ (backTo _ (starEach [] _)) []) _ _ _); k_dflt (refine' callWith_K0' ?k1 ?k3 ?k2 ?_; (case k1 => k_asm); (case k3 => k_asm); (case k2 => k_is); k_whole; (try dsimp only [List.nil_append, List.append_nil]))))
local macro_rules | `(tactic| walk_at "call ref") => `(tactic| (refine stopT2 ?_))
local macro_rules | `(tactic| walk_at "call ref") => `(tactic| (k_here; k_dflt (refine wpAny_call ?_; (refine' code_def ?k1 ?k2 ?k3 ?k4 ?k5 ?kA ?kF ?kK ?k6 ?k7 ?k8 ?k9 ?kB ?_ ?c2 ?c3 ?c4 ?c5; (case k3 => k_asm); (case k6 => k_is); (case kA => exact rfl); (case kF => exact rfl); (case kK => first | assumption | exact rfl); (case k2 => k_asm); (case k1 => k_asm); (case k4 => k_asm); (case k5 => k_asm); (case k7 => k_is); (case k8 => k_room); (case k9 => first | exact BindsTo.of_eq rfl | exact binds_K (by k_in) rfl (by k_is) rfl rfl rfl); (case c5 => decide); (case kB => exact locs rfl); (case c2 => exact rfl); (case c3 => exact rfl); (case c4 => exact rfl); k_whole; intro g' L' h' FG' F' N' B' X' T'; (conv at F' => enter [4, y, 2]; whnf); (try dsimp only); (try k_lift B'); (try k_fold)))))
end Mine
local macro_rules | `(tactic| walk_at "call builtin:len") => `(tactic| (k_here; (with_reducible show wpAny _ _ (call (Value.builtin "len") [Value.ref _]) _ _ _); k_dflt (refine' my_len ?n ?z ?hz ?hn ?N ?m ?hs ?_; (case N => k_asm); (case m => k_mem); (first | (case n => exact 1); (case hs => exact rfl); (case z => exact 1) | (case n => exact 2); (case hs => exact rfl); (case z => exact 2) | (case n => exact 3); (case hs => exact rfl); (case z => exact 3) | (case n => exact 6); (case hs => exact rfl); (case z => exact 6) | (case n => exact 7); (case hs => exact rfl); (case z => exact 7)); (case hz => exact rfl); (case hn => omega))))
namespace Mine
open PySem PySem.W PyProof.Rows PySem.Calls
set_option maxHeartbeats 4000000
local macro_rules | `(tactic| k_all) => `(tactic| (refine' ne_up ?h ?_; (case h => with_reducible assumption); omega))
local macro_rules | `(tactic| walk_at "getAttr ref") => `(tactic| (k_here; (with_reducible show wpAny _ _ (getAttr (Value.ref _) (PySem.Str.ofString "_structure_call") _) _ _ _); k_dflt (refine' get_static0 ?k1 ?k2 ?k4 ?k5 ?k6 ?k7 ?k8 ?k9 ?k11 ?k13 ?k14 ?_; (case k1 => k_asm); (case k2 => k_asm); (case k4 => k_inst); (case k7 => k_is); (case k5 => k_is); (case k6 => first | k_is | exact rfl);  (case k8 => k_is); (case k9 => k_is); (case k11 => decide +kernel); (case k13 => k_is); (case k14 => k_handed); k_whole)))
local macro_rules | `(tactic| walk_at "callWith ref") => `(tactic| (k_here; (with_reducible show wpAny _ _ (callWith _ (Value.ref _) _ (backTo _ (starEach [] _)) []) _ _ _); k_dflt (refine' callWith_K0' ?k1 ?k3 ?k2 ?_; (case k1 => k_asm); (case k3 => k_asm); (case k2 => k_is); k_whole; (try dsimp only [List.nil_append, List.append_nil]))))
local macro_rules | `(tactic| walk_at "callWith ref cons nil") => `(tactic| (k_here; (with_reducible show wpAny _ _ (callWith _ (Value.ref _) _ (backTo _ (starEach [] _)) []) _ _ _); k_dflt (refine' callWith_K0' ?k1 ?k3 ?k2 ?_; (case k1 => k_asm); (case k3 => k_asm); (case k2 => k_is); k_whole; (try dsimp only [List.nil_append, List.append_nil]))))
local macro_rules | `(tactic| walk_at "call ref") => `(tactic| (refine stopT2 ?_))
local macro_rules | `(tactic| walk_at "call ref") => `(tactic| (k_here; k_dflt (refine wpAny_call ?_; (refine' code_def ?k1 ?k2 ?k3 ?k4 ?k5 ?kA ?kF ?kK ?k6 ?k7 ?k8 ?k9 ?kB ?_ ?c2 ?c3 ?c4 ?c5; (case k3 => k_asm); (case k6 => k_is); (case kA => exact rfl); (case kF => exact rfl); (case kK => first | assumption | exact rfl); (case k2 => k_asm); (case k1 => k_asm); (case k4 => k_asm); (case k5 => k_asm); (case k7 => k_is); (case k8 => k_room); (case k9 => first | exact BindsTo.of_eq rfl | exact binds_K (by k_in) rfl (by k_is) rfl rfl rfl); (case c5 => decide); (case kB => exact locs rfl); (case c2 => exact rfl); (case c3 => exact rfl); (case c4 => exact rfl); k_whole; intro g' L' h' FG' F' N' B' X' T'; (conv at F' => enter [4, y, 2]; whnf); (try dsimp only); (try k_lift B'); (try k_fold)))))
local macro_rules | `(tactic| walk_at "call builtin:len") => `(tactic| (k_here; (with_reducible show wpAny _ _ (call (Value.builtin "len") [Value.ref _]) _ _ _); k_dflt (refine' my_len ?n ?z ?hz ?hn ?N ?m ?hs ?_; (case N => k_asm); (case m => k_mem); (first | (case n => exact 1); (case hs => exact rfl); (case z => exact 1) | (case n => exact 2); (case hs => exact rfl); (case z => exact 2) | (case n => exact 3); (case hs => exact rfl); (case z => exact 3) | (case n => exact 6); (case hs => exact rfl); (case z => exact 6) | (case n => exact 7); (case hs => exact rfl); (case z => exact 7)); (case hz => exact rfl); (case hn => omega))))
local macro_rules | `(tactic| walk_at "call ref") => `(tactic| (k_here; (with_reducible show wpAny _ _ (call (Value.ref 453) _ _) _ _ _); refine stopT2 ?_))
local macro_rules | `(tactic| walk_at "call ref") => `(tactic| (k_here; (with_reducible show wpAny _ _ (call (Value.ref 238) _ _) _ _ _); k_dflt (first
  | (refine' msd_copyU (k := 0) ?B ?F ?X ?N ?T ?hk ?hd ?hu ?m1 ?m2 ?m3 ?m4 ?m5 ?m6 ?m7 ?m8 ?U1 ?U2 ?m9 ?hz ?hk0 ?hkk ?hvs ?hws ?hlt ?od ?lod ?q1 ?q2 ?q3 ?q4 ?q5 ?q6 ?q7 ?q8 ?q9 ?_; (case hz => exact rfl); (case B => assumption); (case F => k_asm); (case X => assumption); (case N => k_asm); (case T => assumption); (case hk => first | exact rfl | assumption); (case hd => ktr_room); (case hu => ktr_units); (case m1 => k_mem); (case m2 => k_mem); (case m3 => k_mem); (case m4 => k_mem); (case m5 => k_mem); (case m6 => k_mem); (case m7 => k_mem); (case m8 => k_mem); (case U1 => k_updF); (case U2 => (intro o'; k_updF)); (case m9 => k_mem); (case hk0 => exact rfl); (case hkk => decide); (case hvs => first | exact Nat.le_of_ble_eq_true rfl | (rw [List.length_map]; assumption)); (case hws => exact Nat.le_of_ble_eq_true rfl); (case od => assumption); (case lod => assumption); (case hlt => omega); (case q1 => first | assumption | (constructor <;> omega)); (case q2 => first | assumption | (constructor <;> omega)); (case q3 => first | assumption | (constructor <;> omega)); (case q4 => first | assumption | (constructor <;> omega)); (case q5 => first | assumption | (constructor <;> omega)); (case q6 => first | assumption | (constructor <;> omega)); (case q7 => first | assumption | (constructor <;> omega)); (case q8 => first | assumption | (constructor <;> omega)); (case q9 => first | assumption | (constructor <;> omega)))
  | (refine' msd_copyU (k := 1) ?B ?F ?X ?N ?T ?hk ?hd ?hu ?m1 ?m2 ?m3 ?m4 ?m5 ?m6 ?m7 ?m8 ?U1 ?U2 ?m9 ?hz ?hk0 ?hkk ?hvs ?hws ?hlt ?od ?lod ?q1 ?q2 ?q3 ?q4 ?q5 ?q6 ?q7 ?q8 ?q9 ?_; (case hz => exact rfl); (case B => assumption); (case F => k_asm); (case X => assumption); (case N => k_asm); (case T => assumption); (case hk => first | exact rfl | assumption); (case hd => ktr_room); (case hu => ktr_units); (case m1 => k_mem); (case m2 => k_mem); (case m3 => k_mem); (case m4 => k_mem); (case m5 => k_mem); (case m6 => k_mem); (case m7 => k_mem); (case m8 => k_mem); (case U1 => k_updF); (case U2 => (intro o'; k_updF)); (case m9 => k_mem); (case hk0 => exact rfl); (case hkk => decide); (case hvs => first | exact Nat.le_of_ble_eq_true rfl | (rw [List.length_map]; assumption)); (case hws => exact Nat.le_of_ble_eq_true rfl); (case od => assumption); (case lod => assumption); (case hlt => omega); (case q1 => first | assumption | (constructor <;> omega)); (case q2 => first | assumption | (constructor <;> omega)); (case q3 => first | assumption | (constructor <;> omega)); (case q4 => first | assumption | (constructor <;> omega)); (case q5 => first | assumption | (constructor <;> omega)); (case q6 => first | assumption | (constructor <;> omega)); (case q7 => first | assumption | (constructor <;> omega)); (case q8 => first | assumption | (constructor <;> omega)); (case q9 => first | assumption | (constructor <;> omega)))); (intro D od' h' tk' F' N' hod' l0); (try dsimp only at N'); (try k_lt l0)))
theorem conv_copy {w : World} {mean : ExcName → Option Value} {mg mb : Str → Option Value} {dp un : Nat} {gd : Option (List Code)} {cn : Str} {cs : Scope} {a : Addr} {ccd : Value} {cl : List (Str × Addr)} {outer : List Env} {A₀ : Around} {base h₀ : Heap} {L : Addr} {m : Str → Option Value} {s : Shared} {R : Result → Shared → Prop} {news : List (Addr × Obj)} {c : ConvD} {c1 c2 c3 c4 : Addr} {o504 : Obj}
  (B : Below A₀ base outer h₀) (F : Fr h₀ L s.heap m) (X : (Mine.hd.heap_39 w.params).In h₀) (N : News h₀ L s.heap ((270, tabObj (tri4 c1 c2 c3 c4)) :: (504, o504) :: news)) (T : Top topProg LO mean mg mb h₀) (hk : cs.kind = .function) (hdp : dp + 100 < recursionLimit) (hun : un + 1000 < cLine)
  (hc1 : CodeHd base 274 270) (hx2 : ∀ p ∈ news, p.1 ≠ 270 ∧ p.1 ≠ 504) (hcs : ∀ c ∈ [c1, c2, c3, c4], CodeIn news initQ c) (C : ConvIn w news c) (CC : CopyIn w news c) (hlen : c.hooks.length ≤ 50)
  (hret : ∀ cv cdx to mu muX ddU fdU fdUx lstU ms mdx dd fd fdx lst D pc pa od j1 j2 u1 u2 nd h' tk', Fr h₀ L h' m →
    News h₀ L h' ((D, listOf (c.hooks.map (fun (h : Hk) => Value.ref h.1) ++ [Value.ref pc, Value.ref pa]).toArray 0) :: (dd, od) :: (fdx, fdDict j1 j2 u1 u2 cv D) :: (270, tabObj (tri4 c1 c2 c3 c4)) :: (504, o504) :: nd) → od.IsDictOf (PySem.strKind PySem.Challenge.rw_fq0010_01.row.prog w) [] → (∀ p ∈ news, p ∈ nd) →
    COut w nd cv cdx to mu muX ddU fdU fdUx lstU ms mdx dd fd fdx lst pc pa → @LT.lt Nat _ lst D → (∀ p ∈ nd, p.1 < D) → R (.ok (.ret (.ref cv))) { s with heap := h', toks := tk' }) :
  codeAny (model PySem.Challenge.rw_fq0010_01.row.prog w) (ktrTop dp un gd cn cs L a ccd cl outer) (.call (.ref 449) ⟨[.ref c.cv], []⟩) R s := by
  obtain ⟨KA, KB, kcv⟩ := CC.hcv
  obtain ⟨KoTo, kto, khoTo, kloTo⟩ := CC.hto
  obtain ⟨KmuX, KddU, KfdU, KbmU, KfdUx, KlstU, kp, kn, ki1, ki2, ki3, ki4, kt1, kt2, kt3, kt4, kj1, kj2, ku1, ku2, kmu, kmuX, kfdU, kfdUx, klstU⟩ := CC.hmu
  obtain ⟨Ki1, Ki2, Ki3, Ki4, Kt1, Kt2, Kt3, Kt4, kmdx⟩ := C.hmdx
  obtain ⟨Kj1, Kj2, Ku1, Ku2, kfdx⟩ := C.hfdx
  have kcd := C.hcd
  (try refine wpAny_call ?_)
  k_dflt (refine' code_def ?k1 ?k2 ?k3 ?k4 ?k5 ?kA ?kF ?kK ?k6 ?k7 ?k8 ?k9 ?kB ?_ ?c2 ?c3 ?c4 ?c5; (case kA => exact rfl); (case kF => exact rfl); (case kK => assumption); (case k1 => k_asm); (case k2 => k_asm); (case k3 => k_asm); (case k4 => k_asm); (case k5 => k_asm); (case k6 => k_is); (case k7 => k_is); (case k8 => ktr_room); (case k9 => first | exact BindsTo.of_eq rfl | exact binds_K (by k_in) rfl (by k_is) rfl rfl rfl); (case c5 => decide); (case kB => exact locs rfl); (case c2 => exact rfl); (case c3 => exact rfl); (case c4 => exact rfl); k_whole; intro g' L' h' FG' F' N' B' X' T'; (conv at F' => enter [4, y, 2]; whnf); (try dsimp only); (try k_fold))
  k_steps
  unfold Stop2
  (rename News _ _ _ _ => N5)
  (rename Fr _ _ _ _ => F5)
  k_dflt (refine' conv_new1 (news := news) (o504 := o504) ?B F5 ?X ?NN ?T ?kk ?kd ?ku kto khoTo kloTo hcs hc1 hx2 N5 ?_; (case B => assumption); (case X => assumption); (case T => assumption); (case NN => exact news_tl (news_tl N5)); (case kk => first | exact rfl | assumption); (case kd => ktr_room); (case ku => ktr_units))
  intro cv cdx to mu muX ddU fdU fdUx lstU ms mdx dd fd fdx lst pc pa od odU n7 j1 j2 u1 u2 j3 j4 u3 u4 nd hb tkb Fb Nb hod hodU hnn hnlt co hcc oo1
  have sx1 : ∀ p ∈ nd, p.1 ≠ lst := fun p hp => (co.sep p hp).1
  have sx2 : ∀ p ∈ nd, p.1 ≠ dd := fun p hp => (co.sep p hp).2.1
  have sx3 : ∀ p ∈ nd, p.1 ≠ fdx := fun p hp => (co.sep p hp).2.2.1
  have sx4 : ∀ p ∈ nd, p.1 ≠ ddU := fun p hp => (co.sep p hp).2.2.2.1
  have sx5 : ∀ p ∈ nd, p.1 ≠ fdUx := fun p hp => (co.sep p hp).2.2.2.2.1
  obtain ⟨kA, kB, bcv⟩ := co.hcv
  have bcd := co.hcd
  have bms := co.hms
  obtain ⟨bm, i1, i2, i3, i4, t1, t2, t3, t4, bmdx, bbm⟩ := co.hmdx
  have bfd := co.hfd
  have bmu := co.hmu
  obtain ⟨bmU, r1, r2, r3, r4, v1, v2, v3, v4, bmuX⟩ := co.hmuX
  have bfdU := co.hfdU
  obtain ⟨pU, n16, blstU⟩ := co.hlstU
  have oo0 := co.o0
  have oo00 := co.o00
  have oo3 := co.o3
  have oo4 := co.o4
  have oo5 := co.o5
  have oo6 := co.o6
  have lod := co.lod
  have lodU := co.lodU
  have g1 := hnn _ kcv
  have g2 := hnn _ C.hcd
  have g3 := hnn _ kmu
  have g4 := hnn _ kmuX
  have g5 := hnn _ kfdU
  have g6 := hnn _ kfdUx
  have g7 : (KlstU, listOf (([] : List Value) ++ [Value.ref kp]).toArray kn) ∈ nd := hnn _ klstU
  have g8 := hnn _ C.hms
  have g9 := hnn _ kmdx
  have g10 := hnn _ C.hfd
  have g11 := hnn _ kfdx
  have g12 := hnn _ C.hlst
  have eU : ∀ {x : Addr} {o : Obj}, (x, o) ∈ nd → @Ne Nat x fdUx ∧ @Ne Nat x ddU := fun h => ⟨sx5 _ h, sx4 _ h⟩
  have eS : ∀ {x : Addr} {o : Obj}, (x, o) ∈ nd → @Ne Nat x fdx ∧ @Ne Nat x dd := fun h => ⟨sx3 _ h, sx2 _ h⟩
  have f1 := eU g3
  have f2 := eU g4
  have f3 := eU g5
  have f4 := eU g6
  have f5 := eU g7
  have f6 := eU bmu
  have f7 := eU bmuX
  have f8 := eU bfdU
  have f9 := eU blstU
  have f10 := eS g8
  have f11 := eS g9
  have f12 := eS g10
  have f13 := eS g11
  have f14 := eS g12
  have f15 := eS bms
  have f16 := eS bmdx
  have f17 := eS bfd
  clear eU eS
  k_steps
  (rename News _ _ _ _ => N9)
  (rename _ ∧ _ ∧ _ ∧ _ ∧ _ ∧ _ ∧ _ ∧ _ ∧ AllLt _ _ => l9)
  refine hret cv cdx to mu muX ddU fdU fdUx lstU ms mdx dd fd fdx lst _ pc pa _ j1 j2 u1 u2 nd _ _ (by assumption) (fun q hq => N9 q ?_) (by assumption) hnn co l9.2.1 (fun p hp => allLt_mem l9.2.2.2.2.2.2.2.2 p hp)
  simp only [List.mem_cons] at hq ⊢
  rcases hq with h | h | h | h | h | h <;> simp only [h, true_or, or_true]
end Mine
namespace Mine
open PySem PySem.W PyProof.Rows PySem.Calls
set_option maxHeartbeats 1000000
theorem fnK481 {w : World} : ∃ ox, (Mine.hd.heap_39 w.params).lookup 481 = some ox ∧ ox.cls = .type "function" := by
  refine ⟨_, by k_is, by exact rfl⟩
theorem fnK488 {w : World} : ∃ ox, (Mine.hd.heap_39 w.params).lookup 488 = some ox ∧ ox.cls = .type "function" := by
  refine ⟨_, by k_is, by exact rfl⟩
theorem fnK495 {w : World} : ∃ ox, (Mine.hd.heap_39 w.params).lookup 495 = some ox ∧ ox.cls = .type "function" := by
  refine ⟨_, by k_is, by exact rfl⟩
theorem fnK114 {w : World} : ∃ ox, (Mine.hd.heap_39 w.params).lookup 114 = some ox ∧ ox.cls = .type "function" := by
  refine ⟨_, by k_is, by exact rfl⟩
theorem fnK328 {w : World} : ∃ ox, (Mine.hd.heap_39 w.params).lookup 328 = some ox ∧ ox.cls = .type "function" := by
  refine ⟨_, by k_is, by exact rfl⟩
def RHook (own : Bool) (r : Addr) : Bool → Value → List (Addr × Obj) → Prop := fun b v tl => (if (own && b) = true then v = .none else v = .ref r) ∧ tl = []
def RNone : Bool → Value → List (Addr × Obj) → Prop := fun _ v tl => v = .none ∧ tl = []
def RMeth (own : Bool) (cv : Addr) : Bool → Value → List (Addr × Obj) → Prop := fun b v tl => if (own && b) = true then v = .none ∧ tl = [] else ∃ q, v = .ref q ∧ tl = [(q, methodObj (.ref 328) (.ref cv))]
def RStr : Bool → Value → List (Addr × Obj) → Prop := fun _ v tl => ∃ j, v = .str "refused" j ∧ tl = []
theorem cmpHook {w : World} {nd : List (Addr × Obj)} {own : Bool} {r : Addr} (hr : ∃ ox, (Mine.hd.heap_39 w.params).lookup r = some ox ∧ ox.cls = .type "function") : CmpAll w nd (RHook own r) (RHook own r) := by
  obtain ⟨ox, lx, cx⟩ := hr
  intro b v tl v' tl' h1 h2 A E Q s h₀ L m news F X N _ _ _ hu hq
  obtain ⟨h1, _⟩ := h1
  obtain ⟨h2, _⟩ := h2
  by_cases e : (own && b) = true
  · rw [if_pos e] at h1 h2
    subst h1 h2
    exact EqNone.ne_none_none hq
  · rw [if_neg e] at h1 h2
    subst h1 h2
    exact ne_fnK0 F X lx cx hu hq
theorem cmpNone {w : World} {nd : List (Addr × Obj)} : CmpAll w nd RNone RNone := by
  intro b v tl v' tl' h1 h2 A E Q s h₀ L m news F X N _ _ _ hu hq
  obtain ⟨rfl, _⟩ := h1
  obtain ⟨rfl, _⟩ := h2
  exact EqNone.ne_none_none hq
theorem cmpMeth {w : World} {nd : List (Addr × Obj)} {own : Bool} {cv : Addr} {o : Obj} (hcv : (cv, o) ∈ nd) : CmpAll w nd (RMeth own cv) (RMeth own cv) := by
  intro b v tl v' tl' h1 h2 A E Q s h₀ L m news F X N n1 n2 n3 hu hq
  unfold RMeth at h1 h2
  by_cases e : (own && b) = true
  · rw [if_pos e] at h1 h2
    obtain ⟨rfl, _⟩ := h1
    obtain ⟨rfl, _⟩ := h2
    exact EqNone.ne_none_none hq
  · rw [if_neg e] at h1 h2
    obtain ⟨q, rfl, rfl⟩ := h1
    obtain ⟨q', rfl, rfl⟩ := h2
    obtain ⟨of, lf, _⟩ := fnK328 (w := w)
    exact ne_methK F X N (n1 _ (.head _)) (n2 _ (.head _)) lf (n3 _ hcv) (Nat.lt_of_succ_lt hu) hq
theorem cmpStr {w : World} {nd : List (Addr × Obj)} : CmpAll w nd RStr RStr := by
  intro b v tl v' tl' h1 h2 A E Q s h₀ L m news F X N _ _ _ hu hq
  obtain ⟨j, rfl, _⟩ := h1
  obtain ⟨j', rfl, _⟩ := h2
  refine PyProof.Rows.ne_str ?_
  rw [bne_self_eq_false]
  exact hq
section
variable {w : World} {mean : ExcName → Option Value} {mg mb : Str → Option Value} {nd : List (Addr × Obj)} {c : ConvD} {k : Str} {tq : Nat} {n l own : Bool}
theorem Tell.ret {w : World} {mean : ExcName → Option Value} {mg mb : Str → Option Value} {d : Nat} {f : Value} {pos : List Value} {kw : List (Str × Value)} {nd : List (Addr × Obj)} {R R' : Value → List (Addr × Obj) → Prop} (C : Tell w mean mg mb d f pos kw nd R) (h : ∀ v tl, R v tl → R' v tl) : Tell w mean mg mb d f pos kw nd R' := by
  intro dp un gd cn cs a ccd cl outer A₀ base h₀ L m news s Rr B F X N T hk hdp hun hn hret
  exact C dp un gd cn cs a ccd cl outer A₀ base h₀ L m news s Rr B F X N T hk hdp hun hn fun v tl h' tk' a b r => hret v tl h' tk' a b (h v tl r)
theorem TellS.ret {w : World} {mean : ExcName → Option Value} {mg mb : Str → Option Value} {d : Nat} {f : Value} {pos : List Value} {kw : List (Str × Value)} {nd : List (Addr × Obj)} {R R' : Value → List (Addr × Obj) → Prop} (C : TellS w mean mg mb d f pos kw nd R) (h : ∀ v tl, R v tl → R' v tl) : TellS w mean mg mb d f pos kw nd R' := by
  intro dp un gd cn cs a ccd outer A₀ base h₀ g₀ L m news s Rr B F X N T XB TB D T0 hk hdp hun hn hret
  exact C dp un gd cn cs a ccd outer A₀ base h₀ g₀ L m news s Rr B F X N T XB TB D T0 hk hdp hun hn fun v tl h₁ h' tk' a1 a2 a3 a4 a5 a6 a7 r => hret v tl h₁ h' tk' a1 a2 a3 a4 a5 a6 a7 (h v tl r)
theorem Tell.upd {w : World} {mean : ExcName → Option Value} {mg mb : Str → Option Value} {d d' : Nat} {f : Value} {pos : List Value} {kw : List (Str × Value)} {nd : List (Addr × Obj)} {R : Value → List (Addr × Obj) → Prop} (C : Tell w mean mg mb d f pos kw nd R) (h : d ≤ d') : Tell w mean mg mb d' f pos kw nd R := by
  intro dp un gd cn cs a ccd cl outer A₀ base h₀ L m news s Rr B F X N T hk hdp hun hn hret
  exact C dp un gd cn cs a ccd cl outer A₀ base h₀ L m news s Rr B F X N T hk (by omega) (by omega) hn hret
/-- due: by the way of preferring -/
theorem due2 {kv : Value} {cv : Addr} {R : Bool → Value → List (Addr × Obj) → Prop} (h : Tell w mean mg mb 12 (.ref 537) [.ref cv, kv, .bool true, .bool false, .bool n, .bool l] [] nd (R false)) (hp : ∀ tl, tl = [] → R true .none tl) :
    ∀ b, Tell w mean mg mb 12 (.ref 537) [.ref cv, kv, .bool true, .bool b, .bool n, .bool l] [] nd (R b)
  | false => h
  | true => (due_pref.upd (by decide)).ret fun v tl e => by rw [e.1]; exact hp tl e.2
abbrev OneT (w : World) (mean : ExcName → Option Value) (mg mb : Str → Option Value) (nd : List (Addr × Obj)) (cv : Addr) (kv : Value) (own n l : Bool) : Prop :=
  TellS w mean mg mb 110 (.ref 551) [.ref cv, kv, .bool own, .bool n, .bool l] [] nd (fun v tl => v = .bool true ∧ tl = [])
theorem one_hook_f (C : ConvIn w nd c) {r : Addr} (hg : GHook w mean mg mb nd c.cv k tq r) (hr : ∃ ox, (Mine.hd.heap_39 w.params).lookup r = some ox ∧ ox.cls = .type "function")
    (hdue : ∀ b, Tell w mean mg mb 12 (.ref 537) [.ref c.cv, .str k tq, .bool false, .bool b, .bool n, .bool l] [] nd (fun v tl => v = .ref r ∧ tl = [])) : OneT w mean mg mb nd c.cv (.str k tq) false n l := by
  obtain ⟨w1, w2, w3, w4, w5, w6, w7, hcv⟩ := C.hcv
  have e : ∀ b v tl, (v = .ref r ∧ tl = []) → RHook false r b v tl := fun b v tl h => ⟨by rw [if_neg (by simp)]; exact h.1, h.2⟩
  exact one_val (own := false) rfl (RF := RHook false r) (RD := RHook false r)
    (fun at_ adx _ _ _ _ _ _ _ _ _ _ _ _ _ _ _ _ _ _ _ Λ ha hadx hnd b => (found_val ((find_plain ha hadx (hnd _ C.hcd) (hnd _ hcv) (hg.mono hnd)).up (by decide))).ret (e b))
    (fun at_ adx _ _ _ _ _ _ _ _ _ _ _ _ _ _ _ _ _ _ _ Λ ha hadx hnd => ((find_plain3 ha hadx (hnd _ C.hcd) (hnd _ hcv) (hg.mono hnd)).up (by decide)).ret (e false))
    (fun b => (hdue b).ret (e b)) (cmpHook hr)
theorem one_none_t (C : ConvIn w nd c)
    (hf : ∀ {at_ adx : Addr} {i1 i2 i3 i4 i5 i6 i7 : Int} {t1 t2 t3 t4 t5 t6 t7 : Nat} {v1 v2 kd v4 v5 al : Value} {Λ : List (Addr × Obj)}, (at_, atObj adx) ∈ Λ → (adx, atDict i1 i2 i3 i4 i5 i6 i7 t1 t2 t3 t4 t5 t6 t7 v1 v2 kd v4 v5 al (.ref 502)) ∈ Λ → (∀ p ∈ nd, p ∈ Λ) → TellS w mean mg mb 84 (.ref 122) [.ref at_, .str k tq, .ref c.cv, .bool false] [] Λ (fun v tl => v = .none ∧ tl = []))
    (hf3 : ∀ {at_ adx : Addr} {i1 i2 i3 i4 i5 i6 i7 : Int} {t1 t2 t3 t4 t5 t6 t7 : Nat} {v1 v2 kd v4 v5 al : Value} {Λ : List (Addr × Obj)}, (at_, atObj adx) ∈ Λ → (adx, atDict i1 i2 i3 i4 i5 i6 i7 t1 t2 t3 t4 t5 t6 t7 v1 v2 kd v4 v5 al (.ref 502)) ∈ Λ → (∀ p ∈ nd, p ∈ Λ) → TellS w mean mg mb 84 (.ref 122) [.ref at_, .str k tq, .ref c.cv] [] Λ (fun v tl => v = .none ∧ tl = []))
    (hdue : Tell w mean mg mb 12 (.ref 537) [.ref c.cv, .str k tq, .bool true, .bool false, .bool n, .bool l] [] nd (fun v tl => v = .none ∧ tl = [])) : OneT w mean mg mb nd c.cv (.str k tq) true n l := by
  obtain ⟨w1, w2, w3, w4, w5, w6, w7, hcv⟩ := C.hcv
  exact one_val (own := true) rfl (RF := RNone) (RD := RNone)
    (fun at_ adx _ _ _ _ _ _ _ _ _ _ _ _ _ _ _ _ _ _ _ Λ ha hadx hnd b => match b with
      | true => found_val ((find_prefers_s ha hadx (hnd _ C.hcd) (hnd _ hcv)).up (by decide))
      | false => found_val (hf ha hadx hnd))
    (fun at_ adx _ _ _ _ _ _ _ _ _ _ _ _ _ _ _ _ _ _ _ Λ ha hadx hnd => hf3 ha hadx hnd)
    (due2 (R := RNone) hdue fun tl h => ⟨rfl, h⟩) cmpNone
theorem one_hook_t (C : ConvIn w nd c) {r : Addr} (hr : ∃ ox, (Mine.hd.heap_39 w.params).lookup r = some ox ∧ ox.cls = .type "function")
    (hf : ∀ {at_ adx : Addr} {i1 i2 i3 i4 i5 i6 i7 : Int} {t1 t2 t3 t4 t5 t6 t7 : Nat} {v1 v2 kd v4 v5 al : Value} {Λ : List (Addr × Obj)}, (at_, atObj adx) ∈ Λ → (adx, atDict i1 i2 i3 i4 i5 i6 i7 t1 t2 t3 t4 t5 t6 t7 v1 v2 kd v4 v5 al (.ref 502)) ∈ Λ → (∀ p ∈ nd, p ∈ Λ) → TellS w mean mg mb 24 (.ref 122) [.ref at_, .str k tq, .ref c.cv, .bool false] [] Λ (fun v tl => v = .ref r ∧ tl = []))
    (hf3 : ∀ {at_ adx : Addr} {i1 i2 i3 i4 i5 i6 i7 : Int} {t1 t2 t3 t4 t5 t6 t7 : Nat} {v1 v2 kd v4 v5 al : Value} {Λ : List (Addr × Obj)}, (at_, atObj adx) ∈ Λ → (adx, atDict i1 i2 i3 i4 i5 i6 i7 t1 t2 t3 t4 t5 t6 t7 v1 v2 kd v4 v5 al (.ref 502)) ∈ Λ → (∀ p ∈ nd, p ∈ Λ) → TellS w mean mg mb 24 (.ref 122) [.ref at_, .str k tq, .ref c.cv] [] Λ (fun v tl => v = .ref r ∧ tl = []))
    (hdue : Tell w mean mg mb 12 (.ref 537) [.ref c.cv, .str k tq, .bool true, .bool false, .bool n, .bool l] [] nd (fun v tl => v = .ref r ∧ tl = [])) : OneT w mean mg mb nd c.cv (.str k tq) true n l := by
  obtain ⟨w1, w2, w3, w4, w5, w6, w7, hcv⟩ := C.hcv
  have e0 : ∀ v tl, (v = .ref r ∧ tl = []) → RHook true r false v tl := fun v tl h => ⟨by rw [if_neg (by simp)]; exact h.1, h.2⟩
  have e1 : ∀ v tl, (v = .none ∧ tl = []) → RHook true r true v tl := fun v tl h => ⟨by rw [if_pos (by simp)]; exact h.1, h.2⟩
  exact one_val (own := true) rfl (RF := RHook true r) (RD := RHook true r)
    (fun at_ adx _ _ _ _ _ _ _ _ _ _ _ _ _ _ _ _ _ _ _ Λ ha hadx hnd b => match b with
      | true => (found_val ((find_prefers_s ha hadx (hnd _ C.hcd) (hnd _ hcv)).up (by decide))).ret e1
      | false => (found_val ((hf ha hadx hnd).up (by decide))).ret e0)
    (fun at_ adx _ _ _ _ _ _ _ _ _ _ _ _ _ _ _ _ _ _ _ Λ ha hadx hnd => ((hf3 ha hadx hnd).up (by decide)).ret e0)
    (due2 (R := RHook true r) (hdue.ret e0) fun tl h => e1 _ _ ⟨rfl, h⟩) (cmpHook hr)
theorem one_ref_f (C : ConvIn w nd c) (hg : GRef w mean mg mb nd c.cv k tq)
    (hdue : ∀ b, Tell w mean mg mb 12 (.ref 537) [.ref c.cv, .str k tq, .bool false, .bool b, .bool n, .bool l] [] nd (fun v tl => ∃ j, v = .str "refused" j ∧ tl = [])) : OneT w mean mg mb nd c.cv (.str k tq) false n l := by
  obtain ⟨w1, w2, w3, w4, w5, w6, w7, hcv⟩ := C.hcv
  exact one_ref (own := false) rfl (RF := RStr) (RD := RStr)
    (fun at_ adx _ _ _ _ _ _ _ _ _ _ _ _ _ _ _ _ _ _ _ Λ ha hadx hnd b => found_refused (find_refused ha hadx (hnd _ C.hcd) (hnd _ hcv) (hg.mono hnd)))
    (fun at_ adx _ _ _ _ _ _ _ _ _ _ _ _ _ _ _ _ _ _ _ Λ ha hadx hnd => find_refused3 ha hadx (hnd _ C.hcd) (hnd _ hcv) (hg.mono hnd))
    (fun j => ⟨j, rfl, rfl⟩) hdue cmpStr
theorem one_ref_t (C : ConvIn w nd c) (hg : GRef w mean mg mb nd c.cv k tq)
    (hdue : Tell w mean mg mb 12 (.ref 537) [.ref c.cv, .str k tq, .bool true, .bool false, .bool n, .bool l] [] nd (fun v tl => v = .none ∧ tl = [])) : OneT w mean mg mb nd c.cv (.str k tq) true n l := by
  obtain ⟨w1, w2, w3, w4, w5, w6, w7, hcv⟩ := C.hcv
  exact one_none_t C (fun ha hadx hnd => find_refusedo_f ha hadx (hnd _ C.hcd) (hnd _ hcv) (hg.mono hnd).toN) (fun ha hadx hnd => find_refusedo3 ha hadx (hnd _ C.hcd) (hnd _ hcv) (hg.mono hnd).toN) hdue
theorem one_meth (C : ConvIn w nd c) {kv : Value} (own : Bool) (hkv : handedIn kv = true)
    (hf : ∀ (b : Bool) {at_ adx : Addr} {i1 i2 i3 i4 i5 i6 i7 : Int} {t1 t2 t3 t4 t5 t6 t7 : Nat} {v1 v2 kd v4 v5 al : Value} {Λ : List (Addr × Obj)}, (at_, atObj adx) ∈ Λ → (adx, atDict i1 i2 i3 i4 i5 i6 i7 t1 t2 t3 t4 t5 t6 t7 v1 v2 kd v4 v5 al (cvtOf own)) ∈ Λ → (∀ p ∈ nd, p ∈ Λ) → TellS w mean mg mb 84 (.ref 122) [.ref at_, kv, .ref c.cv, .bool b] [] Λ (RMeth own c.cv b))
    (hf3 : ∀ {at_ adx : Addr} {i1 i2 i3 i4 i5 i6 i7 : Int} {t1 t2 t3 t4 t5 t6 t7 : Nat} {v1 v2 kd v4 v5 al : Value} {Λ : List (Addr × Obj)}, (at_, atObj adx) ∈ Λ → (adx, atDict i1 i2 i3 i4 i5 i6 i7 t1 t2 t3 t4 t5 t6 t7 v1 v2 kd v4 v5 al (cvtOf own)) ∈ Λ → (∀ p ∈ nd, p ∈ Λ) → TellS w mean mg mb 84 (.ref 122) [.ref at_, kv, .ref c.cv] [] Λ (RMeth own c.cv false))
    (hdue : ∀ b, Tell w mean mg mb 12 (.ref 537) [.ref c.cv, kv, .bool own, .bool b, .bool n, .bool l] [] nd (RMeth own c.cv b)) : OneT w mean mg mb nd c.cv kv own n l := by
  obtain ⟨w1, w2, w3, w4, w5, w6, w7, hcv⟩ := C.hcv
  exact one_val hkv (RF := RMeth own c.cv) (RD := RMeth own c.cv)
    (fun at_ adx _ _ _ _ _ _ _ _ _ _ _ _ _ _ _ _ _ _ _ Λ ha hadx hnd b => found_val (hf b ha hadx hnd))
    (fun at_ adx _ _ _ _ _ _ _ _ _ _ _ _ _ _ _ _ _ _ _ Λ ha hadx hnd => hf3 ha hadx hnd)
    hdue (cmpMeth hcv)
end
end Mine
namespace Mine
open PySem PySem.W PyProof.Rows PySem.Calls
set_option maxHeartbeats 1000000
section
variable {w : World} {mean : ExcName → Option Value} {mg mb : Str → Option Value} {nd : List (Addr × Obj)} {c : ConvD} {tq : Nat} {n l own : Bool}
theorem RMeth0 {cv : Addr} {own b : Bool} (h : (own && b) = false) {v : Value} {tl : List (Addr × Obj)} (e : ∃ q, v = .ref q ∧ tl = [(q, methodObj (.ref 328) (.ref cv))]) : RMeth own cv b v tl := by
  unfold RMeth
  rw [if_neg (by rw [h]; decide)]
  exact e
theorem RMeth1 {cv : Addr} {v : Value} {tl : List (Addr × Obj)} (e : v = .none ∧ tl = []) : RMeth true cv true v tl := by
  unfold RMeth
  rw [if_pos (by simp)]
  exact e
theorem hooks_cases (h : c.hooks.map (·.2) = hooksOf n l) : ∃ hs5 : List Hk, ∃ p1 p2 p3 p4, c.hooks = hs5 ++ [(p4, Str.ofString "falling", Value.ref 523, true), (p3, Str.ofString "made", Value.ref 516, true), (p2, Str.ofString "refusing", Value.ref 114, false), (p1, Str.ofString "hooked", Value.ref 481, false)] ∧
    hs5.map (·.2) = (if l then [((Str.ofString "later", Value.ref 488, false) : Str × Value × Bool)] else []) ++ (if n then [((Str.ofString "hooked", Value.ref 495, false) : Str × Value × Bool)] else []) := by
  unfold hooksOf at h
  obtain ⟨a, b, e, ha, hb⟩ := List.map_eq_append_iff.mp h
  obtain ⟨x4, r4, rfl, e4, hb⟩ := List.map_eq_cons_iff.mp hb
  obtain ⟨x3, r3, rfl, e3, hb⟩ := List.map_eq_cons_iff.mp hb
  obtain ⟨x2, r2, rfl, e2, hb⟩ := List.map_eq_cons_iff.mp hb
  obtain ⟨x1, r1, rfl, e1, hb⟩ := List.map_eq_cons_iff.mp hb
  rw [List.map_eq_nil_iff] at hb
  subst hb
  refine ⟨a, x1.1, x2.1, x3.1, x4.1, ?_, ha⟩
  rw [e]
  obtain ⟨y1, z1⟩ := x1
  obtain ⟨y2, z2⟩ := x2
  obtain ⟨y3, z3⟩ := x3
  obtain ⟨y4, z4⟩ := x4
  subst e1 e2 e3 e4
  rfl
/-- the hooks ahead have other kinds -/
theorem ahead {hs : List Hk} {k : Str} (h : hs.map (·.2) = (if l then [((Str.ofString "later", Value.ref 488, false) : Str × Value × Bool)] else []) ++ (if n then [((Str.ofString "hooked", Value.ref 495, false) : Str × Value × Bool)] else []))
    (h1 : l = true → (k == Str.ofString "later") = false) (h2 : n = true → (k == Str.ofString "hooked") = false) : ∀ y ∈ hs, (k == y.2.1) = false := by
  intro y hy
  have : y.2 ∈ hs.map (·.2) := List.mem_map.mpr ⟨y, hy, rfl⟩
  rw [h] at this
  rcases List.mem_append.mp this with q | q
  · cases l
    · cases q
    · rw [List.mem_singleton.mp q]; exact h1 rfl
  · cases n
    · cases q
    · rw [List.mem_singleton.mp q]; exact h2 rfl
theorem due_k (C : ConvIn w nd c) {k : Str} {b : Bool} : Tell w mean mg mb 12 (.ref 537) [.ref c.cv, .str k tq, .bool own, .bool b, .bool n, .bool l] [] nd (DueR c.cv k own b n l) := by
  obtain ⟨w1, w2, w3, w4, w5, w6, w7, hcv⟩ := C.hcv
  exact due_str C.hcd hcv
theorem one_refusing (C : ConvIn w nd c) (h : c.hooks.map (·.2) = hooksOf n l) : OneT w mean mg mb nd c.cv (.str "refusing" tq) own n l := by
  obtain ⟨w1, w2, w3, w4, w5, w6, w7, hcv⟩ := C.hcv
  obtain ⟨hs, p1, p2, p3, p4, e, hp⟩ := hooks_cases h
  have hg : GHook w mean mg mb nd c.cv "refusing" tq 114 := C.hook (pre := hs ++ [(p4, Str.ofString "falling", Value.ref 523, true), (p3, Str.ofString "made", Value.ref 516, true)]) (h := (p2, Str.ofString "refusing", Value.ref 114, false)) (post := [(p1, Str.ofString "hooked", Value.ref 481, false)]) (by rw [e]; simp) (fun y hy => by
    rcases List.mem_append.mp hy with hy | hy
    · exact ahead hp (fun _ => by decide) (fun _ => by decide) y hy
    · rcases List.mem_cons.mp hy with rfl | hy
      · dsimp only; decide
      · rw [List.mem_singleton.mp hy]; dsimp only; decide) (by dsimp only; decide) rfl rfl
  cases own
  · exact one_hook_f C hg fnK114 fun b => (due_k C).ret fun v tl q => by simp (decide := true) [DueR] at q; exact q
  · exact one_none_t C (fun ha hadx hnd => ((find_own ha hadx (hnd _ C.hcd) (hnd _ hcv) fnK114 (hg.mono hnd)).up (by decide)).ret fun v tl q => ⟨q.1, q.2⟩) (fun ha hadx hnd => ((find_own3 ha hadx (hnd _ C.hcd) (hnd _ hcv) fnK114 (hg.mono hnd)).up (by decide)).ret fun v tl q => ⟨q.1, q.2⟩) ((due_k C).ret fun v tl q => by simp (decide := true) [DueR] at q; exact q)
theorem one_made (C : ConvIn w nd c) (h : c.hooks.map (·.2) = hooksOf n l) : OneT w mean mg mb nd c.cv (.str "made" tq) own n l := by
  obtain ⟨w1, w2, w3, w4, w5, w6, w7, hcv⟩ := C.hcv
  obtain ⟨hs, p1, p2, p3, p4, e, hp⟩ := hooks_cases h
  have hg : GHook w mean mg mb nd c.cv "made" tq 488 := C.made (pre := hs ++ [(p4, Str.ofString "falling", Value.ref 523, true)]) (h := (p3, Str.ofString "made", Value.ref 516, true)) (post := [(p2, Str.ofString "refusing", Value.ref 114, false), (p1, Str.ofString "hooked", Value.ref 481, false)]) (by rw [e]; simp) (fun y hy => by
    rcases List.mem_append.mp hy with hy | hy
    · exact ahead hp (fun _ => by decide) (fun _ => by decide) y hy
    · rw [List.mem_singleton.mp hy]; dsimp only; decide) (by dsimp only; decide) rfl rfl
  cases own
  · exact one_hook_f C hg fnK488 fun b => (due_k C).ret fun v tl q => by simp (decide := true) [DueR] at q; exact q
  · exact one_hook_t C fnK488 (fun ha hadx hnd => (find_own ha hadx (hnd _ C.hcd) (hnd _ hcv) fnK488 (hg.mono hnd)).ret fun v tl q => ⟨q.1, q.2⟩) (fun ha hadx hnd => (find_own3 ha hadx (hnd _ C.hcd) (hnd _ hcv) fnK488 (hg.mono hnd)).ret fun v tl q => ⟨q.1, q.2⟩) ((due_k C).ret fun v tl q => by simp (decide := true) [DueR] at q; exact q)
theorem one_hooked (C : ConvIn w nd c) (h : c.hooks.map (·.2) = hooksOf n l) : OneT w mean mg mb nd c.cv (.str "hooked" tq) own n l := by
  obtain ⟨w1, w2, w3, w4, w5, w6, w7, hcv⟩ := C.hcv
  obtain ⟨hs, p1, p2, p3, p4, e, hp⟩ := hooks_cases h
  cases n
  · have hg : GHook w mean mg mb nd c.cv "hooked" tq 481 := C.hook (pre := hs ++ [(p4, Str.ofString "falling", Value.ref 523, true), (p3, Str.ofString "made", Value.ref 516, true), (p2, Str.ofString "refusing", Value.ref 114, false)]) (h := (p1, Str.ofString "hooked", Value.ref 481, false)) (post := []) (by rw [e]; simp) (fun y hy => by
      rcases List.mem_append.mp hy with hy | hy
      · exact ahead hp (fun _ => by decide) (fun q => by cases q) y hy
      · rcases List.mem_cons.mp hy with rfl | hy
        · dsimp only; decide
        · rcases List.mem_cons.mp hy with rfl | hy
          · dsimp only; decide
          · rw [List.mem_singleton.mp hy]; dsimp only; decide) (by dsimp only; decide) rfl rfl
    cases own
    · exact one_hook_f C hg fnK481 fun b => (due_k C).ret fun v tl q => by simp (decide := true) [DueR] at q; exact q
    · exact one_hook_t C fnK481 (fun ha hadx hnd => (find_own ha hadx (hnd _ C.hcd) (hnd _ hcv) fnK481 (hg.mono hnd)).ret fun v tl q => ⟨q.1, q.2⟩) (fun ha hadx hnd => (find_own3 ha hadx (hnd _ C.hcd) (hnd _ hcv) fnK481 (hg.mono hnd)).ret fun v tl q => ⟨q.1, q.2⟩) ((due_k C).ret fun v tl q => by simp (decide := true) [DueR] at q; exact q)
  · obtain ⟨a, b, rfl, ha, hb⟩ := List.map_eq_append_iff.mp hp
    obtain ⟨x, r, rfl, e5, hb⟩ := List.map_eq_cons_iff.mp hb
    have hg : GHook w mean mg mb nd c.cv "hooked" tq 495 := C.hook (pre := a) (h := x) (post := r ++ [(p4, Str.ofString "falling", Value.ref 523, true), (p3, Str.ofString "made", Value.ref 516, true), (p2, Str.ofString "refusing", Value.ref 114, false), (p1, Str.ofString "hooked", Value.ref 481, false)]) (by rw [e]; simp) (fun y hy => by
      have : y.2 ∈ a.map (·.2) := List.mem_map.mpr ⟨y, hy, rfl⟩
      rw [ha] at this
      cases l
      · cases this
      · rw [List.mem_singleton.mp this]; decide) (by rw [e5]; decide) (by rw [e5]) (by rw [e5])
    cases own
    · exact one_hook_f C hg fnK495 fun b => (due_k C).ret fun v tl q => by simp (decide := true) [DueR] at q; exact q
    · exact one_hook_t C fnK495 (fun ha hadx hnd => (find_own ha hadx (hnd _ C.hcd) (hnd _ hcv) fnK495 (hg.mono hnd)).ret fun v tl q => ⟨q.1, q.2⟩) (fun ha hadx hnd => (find_own3 ha hadx (hnd _ C.hcd) (hnd _ hcv) fnK495 (hg.mono hnd)).ret fun v tl q => ⟨q.1, q.2⟩) ((due_k C).ret fun v tl q => by simp (decide := true) [DueR] at q; exact q)
theorem one_unknown (C : ConvIn w nd c) (h : c.hooks.map (·.2) = hooksOf n l) : OneT w mean mg mb nd c.cv (.str "unknown" tq) own n l := by
  obtain ⟨hs, p1, p2, p3, p4, e, hp⟩ := hooks_cases h
  have hg : GRef w mean mg mb nd c.cv "unknown" tq := C.refused (fun y hy => by
    rw [e] at hy
    rcases List.mem_append.mp hy with hy | hy
    · exact ahead hp (fun _ => by decide) (fun _ => by decide) y hy
    · rcases List.mem_cons.mp hy with rfl | hy
      · dsimp only; decide
      · rcases List.mem_cons.mp hy with rfl | hy
        · dsimp only; decide
        · rcases List.mem_cons.mp hy with rfl | hy
          · dsimp only; decide
          · rw [List.mem_singleton.mp hy]; dsimp only; decide) (by decide)
  cases own
  · exact one_ref_f C hg fun b => (due_k C).ret fun v tl q => by simp (decide := true) [DueR] at q; exact ⟨q.1.choose, q.1.choose_spec, q.2⟩
  · exact one_ref_t C hg ((due_k C).ret fun v tl q => by simp (decide := true) [DueR] at q; exact q)
theorem one_later (C : ConvIn w nd c) (h : c.hooks.map (·.2) = hooksOf n l) : OneT w mean mg mb nd c.cv (.str "later" tq) own n l := by
  obtain ⟨w1, w2, w3, w4, w5, w6, w7, hcv⟩ := C.hcv
  obtain ⟨hs, p1, p2, p3, p4, e, hp⟩ := hooks_cases h
  cases l
  · have hg : GRef w mean mg mb nd c.cv "later" tq := C.refused (fun y hy => by
      rw [e] at hy
      rcases List.mem_append.mp hy with hy | hy
      · exact ahead hp (fun q => by cases q) (fun _ => by decide) y hy
      · rcases List.mem_cons.mp hy with rfl | hy
        · dsimp only; decide
        · rcases List.mem_cons.mp hy with rfl | hy
          · dsimp only; decide
          · rcases List.mem_cons.mp hy with rfl | hy
            · dsimp only; decide
            · rw [List.mem_singleton.mp hy]; dsimp only; decide) (by decide)
    cases own
    · exact one_ref_f C hg fun b => (due_k C).ret fun v tl q => by simp (decide := true) [DueR] at q; exact ⟨q.1.choose, q.1.choose_spec, q.2⟩
    · exact one_ref_t C hg ((due_k C).ret fun v tl q => by simp (decide := true) [DueR] at q; exact q)
  · obtain ⟨x, r, rfl, e5, hb⟩ := List.map_eq_cons_iff.mp hp
    have hg : GHook w mean mg mb nd c.cv "later" tq 488 := C.hook (pre := []) (h := x) (post := r ++ [(p4, Str.ofString "falling", Value.ref 523, true), (p3, Str.ofString "made", Value.ref 516, true), (p2, Str.ofString "refusing", Value.ref 114, false), (p1, Str.ofString "hooked", Value.ref 481, false)]) (by rw [e]; simp) (fun y hy => nomatch hy) (by rw [e5]; decide) (by rw [e5]) (by rw [e5])
    cases own
    · exact one_hook_f C hg fnK488 fun b => (due_k C).ret fun v tl q => by simp (decide := true) [DueR] at q; exact q
    · exact one_hook_t C fnK488 (fun ha hadx hnd => (find_own ha hadx (hnd _ C.hcd) (hnd _ hcv) fnK488 (hg.mono hnd)).ret fun v tl q => ⟨q.1, q.2⟩) (fun ha hadx hnd => (find_own3 ha hadx (hnd _ C.hcd) (hnd _ hcv) fnK488 (hg.mono hnd)).ret fun v tl q => ⟨q.1, q.2⟩) ((due_k C).ret fun v tl q => by simp (decide := true) [DueR] at q; exact q)
theorem one_falling (C : ConvIn w nd c) (h : c.hooks.map (·.2) = hooksOf n l) : OneT w mean mg mb nd c.cv (.str "falling" tq) own n l := by
  obtain ⟨w1, w2, w3, w4, w5, w6, w7, hcv⟩ := C.hcv
  obtain ⟨hs, p1, p2, p3, p4, e, hp⟩ := hooks_cases h
  have hg : GFall w mean mg mb nd c.cv "falling" tq := C.falls (pre := hs) (h := (p4, Str.ofString "falling", Value.ref 523, true)) (post := [(p3, Str.ofString "made", Value.ref 516, true), (p2, Str.ofString "refusing", Value.ref 114, false), (p1, Str.ofString "hooked", Value.ref 481, false)]) (by rw [e]) (fun y hy => ahead hp (fun _ => by decide) (fun _ => by decide) y hy) (by dsimp only; decide) rfl rfl
  cases own
  · exact one_meth C false rfl (fun b => match b with
      | true => fun ha hadx hnd => ((find_falls_t ha hadx (hnd _ C.hcd) (hnd _ hcv) (hg.mono hnd)).up (by decide)).ret fun v tl q => RMeth0 rfl q
      | false => fun ha hadx hnd => ((find_falls_f ha hadx (hnd _ C.hcd) (hnd _ hcv) (hg.mono hnd)).up (by decide)).ret fun v tl q => RMeth0 rfl q)
      (fun ha hadx hnd => ((find_falls3 ha hadx (hnd _ C.hcd) (hnd _ hcv) (hg.mono hnd)).up (by decide)).ret fun v tl q => RMeth0 rfl q)
      (fun b => (due_k C).ret fun v tl q => RMeth0 rfl (by simp (decide := true) [DueR] at q; exact q))
  · exact one_meth C true rfl (fun b => match b with
      | true => fun ha hadx hnd => ((find_prefers_s ha hadx (hnd _ C.hcd) (hnd _ hcv)).up (by decide)).ret fun v tl q => RMeth1 q
      | false => fun ha hadx hnd => ((find_fallso_f ha hadx (hnd _ C.hcd) (hnd _ hcv) (hg.mono hnd)).up (by decide)).ret fun v tl q => RMeth0 rfl q)
      (fun ha hadx hnd => ((find_fallso3 ha hadx (hnd _ C.hcd) (hnd _ hcv) (hg.mono hnd)).up (by decide)).ret fun v tl q => RMeth0 rfl q)
      (due2 (R := RMeth true c.cv) ((due_k C).ret fun v tl q => RMeth0 rfl (by simp (decide := true) [DueR] at q; exact q)) fun tl q => RMeth1 ⟨rfl, q⟩)
theorem one_nokind (C : ConvIn w nd c) : OneT w mean mg mb nd c.cv .none own n l := by
  obtain ⟨w1, w2, w3, w4, w5, w6, w7, hcv⟩ := C.hcv
  cases own
  · exact one_meth C false rfl (fun b => match b with
      | true => fun ha hadx hnd => ((find_nokind_nt (tq := 0) (k := "") ha hadx (hnd _ C.hcd) (hnd _ hcv)).up (by decide)).ret fun v tl q => RMeth0 rfl q
      | false => fun ha hadx hnd => ((find_nokind_n (tq := 0) (k := "") ha hadx (hnd _ C.hcd) (hnd _ hcv)).up (by decide)).ret fun v tl q => RMeth0 rfl q)
      (fun ha hadx hnd => ((find_nokind_n3 (tq := 0) (k := "") ha hadx (hnd _ C.hcd) (hnd _ hcv)).up (by decide)).ret fun v tl q => RMeth0 rfl q)
      (fun b => (due_nokind_0 C.hcd hcv).ret fun v tl q => RMeth0 rfl q)
  · exact one_meth C true rfl (fun b => match b with
      | true => fun ha hadx hnd => ((find_prefers_n (tq := 0) (k := "") ha hadx (hnd _ C.hcd) (hnd _ hcv)).up (by decide)).ret fun v tl q => RMeth1 q
      | false => fun ha hadx hnd => ((find_nokind_o (tq := 0) (k := "") ha hadx (hnd _ C.hcd) (hnd _ hcv)).up (by decide)).ret fun v tl q => RMeth0 rfl q)
      (fun ha hadx hnd => ((find_nokind_o3 (tq := 0) (k := "") ha hadx (hnd _ C.hcd) (hnd _ hcv)).up (by decide)).ret fun v tl q => RMeth0 rfl q)
      (due2 (R := RMeth true c.cv) ((due_nokind_1 C.hcd hcv).ret fun v tl q => RMeth0 rfl q) fun tl q => RMeth1 ⟨rfl, q⟩)
/-- the seven kinds -/
def KindV (v : Value) : Prop := v = .none ∨ ∃ k ∈ K6, ∃ tq, v = .str k tq
theorem one_all (C : ConvIn w nd c) (h : c.hooks.map (·.2) = hooksOf n l) {kv : Value} (hk : KindV kv) (own : Bool) : OneT w mean mg mb nd c.cv kv own n l := by
  rcases hk with rfl | ⟨k, hk, tq, rfl⟩
  · exact one_nokind C
  · simp only [K6, List.mem_cons, List.not_mem_nil, or_false] at hk
    rcases hk with rfl | rfl | rfl | rfl | rfl | rfl
    · exact one_hooked C h
    · exact one_refusing C h
    · exact one_made C h
    · exact one_falling C h
    · exact one_unknown C h
    · exact one_later C h
end
end Mine
namespace Mine
open PySem PySem.W PyProof.Rows PySem.Calls
set_option maxHeartbeats 4000000
/-- the hook of the kind hooked, for whatever token -/
def Hook0All (w : World) (mean : ExcName → Option Value) (mg mb : Str → Option Value) (nd : List (Addr × Obj)) (cv r : Addr) : Prop := ∀ tq, GHook0 w mean mg mb nd cv "hooked" tq r
theorem Hook0All.use {w : World} {mean : ExcName → Option Value} {mg mb : Str → Option Value} {nd : List (Addr × Obj)} {cv r : Addr} {tq : Nat} (H : Hook0All w mean mg mb nd cv r) : GHook0 w mean mg mb nd cv "hooked" tq r := H tq
theorem hook0_all {w : World} {mean : ExcName → Option Value} {mg mb : Str → Option Value} {nd : List (Addr × Obj)} {c : ConvD} {n l : Bool} (C : ConvIn w nd c) (h : c.hooks.map (·.2) = hooksOf n l) : Hook0All w mean mg mb nd c.cv (if n = true then 495 else 481) := by
  intro tq
  obtain ⟨hs, p1, p2, p3, p4, e, hp⟩ := hooks_cases h
  cases n
  · exact C.hook0 (pre := hs ++ [(p4, Str.ofString "falling", Value.ref 523, true), (p3, Str.ofString "made", Value.ref 516, true), (p2, Str.ofString "refusing", Value.ref 114, false)]) (h := (p1, Str.ofString "hooked", Value.ref 481, false)) (post := []) (by rw [e]; simp) (fun y hy => by
      rcases List.mem_append.mp hy with hy | hy
      · exact ahead hp (fun _ => by decide) (fun q => by cases q) y hy
      · rcases List.mem_cons.mp hy with rfl | hy
        · dsimp only; decide
        · rcases List.mem_cons.mp hy with rfl | hy
          · dsimp only; decide
          · rw [List.mem_singleton.mp hy]; dsimp only; decide) (by dsimp only; decide) rfl rfl
  · obtain ⟨a, b, rfl, ha, hb⟩ := List.map_eq_append_iff.mp hp
    obtain ⟨x, r, rfl, e5, hb⟩ := List.map_eq_cons_iff.mp hb
    exact C.hook0 (pre := a) (h := x) (post := r ++ [(p4, Str.ofString "falling", Value.ref 523, true), (p3, Str.ofString "made", Value.ref 516, true), (p2, Str.ofString "refusing", Value.ref 114, false), (p1, Str.ofString "hooked", Value.ref 481, false)]) (by rw [e]; simp) (fun y hy => by
      have : y.2 ∈ a.map (·.2) := List.mem_map.mpr ⟨y, hy, rfl⟩
      rw [ha] at this
      cases l
      · cases this
      · rw [List.mem_singleton.mp this]; decide) (by rw [e5]; decide) (by rw [e5]) (by rw [e5]; rfl)
theorem fnR {w : World} (n : Bool) : ∃ ox, (Mine.hd.heap_39 w.params).lookup (if n = true then 495 else 481) = some ox ∧ ox.cls = .type "function" := by
  cases n
  · exact fnK481
  · exact fnK495
theorem ConvIn.mono {w : World} {nd nd' : List (Addr × Obj)} {c : ConvD} (C : ConvIn w nd c) (h : ∀ p ∈ nd, p ∈ nd') : ConvIn w nd' c := by
  obtain ⟨w1, w2, w3, w4, w5, w6, w7, hcv⟩ := C.hcv
  obtain ⟨i1, i2, i3, i4, t1, t2, t3, t4, hmdx⟩ := C.hmdx
  obtain ⟨j1, j2, u1, u2, hfdx⟩ := C.hfdx
  exact ⟨h _ C.hcd, ⟨_, _, _, _, _, _, _, h _ hcv⟩, h _ C.hms, ⟨_, _, _, _, _, _, _, _, h _ hmdx⟩, h _ C.hbm, h _ C.hdd, C.hod, C.lod, h _ C.hfd, ⟨_, _, _, _, h _ hfdx⟩, h _ C.hlst, fun k hk => (C.hk k hk).mono h, C.bc.mono h, C.ba.mono h⟩
theorem conv_in {w : World} {nd led : List (Addr × Obj)} {cv cdx to mu muX ddU fdU fdUx lstU ms mdx dd fd fdx lst pc pa D : Addr} {od : Obj} {nl : Nat} {j1 j2 : Int} {u1 u2 : Nat} (hooks : List Hk) (co : COut w nd cv cdx to mu muX ddU fdU fdUx lstU ms mdx dd fd fdx lst pc pa) (up : ∀ p ∈ nd, p ∈ led)
  (ml : (D, listOf (hooks.map (fun (y : Hk) => Value.ref y.1) ++ [Value.ref pc, Value.ref pa]).toArray nl) ∈ led) (md : (dd, od) ∈ led) (hod : od.IsDictOf (PySem.strKind PySem.Challenge.rw_fq0010_01.row.prog w) []) (mf : (fdx, fdDict j1 j2 u1 u2 cv D) ∈ led) (hk : ∀ k ∈ hooks, HookIn led k) :
  ∃ c : ConvD, c.cv = cv ∧ c.hooks = hooks ∧ ConvIn w led c := by
  obtain ⟨bm, i1, i2, i3, i4, t1, t2, t3, t4, bmdx, bbm⟩ := co.hmdx
  obtain ⟨kA, kB, bcv⟩ := co.hcv
  exact ⟨⟨cv, cdx, to, mu, ms, mdx, dd, fd, bm, fdx, D, od, nl, hooks, pc, pa⟩, rfl, rfl, ⟨up _ co.hcd, ⟨_, _, _, _, _, _, _, up _ bcv⟩, up _ co.hms, ⟨i1, i2, i3, i4, t1, t2, t3, t4, up _ bmdx⟩, up _ bbm, md, hod, co.lod, up _ co.hfd, ⟨j1, j2, u1, u2, mf⟩, ml, hk, co.bc.mono up, co.ba.mono up⟩⟩
theorem hooks_len {c : ConvD} {n l : Bool} (h : c.hooks.map (·.2) = hooksOf n l) : c.hooks.length ≤ 6 := by
  have := congrArg List.length h
  rw [List.length_map] at this
  rw [this]
  cases n <;> cases l <;> decide
def OneAll (w : World) (mean : ExcName → Option Value) (mg mb : Str → Option Value) (nd : List (Addr × Obj)) (cv : Addr) (n l : Bool) : Prop := ∀ kv own, KindV kv → OneT w mean mg mb nd cv kv own n l
theorem OneAll.use {w : World} {mean : ExcName → Option Value} {mg mb : Str → Option Value} {nd : List (Addr × Obj)} {cv : Addr} {n l own : Bool} {kv : Value} (H : OneAll w mean mg mb nd cv n l) (h : KindV kv) : OneT w mean mg mb nd cv kv own n l := H kv own h
theorem hook0_allT {w : World} {mean : ExcName → Option Value} {mg mb : Str → Option Value} {h₀ : Heap} {nd : List (Addr × Obj)} {c : ConvD} {n l : Bool} (_T : Top topProg LO mean mg mb h₀) (C : ConvIn w nd c) (h : c.hooks.map (·.2) = hooksOf n l) : Hook0All w mean mg mb nd c.cv (if n = true then 495 else 481) := hook0_all C h
theorem law_pack {w : World} {mean : ExcName → Option Value} {mg mb : Str → Option Value} {h₀ h : Heap} {L : Addr} {led nd ND : List (Addr × Obj)} {c : ConvD} {n : Bool} {cv cdx to mu muX ddU fdU fdUx lstU ms mdx dd fd fdx lst pc pa D p f kc c0 c1 c2 c3 c4 : Addr} {od ok : Obj} {nl n1 tk : Nat} {j1 j2 : Int} {u1 u2 : Nat} {pm ctv : Value}
  (_T : Top topProg LO mean mg mb h₀) (N : News h₀ L h led) (hND : ∀ p ∈ ND, p ∈ nd) (hnd : ∀ p ∈ nd, p ∈ led) (C : ConvIn w ND c) (hh : c.hooks.map (·.2) = hooksOf n false) (hc0 : CodeIn ND isQ c0) (co : COut w nd cv cdx to mu muX ddU fdU fdUx lstU ms mdx dd fd fdx lst pc pa)
  (m1 : (p, tupObj #[.ref f, .ref 488, .bool false, .bool false] n1) ∈ led) (m2 : (f, isFn kc pm c0 ctv) ∈ led) (m3 : (kc, ok) ∈ led) (hok : ok.data = .cell (some (.str "later" tk)))
  (ml : (D, listOf (Value.ref p :: (c.hooks.map (fun (y : Hk) => Value.ref y.1) ++ [Value.ref pc, Value.ref pa])).toArray nl) ∈ led) (md : (dd, od) ∈ led) (hod : od.IsDictOf (PySem.strKind PySem.Challenge.rw_fq0010_01.row.prog w) []) (mf : (fdx, fdDict j1 j2 u1 u2 cv D) ∈ led)
  (t1 : (270, tabObj (tri4 c1 c2 c3 c4)) ∈ led) (t2 : (504, tabObj (tri1 c0)) ∈ led) :
  ∃ led', News h₀ L h led' ∧ OneAll w mean mg mb led' c.cv n false ∧ OneAll w mean mg mb led' cv n true ∧ Hook0All w mean mg mb led' c.cv (if n = true then 495 else 481) ∧ Hook0All w mean mg mb led' cv (if n = true then 495 else 481) ∧
    (270, tabObj (tri4 c1 c2 c3 c4)) ∈ led' ∧ (504, tabObj (tri1 c0)) ∈ led' ∧ (c.cdx, dictOf [] 0) ∈ led' ∧ (∃ w1 w2 w3 w4 w5 w6 w7, (c.cv, convObj c.cdx c.ms c.mu c.to w1 w2 w3 w4 w5 w6 w7) ∈ led') ∧ (cdx, dictOf [] 0) ∈ led' ∧ (∃ kA kB, (cv, fullObj cdx to ms mu kA kB) ∈ led') := by
  have C1 : ConvIn w led c := C.mono fun p hp => hnd p (hND p hp)
  obtain ⟨oc, vs, t, g1, g2, g3⟩ := hc0
  obtain ⟨c', e1, e2, C2⟩ := conv_in (hooks := (p, Str.ofString "later", Value.ref 488, false) :: c.hooks) (nl := nl) co hnd ml md hod mf (fun k hk => by
    rcases List.mem_cons.mp hk with rfl | hk
    · exact ⟨⟨f, kc, c0, pm, ctv, oc, ok, vs, n1, t, tk, m1, m2, hnd _ (hND _ g1), g2, g3, m3, hok⟩⟩
    · exact C1.hk k hk)
  have hh2 : c'.hooks.map (·.2) = hooksOf n true := by
    rw [e2, List.map_cons, hh]
    rfl
  refine ⟨led, N, fun kv own hk => one_all C1 hh hk own, fun kv own hk => ?_, hook0_all C1 hh, ?_, t1, t2, C1.hcd, C1.hcv, hnd _ co.hcd, ?_⟩
  · rw [← e1]
    exact one_all C2 hh2 hk own
  · rw [← e1]
    exact hook0_all C2 hh2
  · obtain ⟨kA, kB, q⟩ := co.hcv
    exact ⟨kA, kB, hnd _ q⟩
theorem fm7 (x : Int) : 0 ≤ x.fmod 7 ∧ x.fmod 7 < 7 := by
  rw [Int.fmod_eq_emod_of_nonneg _ (by decide)]
  omega
theorem kind_item {prog : Program} {w : World} {A : Around} {E : Value → Shared → Prop} {s : Shared} {h₀ : Heap} {L : Addr} {news : List (Addr × Obj)} {value slice : PySem.Expr} {l : Addr} {n t1 t2 t3 t4 t5 t6 : Nat} {k : Int} {u : Tok} {Q : Value → Shared → Prop} (N : News h₀ L s.heap news)
  (hm : (l, listOf #[.str "hooked" t1, .str "refusing" t2, .str "made" t3, .str "falling" t4, .str "unknown" t5, .str "later" t6, .none] n) ∈ news) (h0 : 0 ≤ k ∧ k < 7) (h : ∀ v, KindV v → Q v s)
  (hs : subscripted slice false (.ref l) (.int k u) = operate [.ref l, .int k u] (getItem (.ref l) (.int k u)) := by with_unfolding_all rfl) :
  wpAny (model prog w) A (subscriptTail value slice (.ref l) (.int k u)) Q E s := by
  have hl : s.heap.IsList l (#[.str "hooked" t1, .str "refusing" t2, .str "made" t3, .str "falling" t4, .str "unknown" t5, .str "later" t6, .none] : Array Value) := News.isList N hm
  have hv : ∃ v, (#[.str "hooked" t1, .str "refusing" t2, .str "made" t3, .str "falling" t4, .str "unknown" t5, .str "later" t6, .none] : Array Value)[k.toNat]? = some v ∧ KindV v := by
    have : k = 0 ∨ k = 1 ∨ k = 2 ∨ k = 3 ∨ k = 4 ∨ k = 5 ∨ k = 6 := by omega
    rcases this with rfl | rfl | rfl | rfl | rfl | rfl | rfl
    · exact ⟨_, rfl, .inr ⟨_, by decide, _, rfl⟩⟩
    · exact ⟨_, rfl, .inr ⟨_, by decide, _, rfl⟩⟩
    · exact ⟨_, rfl, .inr ⟨_, by decide, _, rfl⟩⟩
    · exact ⟨_, rfl, .inr ⟨_, by decide, _, rfl⟩⟩
    · exact ⟨_, rfl, .inr ⟨_, by decide, _, rfl⟩⟩
    · exact ⟨_, rfl, .inr ⟨_, by decide, _, rfl⟩⟩
    · exact ⟨_, rfl, .inl rfl⟩
  obtain ⟨v, hx, hk⟩ := hv
  exact tail_any hl.typeIs slot_list_getitem.lookup (wpAny_getItem_list hl h0.1 (by omega) hx (h v hk)) hs
theorem RestS.ind {prog : Program} {w : World} {A : Around} {E : Value → Shared → Prop} {env : Env} {target : PySem.Expr} {body : List Stmt} {Q : Flow → Shared → Prop} {s : Shared} {news : List (Addr × Obj)} {G : Heap → (Str → Option Value) → List (Addr × Obj) → Heap → Prop} (keep : List Str) {m₀ : Str → Option Value}
  (turn : ∀ (i : Nat) (t : Tok) m g h tk its (Rq : (Str → Option Value) → Prop), (∀ x ∈ keep, m x = m₀ x) → (∀ m', (∀ x ∈ keep, m' x = m₀ x) → Rq m') → G g m (its ++ news) h →
    wpAny (model prog w) A (assign target env (.int (i : Int) t)) (fun _ s₂ => wpAny (model prog w) A (execs body env) (fun f s₃ => match f with
        | .next => EndS s (its ++ news) G Rq s₃
        | .cont => EndS s (its ++ news) G Rq s₃
        | .brk => Q .next s₃
        | .ret v => Q (.ret v) s₃) E s₂) E { s with heap := h, toks := tk })
  (fin : ∀ m g h tk, (∀ x ∈ keep, m x = m₀ x) → G g m news h → Q .next { s with heap := h, toks := tk }) :
  ∀ (ps : List (Value → Prop)), (∀ p ∈ ps, ∃ i : Nat, ∀ v, p v → ∃ t, v = .int (i : Int) t) → ∀ m, (∀ x ∈ keep, m x = m₀ x) → RestS prog w A E env target body Q s news G ps m
  | [], _, m, hm => fun g h tk hG => fin m g h tk hm hG
  | p :: ps, hp, m, hm => fun v g h tk its hv hG => by
    obtain ⟨i, hi⟩ := hp p (.head _)
    obtain ⟨t, rfl⟩ := hi v hv
    exact turn i t m g h tk its _ hm (fun m' hm' => RestS.ind keep turn fin ps (fun q hq => hp q (.tail _ hq)) m' hm') hG
end Mine
namespace Mine
open PySem PySem.W PyProof.Rows PySem.Calls
set_option maxHeartbeats 1200000
local macro_rules | `(tactic| walk_at "call ref") => `(tactic| (k_here; (with_reducible show wpAny _ _ (call (Value.ref 509) [Value.str _ _]) _ _ _); k_dflt (first
  | (refine' law_is0U ?B ?F ?X ?N ?T ?hk ?hd ?hu ?hc ?U ?_; (case B => assumption); (case F => k_asm); (case X => assumption); (case N => k_asm); (case T => assumption); (case hk => first | exact rfl | assumption); (case hd => ktr_room); (case hu => ktr_units); (case hc => assumption); (case U => k_updF); (intro f' c' kc' oc' ok' vs' t' pm' ct' h' tk' F' N' d1' d2' d3' l0 l1 l2); (try dsimp only at N'); (try k_lt l0))
  | (refine' law_is1 ?B ?F ?X ?N ?T ?hk ?hd ?hu ?hc ?m ?_; (case B => assumption); (case F => k_asm); (case X => assumption); (case N => k_asm); (case T => assumption); (case hk => first | exact rfl | assumption); (case hd => ktr_room); (case hu => ktr_units); (case hc => assumption); (case m => k_mem); (intro f' kc' ok' pm' ct' h' tk' F' N' d3' l0 l2); (try k_lt l0)))))
local macro_rules | `(tactic| walk_at "call ref") => `(tactic| (k_here; (with_reducible show wpAny _ _ (call (Value.ref 313) [Value.ref _, Value.ref _, _]) _ _ _); k_dflt (refine' hook_funcU ?B ?F ?X ?N ?T ?hk ?hd ?hu ?m1 ?m2 ?m3 ?m4 ?m5 ?m6 ?U1 ?U2 ?od ?lod ?hlt ?q1 ?q2 ?q3 ?q4 ?q5 ?q6 ?hvs ?_; (case B => assumption); (case F => k_asm); (case X => assumption); (case N => k_asm); (case T => assumption); (case hk => first | exact rfl | assumption); (case hd => ktr_room); (case hu => ktr_units); (case m1 => k_mem); (case m2 => k_mem); (case m3 => k_mem); (case m4 => k_mem); (case m5 => k_mem); (case m6 => k_mem); (case U1 => k_updF); (case U2 => (intro o'; k_updF)); (case od => assumption); (case lod => assumption); (case hlt => omega); (case q1 => (constructor <;> omega)); (case q2 => (constructor <;> omega)); (case q3 => (constructor <;> omega)); (case q4 => (constructor <;> omega)); (case q5 => (constructor <;> omega)); (case q6 => (constructor <;> omega)); (case hvs => first | assumption | exact Nat.le_of_ble_eq_true rfl)); (intro p n3 od' h' tk' F' N' hod' l0); (try dsimp only at N'); (try k_lt l0)))
local macro_rules | `(tactic| walk_at "call ref") => `(tactic| (k_here; (with_reducible show wpAny _ _ (call (Value.ref 530) _ _) _ _ _); refine stopT2 ?_))
local macro_rules | `(tactic| walk_at "call ref") => `(tactic| (k_here; (with_reducible show wpAny _ _ (call (Value.ref 449) _ _) _ _ _); refine stopT2 ?_))
local macro_rules | `(tactic| walk_at "call ref") => `(tactic| (k_here; (with_reducible show wpAny _ _ (call (Value.ref 336) [_, Value.str _ _]) _ _ _); k_dflt ((refine' Tell.use (Hook0All.use ?C) ?k1 ?k2 ?k3 ?k4 ?k5 ?k6 ?k7 ?k8 ?k9 ?_); (case C => assumption); (case k1 => assumption); (case k2 => assumption); (case k3 => assumption); (case k4 => assumption); (case k5 => assumption); (case k6 => first | rfl | assumption); (case k7 => ktr_room); (case k8 => ktr_units); (case k9 => (intro p hp; (repeat first | (with_reducible exact hp) | (with_reducible refine List.mem_cons_of_mem _ ?_)))); (intro v tl h' tk' F' N' hv); (have e1 := hv.1); (have e2 := hv.2); (clear hv); (subst e1); (subst e2); (try dsimp only [List.nil_append] at N'))))
local macro_rules | `(tactic| walk_at "exec For Name Call cons nil") => `(tactic| (k_here; (fail_if_success (with_reducible rename Mark => mkX)); refine stopT2 ?_))
local macro_rules | `(tactic| walk_at "callWith ref") => `(tactic| (k_here; (with_reducible show wpAny _ _ (callWith _ (Value.ref _) _ (backTo _ (starEach [] _)) []) _ _ _); k_dflt (refine' callWith_K0' ?k1 ?k3 ?k2 ?_; (case k1 => k_asm); (case k3 => k_asm); (case k2 => k_is); k_whole; (try dsimp only [List.nil_append, List.append_nil]))))
local macro_rules | `(tactic| walk_at "callWith ref cons nil") => `(tactic| (k_here; (with_reducible show wpAny _ _ (callWith _ (Value.ref _) _ (backTo _ (starEach [] _)) []) _ _ _); k_dflt (refine' callWith_K0' ?k1 ?k3 ?k2 ?_; (case k1 => k_asm); (case k3 => k_asm); (case k2 => k_is); k_whole; (try dsimp only [List.nil_append, List.append_nil]))))
local macro_rules | `(tactic| walk_at "callWith ref") => `(tactic| (k_here; k_dflt (refine' callWith_K ?k1 ?k2 ?_; (case k1 => k_asm); (case k2 => k_is); k_whole)))
local macro_rules | `(tactic| walk_at "subscriptTail") => `(tactic| (k_here; (with_reducible show wpAny _ _ (subscriptTail (PySem.Expr.Call _ _ _ _) _ (Value.ref _) (Value.int _ _)) _ _ _); (with_unfolding_all refine' kind_item ?k1 ?k2 ?k3 ?_ ?k6; (case k1 => k_asm); (case k2 => k_mem); (case k3 => exact fm7 _); (case k6 => with_unfolding_all rfl); k_whole); intro kv' hK'))
local macro_rules | `(tactic| walk_at "call ref") => `(tactic| (k_here; (with_reducible show wpAny _ _ (call (Value.ref 551) _ _) _ _ _); k_dflt ((refine' TellS.use (OneAll.use ?C ?kv) ?k1 ?k2 ?k3 ?k4 ?k5 ?XB ?TB ?D ?T0 ?k6 ?k7 ?k8 ?k9 ?_); (case C => assumption); (case kv => assumption); (case k1 => assumption); (case k2 => assumption); (case k3 => assumption); (case k4 => assumption); (case k5 => assumption); (case XB => assumption); (case TB => assumption); (case D => assumption); (case T0 => first | assumption | exact KtsTurn.refl); (case k6 => first | rfl | assumption); (case k7 => k_room); (case k8 => k_units); (case k9 => (intro p hp; (repeat first | (with_reducible exact hp) | (with_reducible refine List.mem_cons_of_mem _ ?_) | (with_reducible refine List.mem_append_right _ ?_)))); (intro v tl h₁ h' tk' T' F' N' K' X' P' D' hR); (first | ((have e2 := hR.2); (have e1 := hR.1); (clear hR); (subst e1); (subst e2); (try dsimp only [List.nil_append] at N')) | skip); (try k_lift K'); (try k_sweep))))
local macro_rules | `(tactic| walk_at "RestS") => `(tactic| (refine stopT2 ?_))
local macro_rules | `(tactic| walk_at "compareOp Eq ref ref") => `(tactic| (k_here; k_dflt (refine' Mine.eq_fnK0 ?F ?X ?lx ?cx ?hu ?_; (case F => k_asm); (case X => assumption); (case lx => assumption); (case cx => assumption); (case hu => k_units); k_whole)))
local macro_rules | `(tactic| walk_at "call ref") => `(tactic| (k_here; (with_reducible show wpAny _ _ (call (Value.ref 474) _ _) _ _ _); cell_call))
theorem fr_back {g g' h : Heap} {L : Addr} {m : Str → Option Value} (T : KtsTurn (([] : List Env).filterMap (·.frame)) g g') (F : Fr g' L h m) : Fr g L h m := ⟨F.ns, fun b o e => F.keep b o (T.other b o e nofun), by rw [← T.size]; exact F.above⟩
theorem dictsT {mean : ExcName → Option Value} {mg mb : Str → Option Value} {h₀ : Heap} (_T : Top topProg LO mean mg mb h₀) : KtsDicts (([] : List Env).filterMap (·.frame)) h₀ := ktsDicts_nil
theorem law_holds : PySem.Challenge.rw_fq0010_01.Holds := by
  refine Mine.hd ?_
  k_go0
  (all_goals try k_fold)
  k_steps
  unfold Stop2
  (rename News _ _ _ _ => N5)
  (rename Fr _ _ _ _ => F5)
  (rename CodeHd _ (508, 504).1 _ => hc2)
  (rename CodeHd _ (274, 270).1 _ => hc1)
  replace hc1 := show CodeHd _ 274 270 from hc1
  replace hc2 := show CodeHd _ 508 504 from hc2
  k_dflt (refine' wpAny_call (law_conv (news := []) (outer := []) ?B F5 ?X N5 ?T ?kk ?kd ?ku hc1 hc2 ?hx ?_); (case B => assumption); (case X => assumption); (case T => assumption); (case kk => first | exact rfl | assumption); (case kd => k_room); (case ku => k_units); (case hx => exact fun p hp => nomatch hp))
  intro c c0 c1 c2 c3 c4 ND hb tkb Fb Nb C CC hh hn hcs hc0 sp
  clear N5 F5
  (with_reducible rename Top topProg _ _ _ _ _ => T9)
  have H0 := hook0_allT T9 C hh
  have hcd9 := C.hcd
  obtain ⟨w1, w2, w3, w4, w5, w6, w7, hcv9⟩ := C.hcv
  k_steps
  unfold Stop2
  (rename News _ _ _ _ => N5)
  (rename Fr _ _ _ _ => F5)
  k_dflt (refine' wpAny_call (conv_copy (news := ND) (outer := []) (c := c) ?B F5 ?X N5 ?T ?kk ?kd ?ku hc1 sp hcs C CC (Nat.le_trans (hooks_len hh) (by decide)) ?_); (case B => assumption); (case X => assumption); (case T => assumption); (case kk => first | exact rfl | assumption); (case kd => k_room); (case ku => k_units))
  intro cv cdx to mu muX ddU fdU fdUx lstU ms mdx dd fd fdx lst D pc pa od j1 j2 u1 u2 nd hb2 tkb2 Fb2 Nb2 hod hnn co hD1 hD2
  clear N5 F5
  have sx1 : ∀ p ∈ nd, p.1 ≠ D := fun p hp => Nat.ne_of_lt (hD2 p hp)
  have sx2 : ∀ p ∈ nd, p.1 ≠ dd := fun p hp => (co.sep p hp).2.1
  obtain ⟨kA, kB, bcv⟩ := co.hcv
  have bcd := co.hcd
  have bms := co.hms
  obtain ⟨bm, i1, i2, i3, i4, t1, t2, t3, t4, bmdx, bbm⟩ := co.hmdx
  have bfd := co.hfd
  have e1 : @Ne Nat cv D ∧ @Ne Nat cv dd := ⟨sx1 _ bcv, sx2 _ bcv⟩
  have e2 : @Ne Nat cdx D ∧ @Ne Nat cdx dd := ⟨sx1 _ bcd, sx2 _ bcd⟩
  have e3 : @Ne Nat ms D ∧ @Ne Nat ms dd := ⟨sx1 _ bms, sx2 _ bms⟩
  have e4 : @Ne Nat mdx D ∧ @Ne Nat mdx dd := ⟨sx1 _ bmdx, sx2 _ bmdx⟩
  have e5 : @Ne Nat fd D ∧ @Ne Nat fd dd := ⟨sx1 _ bfd, sx2 _ bfd⟩
  have oo0 := co.o0
  have oo00 := co.o00
  have oo3 := co.o3
  have oo4 := co.o4
  have oo5 := co.o5
  have oo6 := co.o6
  have lod := co.lod
  have hl9 : (c.hooks.map (fun (h : Hk) => Value.ref h.1) ++ [Value.ref pc, Value.ref pa]).length ≤ 100 := by
    rw [List.length_append, List.length_map]
    have := hooks_len hh
    simp only [List.length_cons, List.length_nil]
    omega
  k_steps
  unfold Stop2
  (rename News _ _ _ _ => N9)
  refine' Exists.elim (law_pack T9 N9 hnn ?hnd C hh hc0 co ?m1 ?m2 ?m3 ?hok ?ml ?md ?hod ?mf ?t1 ?t2) ?fin
  case hnd => (intro p hp; (repeat first | (with_reducible exact hp) | (with_reducible refine List.mem_cons_of_mem _ ?_)))
  case mf => k_mem
  case ml => k_mem
  case m1 => k_mem
  case m2 => k_mem
  case m3 => k_mem
  case hok => assumption
  case md => k_mem
  case hod => assumption
  case t1 => k_mem
  case t2 => k_mem
  case fin =>
    rintro led ⟨NL, H1, H2, H3, H4, tb1, tb2, cd1, ⟨z1, z2, z3, z4, z5, z6, z7, cv1⟩, cd2, ⟨kA2, kB2, cv2⟩⟩
    clear N9
    have D9 := dictsT T9
    have mk : Mark := trivial
    obtain ⟨oR, lR, cR⟩ := fnR (w := _) (((cellAt _ 0 0).fdiv 14).fmod 2 == 1)
    k_steps
    unfold Stop2
    refine RestS.ind [Str.ofString "script", Str.ofString "newer", Str.ofString "converter", Str.ofString "copied", Str.ofString "first"] ?turn ?endd _ ?ps _ (fun _ _ => rfl)
    case ps =>
      intro p hp
      iterate 6
        rcases List.mem_cons.mp hp with rfl | hp
        · exact ⟨_, fun v h => h⟩
      cases hp
    case turn =>
      intro i ti mq gq hq tkq its Rq hmq hRq Gq
      obtain ⟨Tq, Fq, Nq, Bq, Xq, Pq, Dq⟩ := Gq
      have n1 := (hmq (Str.ofString "script") (by simp)).trans (rfl : _ = some _)
      have n2 := (hmq (Str.ofString "newer") (by simp)).trans (rfl : _ = some _)
      have n3 := (hmq (Str.ofString "converter") (by simp)).trans (rfl : _ = some _)
      have n4 := (hmq (Str.ofString "copied") (by simp)).trans (rfl : _ = some _)
      (try k_lift Bq)
      k_steps
      refine hRq _ fun x hx => ?_
      simp only [List.mem_cons, List.not_mem_nil, or_false] at hx
      rcases hx with rfl | rfl | rfl | rfl | rfl <;> ((repeat rw [if_neg (by decide)]); exact hmq _ (by simp))
    case endd =>
      intro mq gq hq tkq hmq Gq
      obtain ⟨Tq, Fq, Nq, Bq, Xq, Pq, Dq⟩ := Gq
      have n3 := (hmq (Str.ofString "converter") (by simp)).trans (rfl : _ = some _)
      have n4 := (hmq (Str.ofString "copied") (by simp)).trans (rfl : _ = some _)
      have n5 := (hmq (Str.ofString "first") (by simp)).trans (rfl : _ = some _)
      (try k_lift Bq)
      k_steps
      (with_reducible rename Fr _ _ _ _ => Fz)
      refine goodW_bool (fr_back Tq Fz) (by assumption) (raisesW_false ?_) ?_
      · wrow_none_raised
      · wrow_post
end Mine
theorem PySem.Challenge.cw_fq0010_01_holds : PySem.Challenge.rw_fq0010_01.Holds := by
  exact Mine.law_holds
